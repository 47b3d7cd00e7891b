import JvmDerived
import JvmDerived.Pilot.@@N@@Statement
import JvmDerived.Pilot.@@N@@Code
set_option linter.unusedVariables false
set_option linter.unusedSimpArgs false
namespace Jvm.Pilot.@@N@@
open Jvm Jvm.ClassFile Sem Op Lib Jvm.Free Jvm.Stand Jvm.LawKit Jvm.RoadKit Bundle Jvm.Pilot.@@N@@.Jvm.D
abbrev own_jv (x : Int64) : Slot := .val (.long x)
theorem own_i_lt {a b : Int32} (h : a < b) : a.toInt < b.toInt := Int32.lt_iff_toInt_lt.mp h
theorem own_i_nlt {a b : Int32} (h : ¬ a < b) : b.toInt ≤ a.toInt := Int.not_lt.mp fun q => h (Int32.lt_iff_toInt_lt.mpr q)
theorem own_i_eq {a b : Int32} (h : a = b) : a.toInt = b.toInt := congrArg Int32.toInt h
theorem own_i_ne {a b : Int32} (h : ¬ a = b) : ¬ a.toInt = b.toInt := fun q => h (Int32.toInt_inj.mp q)
theorem own_j_lt {a b : Int64} (h : a < b) : a.toInt < b.toInt := Int64.lt_iff_toInt_lt.mp h
theorem own_j_nlt {a b : Int64} (h : ¬ a < b) : b.toInt ≤ a.toInt := Int.not_lt.mp fun q => h (Int64.lt_iff_toInt_lt.mpr q)
theorem own_j_eq {a b : Int64} (h : a = b) : a.toInt = b.toInt := congrArg Int64.toInt h
theorem own_j_ne {a b : Int64} (h : ¬ a = b) : ¬ a.toInt = b.toInt := fun q => h (Int64.toInt_inj.mp q)
theorem own_b1 {P : Prop} (h : P) : ((1 : Int32).toInt = 1 ∧ P) ∨ ((1 : Int32).toInt = 0 ∧ ¬ P) := Or.inl ⟨by decide, h⟩
theorem own_b0 {P : Prop} (h : ¬ P) : ((0 : Int32).toInt = 1 ∧ P) ∨ ((0 : Int32).toInt = 0 ∧ ¬ P) := Or.inr ⟨by decide, h⟩
theorem own_cat {w : Value} (hw : w.isRef = true) : w.category = 1 := by rcases ref_cases hw with rfl | ⟨a, rfl⟩ <;> rfl
theorem own_fitR {t : FieldType} (ht : t.isReference = true) {w : Value} (hw : w.isRef = true) : fits t w = true := by
  rcases ref_cases hw with rfl | ⟨a, rfl⟩ <;> cases t <;> first | rfl | cases ht
theorem own_static {s : State} {args : Array Value} {C n d K : String} (h : (Jvm.Cond.exactly (Jvm.Term.static C n d) K).value args s none s [] = some true) (wi : (Jvm.Cond.initialized C).before args s = true) (wl : (Jvm.Cond.laysStatic C n d).before args s = true) : ∃ a, (Jvm.Term.static C n d).eval args s none [] s = some (.ref a) ∧ Sta s s.heap C n d (.ref a) ∧ Exa s s.heap a K := by
  obtain ⟨a, ev⟩ := exa_v h
  exact ⟨a, ev, Sta.start ev (Or.inr ⟨wi, wl⟩), Exa.start ev h⟩
theorem own_teq {s : State} {args : Array Value} {t : Jvm.Term} {x : Int32} (h : (Jvm.Cond.eq t (Jvm.Term.int x)).value args s none s [] = some true) : t.eval args s none [] s = some (.int x) := by
  simp only [Cond.value, Term.int_eval] at h
  cases hv : t.eval args s none [] s with
  | none => simp [hv] at h
  | some v => cases v <;> simp [hv] at h ⊢; exact h
theorem own_fint {s : State} {args : Array Value} {t : Jvm.Term} {C n d : String} {x : Int32} {a : Addr} (h : (Jvm.Cond.eq (Jvm.Term.field t C n d) (Jvm.Term.int x)).value args s none s [] = some true) (e : t.eval args s none [] s = some (.ref a)) : s.fieldOf? a C n d = some (.int x) := by
  have q := fld_at (C := C) (n := n) (dd := d) e
  simp only [Cond.value, q, Term.int_eval] at h
  cases hv : s.fieldOf? a C n d with
  | none => simp [hv] at h
  | some v => cases v <;> simp [hv] at h ⊢; exact h
theorem own_ord {s : State} {args : Array Value} {t t' : Jvm.Term} {C n d : String} {x y : Int32} {a b : Nat} (h : (Jvm.Cond.eq (Jvm.Term.field t C n d) (Jvm.Term.int x)).value args s none s [] = some true) (e : t.eval args s none [] s = some (.ref a)) (h' : (Jvm.Cond.eq (Jvm.Term.field t' C n d) (Jvm.Term.int y)).value args s none s [] = some true) (e' : t'.eval args s none [] s = some (.ref b)) (hn : x ≠ y) : ¬ a = b := fun q => by
  subst q
  have := (own_fint h e).symm.trans (own_fint h' e')
  cases this
  exact hn rfl
def own_O (Z : State) (a : Addr) (k : Int32) : Prop := Z.fieldOf? a "java/lang/Enum" "ordinal" "I" = some (.int k)
theorem own_one {Z : State} {a b : Nat} {i j : Int32} (h : own_O Z a i) (h' : own_O Z b j) (hn : i ≠ j) : ¬ a = b := fun q => by
  subst q
  have := Eq.symm h |>.trans h'
  cases this
  exact hn rfl
theorem own_fldR {s : State} {args : Array Value} {t : Jvm.Term} {C n d K : String} {a : Addr} (h : (Jvm.Cond.exactly (Jvm.Term.field t C n d) K).value args s none s [] = some true) (e : t.eval args s none [] s = some (.ref a)) : ∃ b, Fld s s.heap a C n d (.ref b) := by
  obtain ⟨b, ev⟩ := exa_v h
  rw [fld_at e] at ev
  exact ⟨b, Fld.start ev⟩
theorem own_fldN {s : State} {args : Array Value} {t : Jvm.Term} {C n d : String} {a : Addr} (h : (Jvm.Cond.eq (Jvm.Term.field t C n d) Jvm.Term.null).value args s none s [] = some true) (e : t.eval args s none [] s = some (.ref a)) : Fld s s.heap a C n d .null := by
  have ev := null_v h
  rw [fld_at e] at ev
  exact Fld.start ev
theorem own_ne {x y : Addr} (h : @Ne Nat x y) : x ≠ y := h
theorem own_lt {x : Addr} {y : Nat} (h : x < y) : @LT.lt Nat instLTNat x y := h
section OwnKit
variable {p : Program} {l : Launch} {e : Env} {R : Room} {s : State} {m : MethodId} {args : Array Value} {below : List Frame} {meth : Method} {c : Code} {T : State} {locs : List Loc} {cells slots : Nat} {Z : State} {a0 : Array Value} {h h' : Heap} {Q : Option Value → Heap → List Loc → Prop}
/-- from U the run comes to its end, and what it leaves is Q's -/
def own_Goes (p : Program) (e : Env) (below : List Frame) (s : State) (R : Room) (Q : Option Value → Heap → List Loc → Prop) (U : State) : Prop :=
  ∃ s₂ o, Steps p.tables e below U s₂ ∧ s₂.status = .running ∧ Ended s₂ below o ∧ ∃ v L, o = .returned v ∧ Q v s₂.heap L ∧ FrameEnd s o s₂ L R.cells R.slots
theorem own_st {U U' : State} (k : ∀ t, Steps p.tables e below U' t → Steps p.tables e below U t) (g : own_Goes p e below s R Q U') : own_Goes p e below s R Q U := by
  obtain ⟨s₂, o, h1, h2⟩ := g
  exact ⟨s₂, o, k _ h1, h2⟩
theorem own_fin (X : Stand p l e R s m args below meth c T locs cells slots) (hk : meth.locks = false) {v : Option Value} (hv : meth.sig.returnType = none → v = none) {U : State}
    (hs : ∀ fs, (∀ (f : JFrame) (acts : List Action), f.method = m → f.locked = none → f.entered = [] → (doReturn e (T.setTop f) acts v).1 = T.setFrames fs) → Steps p.tables e below U (T.setFrames fs))
    (hc : cells ≤ R.cells) (hl : slots ≤ R.slots) (q : Q v T.heap locs) : own_Goes p e below s R Q U := by
  obtain ⟨fs, hr, hrun, hended, hW, hsame⟩ := X.leave hv hk
  exact ⟨_, _, hs fs hr, hrun, hended, v, locs, rfl, q, ⟨v, rfl⟩, hW, hsame.mono hc hl⟩
theorem own_ret (X : Stand p l e R s m args below meth c T locs cells slots) (hx : p.tables.exec = Jvm.exec) (hk : meth.locks = false) {pc : Nat} {Ls : Array Slot} {w : Value} {t : FieldType} {i : Instr} {rest : List Value} (hret : meth.sig.returnType = some t) (hn : narrow t w = w)
    (hi : (i = .ireturn ∧ (t = .int ∨ t = .boolean ∨ t = .byte ∨ t = .char ∨ t = .short) ∧ ∃ z, w = .int z) ∨ (i = .lreturn ∧ t = .long ∧ ∃ z, w = .long z) ∨ (i = .dreturn ∧ t = .double ∧ ∃ z, w = .double z) ∨ (i = .freturn ∧ t = .float ∧ ∃ z, w = .float z) ∨ (i = .areturn ∧ t.isReference = true ∧ w.isRef = true))
    (hd : decode c.code pc = .ok (i, 1)) (hc : cells ≤ R.cells) (hl : slots ≤ R.slots) (q : Q (some w) T.heap locs) : own_Goes p e below s R Q (T.setTop (mkF m pc Ls (w :: rest))) :=
  own_fin X hk (fun h => by rw [hret] at h; cases h) (fun fs hr => retOut X hx hret hn hi hd hr) hc hl q
theorem own_retI (X : Stand p l e R s m args below meth c T locs cells slots) (hx : p.tables.exec = Jvm.exec) (hk : meth.locks = false) {pc : Nat} {Ls : Array Slot} {z : Int32} {rest : List Value} (hret : meth.sig.returnType = some .int)
    (hd : decode c.code pc = .ok (.ireturn, 1)) (hc : cells ≤ R.cells) (hl : slots ≤ R.slots) (q : Q (some (.int z)) T.heap locs) : own_Goes p e below s R Q (T.setTop (mkF m pc Ls (.int z :: rest))) :=
  own_ret X hx hk hret rfl (Or.inl ⟨rfl, Or.inl rfl, z, rfl⟩) hd hc hl q
theorem own_retJ (X : Stand p l e R s m args below meth c T locs cells slots) (hx : p.tables.exec = Jvm.exec) (hk : meth.locks = false) {pc : Nat} {Ls : Array Slot} {z : Int64} {rest : List Value} (hret : meth.sig.returnType = some .long)
    (hd : decode c.code pc = .ok (.lreturn, 1)) (hc : cells ≤ R.cells) (hl : slots ≤ R.slots) (q : Q (some (.long z)) T.heap locs) : own_Goes p e below s R Q (T.setTop (mkF m pc Ls (.long z :: rest))) :=
  own_ret X hx hk hret rfl (Or.inr (Or.inl ⟨rfl, rfl, z, rfl⟩)) hd hc hl q
theorem own_narR {t : FieldType} (ht : t.isReference = true) {w : Value} (hw : w.isRef = true) : narrow t w = w := by
  rcases ref_cases hw with rfl | ⟨a, rfl⟩ <;> cases t <;> first | rfl | cases ht
theorem own_retR (X : Stand p l e R s m args below meth c T locs cells slots) (hx : p.tables.exec = Jvm.exec) (hk : meth.locks = false) {pc : Nat} {Ls : Array Slot} {w : Value} {t : FieldType} {rest : List Value} (hret : meth.sig.returnType = some t) (ht : t.isReference = true) (hw : w.isRef = true)
    (hd : decode c.code pc = .ok (.areturn, 1)) (hc : cells ≤ R.cells) (hl : slots ≤ R.slots) (q : Q (some w) T.heap locs) : own_Goes p e below s R Q (T.setTop (mkF m pc Ls (w :: rest))) :=
  own_ret X hx hk hret (own_narR ht hw) (Or.inr (Or.inr (Or.inr (Or.inr ⟨rfl, ht, hw⟩)))) hd hc hl q
theorem own_retN (X : Stand p l e R s m args below meth c T locs cells slots) (hx : p.tables.exec = Jvm.exec) (hk : meth.locks = false) {pc : Nat} {Ls : Array Slot} {z : Int32} (z' : Int32) {t : FieldType} {rest : List Value} (hret : meth.sig.returnType = some t) (ht : t = .boolean ∨ t = .byte ∨ t = .char ∨ t = .short) (hz : nar t z = z')
    (hd : decode c.code pc = .ok (.ireturn, 1)) (hc : cells ≤ R.cells) (hl : slots ≤ R.slots) (q : Q (some (.int z')) T.heap locs) : own_Goes p e below s R Q (T.setTop (mkF m pc Ls (.int z :: rest))) := by
  subst hz
  exact own_fin X hk (fun h => by rw [hret] at h; cases h) (fun fs hr => retN X hx hret ht hd hr) hc hl q
theorem own_ret0 (X : Stand p l e R s m args below meth c T locs cells slots) (hx : p.tables.exec = Jvm.exec) (hk : meth.locks = false) {pc : Nat} {Ls : Array Slot} (hret : meth.sig.returnType = none)
    (hd : decode c.code pc = .ok (.return_, 1)) (hc : cells ≤ R.cells) (hl : slots ≤ R.slots) (q : Q none T.heap locs) : own_Goes p e below s R Q (T.setTop (mkF m pc Ls [])) :=
  own_fin X hk (fun _ => rfl) (fun fs hr => X.returnOut hx hret hd hr) hc hl q
theorem own_enter {y : MethodName} {bytes : ByteArray} {maxL : Nat} {ret : Option FieldType} {ws : List Jvm.Cond} {as' : Array Value} {h0 : Heap} {F : MethodId → JFrame}
    (hp : plainFor y = true) (hf : ∀ m, entryFrame m as' maxL = F m)
    (body : ∀ (p : Program) (e : Env) (s : State) (m : MethodId) (below : List Frame) (meth : Method) (c : Code) (T : State), Stand p l e R s m as' below meth c T [] 0 0 → p.tables.exec = Jvm.exec → c.code = bytes → c.maxLocals = maxL → meth.sig.returnType = ret → meth.locks = false → meth.name = y.name → s.vm.findClass y.cls = some m.cls → Z.Warmed39 s.vm → T.heap = h0 → own_Goes p e below s R Q (T.setTop (F m))) :
    MetFree l y (head1 (Jvm.Cond.code y bytes maxL ret :: ws) R) (fun a U => a = as' ∧ Z.Warmed39 U.vm ∧ U.heap = h0) (fun _ _ _ _ _ => True) (fun _ U o U' => ∃ v L, o = .returned v ∧ Q v U'.heap L ∧ FrameEnd U o U' L R.cells R.slots) := by
  refine MetFree.of_bodySF hp hisR ?_
  intro p e s m args below meth c s₁ Bd hml0 hP hK
  obtain ⟨rfl, hZ, hh⟩ := hP
  have e0 : s₁.heap = h0 := by rw [← hh, Bd.state]; rfl
  have g := body p e s m below meth c s₁ (Stand.of_body Bd) Bd.exec Bd.bytes hml0 Bd.returns Bd.notSynchronized (name_of_methodNamed Bd.named Bd.method).1 (findClass_of_methodNamed Bd.named) hZ e0
  rw [hf]
  exact g
theorem own_callS (X : Stand p l e R s m args below meth c T locs cells slots) (hx : p.tables.exec = Jvm.exec) (hZ : Z.Warmed39 s.vm) {own : String} {index : Nat} {y : MethodName} {bytes : ByteArray} {maxL : Nat} {ret : Option FieldType}
    (hown : s.vm.findClass own = some m.cls) (w1 : (Jvm.Cond.methodLink own index y).before a0 Z = true) (w2 : (Jvm.Cond.static y).before a0 Z = true) (w3 : (Jvm.Cond.initialized y.cls).before a0 Z = true) (w4 : (Jvm.Cond.code y bytes maxL ret).before a0 Z = true)
    (hy : y.cls ≠ "java/lang/invoke/MethodHandle" ∧ y.cls ≠ "java/lang/invoke/VarHandle") {W : Nat} {rm : Room} {argsL rest : List Value} {Qc : Option Value → Heap → List Loc → Prop}
    (hM : MetFree l y (head1 [Jvm.Cond.code y bytes maxL ret] rm) (fun a U => a = argsL.toArray ∧ Z.Warmed39 U.vm ∧ U.heap = h) (fun _ _ _ _ _ => True) (fun _ U o U' => ∃ v L, o = .returned v ∧ Qc v U'.heap L ∧ FrameEnd U o U' L rm.cells rm.slots))
    (hf : rm.frames + 1 ≤ R.frames) (hl : W + (maxL + 11) + rm.locals ≤ R.locals) (hc : cells + rm.cells ≤ R.cells) (hs : slots + rm.slots ≤ R.slots) (eT : T.heap = h)
    {ps : List FieldType} {r : Option FieldType} (hd : parseMethodDescriptor y.desc = some ⟨ps, r⟩) (hlen : argsL.length = ps.length)
    {g : JFrame} (hg : g.method = m) (hsize : g.locals.size = c.maxLocals) (hstack : g.stack = argsL.reverse ++ rest) (hW : 2 * g.monitorRoom + (rest.map fun v => v.category).sum ≤ W) (hdg : decode c.code g.pc = .ok (.invokestatic index, 3)) :
    ∃ (v : Option Value) (T' : State) (L : List Loc), Stand p l e R s m args below meth c T' (locs ++ L) (cells + rm.cells) (slots + rm.slots) ∧ Qc v T'.heap L ∧ ∀ t, Steps p.tables e below (T'.setTop { g with pc := g.pc + 3, stack := v.toList ++ rest }) t → Steps p.tables e below (T.setTop g) t := by
  obtain ⟨v, _, ⟨T', L', k', n'⟩, -, X', ⟨Lc, hQ, l', y', z'⟩, st⟩ := Jvm.LawKit.callS X hx (y := y) hown (mvT hZ w1) (mvT hZ w2) (mvT hZ w3) (mvT hZ w4) hy (backOf (W := W) hM hZ w4 w3 hf hl) hg hsize (argsL := argsL) (rest := rest) (lenOf hd hlen) hstack hW hdg (fun _ _ => ⟨rfl, eT, hc, hs⟩)
  dsimp only [Pt.U, Pt.locs, Pt.cells, Pt.slots] at X' l' y' z' st hQ
  subst l' y' z'
  exact ⟨v, T', Lc, X', hQ, st⟩
theorem own_callI (X : Stand p l e R s m args below meth c T locs cells slots) (hx : p.tables.exec = Jvm.exec) (hZ : Z.Warmed39 s.vm) {own : String} {index : Nat} {y : MethodName} {bytes : ByteArray} {maxL : Nat}
    (hown : s.vm.findClass own = some m.cls) (w1 : (Jvm.Cond.methodLink own index y).before a0 Z = true) (w2 : (Jvm.Cond.instanceMethod y).before a0 Z = true) (w3 : (Jvm.Cond.initialized y.cls).before a0 Z = true) (w4 : (Jvm.Cond.code y bytes maxL none).before a0 Z = true) (hy1 : y.name = "<init>")
    (hy : y.cls ≠ "java/lang/invoke/MethodHandle" ∧ y.cls ≠ "java/lang/invoke/VarHandle") {W : Nat} {rm : Room} {a : Addr} {argsL rest : List Value} {Qc : Option Value → Heap → List Loc → Prop}
    (hM : MetFree l y (head1 [Jvm.Cond.code y bytes maxL none] rm) (fun b U => b = (Value.ref a :: argsL).toArray ∧ Z.Warmed39 U.vm ∧ U.heap = h) (fun _ _ _ _ _ => True) (fun _ U o U' => ∃ v L, o = .returned v ∧ Qc v U'.heap L ∧ FrameEnd U o U' L rm.cells rm.slots))
    (hf : rm.frames + 1 ≤ R.frames) (hl : W + (maxL + 11) + rm.locals ≤ R.locals) (hc : cells + rm.cells ≤ R.cells) (hs : slots + rm.slots ≤ R.slots) (eT : T.heap = h)
    {ps : List FieldType} {r : Option FieldType} (hd : parseMethodDescriptor y.desc = some ⟨ps, r⟩) (hlen : argsL.length = ps.length)
    {g : JFrame} (hg : g.method = m) (hsize : g.locals.size = c.maxLocals) (hstack : g.stack = argsL.reverse ++ .ref a :: rest) (hW : 2 * g.monitorRoom + (rest.map fun v => v.category).sum ≤ W) (hdg : decode c.code g.pc = .ok (.invokespecial index, 3)) :
    ∃ (v : Option Value) (T' : State) (L : List Loc), Stand p l e R s m args below meth c T' (locs ++ L) (cells + rm.cells) (slots + rm.slots) ∧ Qc v T'.heap L ∧ ∀ t, Steps p.tables e below (T'.setTop { g with pc := g.pc + 3, stack := v.toList ++ rest }) t → Steps p.tables e below (T.setTop g) t := by
  obtain ⟨v, _, ⟨T', L', k', n'⟩, -, X', ⟨Lc, hQ, l', y', z'⟩, st⟩ := X.specialBack hx (y := y) hy1 hown (mvT hZ w1) (mvT hZ w2) (mvT hZ w4) hy (backOf (W := W) hM hZ w4 w3 hf hl) hg hsize (Steps.refl _) (a := a) (argsL := argsL) (rest := rest) (lenOf hd hlen) hstack hW hdg (fun _ _ => ⟨rfl, eT, hc, hs⟩)
  dsimp only [Pt.U, Pt.locs, Pt.cells, Pt.slots] at X' l' y' z' st hQ
  subst l' y' z'
  exact ⟨v, T', Lc, X', hQ, fun t k => st.trans k⟩
theorem own_callV (X : Stand p l e R s m args below meth c T locs cells slots) (hx : p.tables.exec = Jvm.exec) (hZ : Z.Warmed39 s.vm) {own C : String} {index : Nat} {y : MethodName} {bytes : ByteArray} {maxL : Nat} {ret : Option FieldType}
    (hown : s.vm.findClass own = some m.cls) (w1 : (Jvm.Cond.methodLink own index y).before a0 Z = true) (w5 : (Jvm.Cond.declares y).before a0 Z = true) (w6 : (Jvm.Cond.selects C y y).before a0 Z = true) (w2 : (Jvm.Cond.instanceMethod y).before a0 Z = true) (w3 : (Jvm.Cond.initialized y.cls).before a0 Z = true) (w4 : (Jvm.Cond.code y bytes maxL ret).before a0 Z = true)
    (hy : y.cls ≠ "java/lang/invoke/MethodHandle" ∧ y.cls ≠ "java/lang/invoke/VarHandle") {W : Nat} {rm : Room} {a : Addr} {argsL rest : List Value} {Qc : Option Value → Heap → List Loc → Prop}
    (hM : MetFree l y (head1 [Jvm.Cond.code y bytes maxL ret] rm) (fun b U => b = (Value.ref a :: argsL).toArray ∧ Z.Warmed39 U.vm ∧ U.heap = h) (fun _ _ _ _ _ => True) (fun _ U o U' => ∃ v L, o = .returned v ∧ Qc v U'.heap L ∧ FrameEnd U o U' L rm.cells rm.slots))
    (hf : rm.frames + 1 ≤ R.frames) (hl : W + (maxL + 11) + rm.locals ≤ R.locals) (hc : cells + rm.cells ≤ R.cells) (hs : slots + rm.slots ≤ R.slots) (eT : T.heap = h) (E : Exa Z h a C)
    {ps : List FieldType} {r : Option FieldType} (hd : parseMethodDescriptor y.desc = some ⟨ps, r⟩) (hlen : argsL.length = ps.length)
    {g : JFrame} (hg : g.method = m) (hsize : g.locals.size = c.maxLocals) (hstack : g.stack = argsL.reverse ++ .ref a :: rest) (hW : 2 * g.monitorRoom + (rest.map fun v => v.category).sum ≤ W) (hdg : decode c.code g.pc = .ok (.invokevirtual index, 3)) :
    ∃ (v : Option Value) (T' : State) (L : List Loc), Stand p l e R s m args below meth c T' (locs ++ L) (cells + rm.cells) (slots + rm.slots) ∧ Qc v T'.heap L ∧ ∀ t, Steps p.tables e below (T'.setTop { g with pc := g.pc + 3, stack := v.toList ++ rest }) t → Steps p.tables e below (T.setTop g) t := by
  obtain ⟨cq, kq, qa, qb, qc⟩ := isOf hZ eT E
  obtain ⟨v, _, ⟨T', L', k', n'⟩, -, X', ⟨Lc, hQ, l', y', z'⟩, st⟩ := X.virtualBack hx (y := y) (z := y) hown (mvT hZ w1) (mvT hZ w5) (notFace_of_selects (args := #[]) (mvT hZ w6)) (mvT hZ w6) (mvT hZ w2) hy (backOf (W := W) hM hZ w4 w3 hf hl) qa qc hg hsize (Steps.refl _) (argsL := argsL) (rest := rest) (lenOf hd hlen) hstack hW hdg (fun _ _ => ⟨rfl, eT, hc, hs⟩)
  dsimp only [Pt.U, Pt.locs, Pt.cells, Pt.slots] at X' l' y' z' st hQ
  subst l' y' z'
  exact ⟨v, T', Lc, X', hQ, fun t k => st.trans k⟩
theorem own_callP (X : Stand p l e R s m args below meth c T locs cells slots) (hx : p.tables.exec = Jvm.exec) (hZ : Z.Warmed39 s.vm) {own : String} {index : Nat} {y : MethodName} {bytes : ByteArray} {maxL : Nat} {ret : Option FieldType}
    (hown : s.vm.findClass own = some m.cls) (w1 : (Jvm.Cond.methodLink own index y).before a0 Z = true) (w5 : (Jvm.Cond.privateMethod y).before a0 Z = true) {ki : Nat} (w6 : (Jvm.Cond.instantiable y.cls ki).before a0 Z = true) (w2 : (Jvm.Cond.instanceMethod y).before a0 Z = true) (w3 : (Jvm.Cond.initialized y.cls).before a0 Z = true) (w4 : (Jvm.Cond.code y bytes maxL ret).before a0 Z = true)
    (hy : y.cls ≠ "java/lang/invoke/MethodHandle" ∧ y.cls ≠ "java/lang/invoke/VarHandle") {W : Nat} {rm : Room} {a : Addr} {argsL rest : List Value} {Qc : Option Value → Heap → List Loc → Prop} {C : String}
    (hM : MetFree l y (head1 [Jvm.Cond.code y bytes maxL ret] rm) (fun b U => b = (Value.ref a :: argsL).toArray ∧ Z.Warmed39 U.vm ∧ U.heap = h) (fun _ _ _ _ _ => True) (fun _ U o U' => ∃ v L, o = .returned v ∧ Qc v U'.heap L ∧ FrameEnd U o U' L rm.cells rm.slots))
    (hf : rm.frames + 1 ≤ R.frames) (hl : W + (maxL + 11) + rm.locals ≤ R.locals) (hc : cells + rm.cells ≤ R.cells) (hs : slots + rm.slots ≤ R.slots) (eT : T.heap = h) (E : Exa Z h a C)
    {ps : List FieldType} {r : Option FieldType} (hd : parseMethodDescriptor y.desc = some ⟨ps, r⟩) (hlen : argsL.length = ps.length)
    {g : JFrame} (hg : g.method = m) (hsize : g.locals.size = c.maxLocals) (hstack : g.stack = argsL.reverse ++ .ref a :: rest) (hW : 2 * g.monitorRoom + (rest.map fun v => v.category).sum ≤ W) (hdg : decode c.code g.pc = .ok (.invokevirtual index, 3)) :
    ∃ (v : Option Value) (T' : State) (L : List Loc), Stand p l e R s m args below meth c T' (locs ++ L) (cells + rm.cells) (slots + rm.slots) ∧ Qc v T'.heap L ∧ ∀ t, Steps p.tables e below (T'.setTop { g with pc := g.pc + 3, stack := v.toList ++ rest }) t → Steps p.tables e below (T.setTop g) t := by
  obtain ⟨cq, q1, q2⟩ := E.cell
  have hsel : (Jvm.Cond.selects y.cls y y).before args s = true := by
    obtain ⟨c2, k2, i1, i2, i3, i4, -⟩ := Cond.instantiable_spec (mv hZ w6 (args := args))
    exact selects_self_of_private i1 i2 (Bool.or_eq_false_iff.mp i4).1 (Cond.privateMethod_at (mvP hZ w5 (args := #[]))) (mvT hZ w2) hy
  obtain ⟨v, _, ⟨T', L', k', n'⟩, -, X', ⟨Lc, hQ, l', y', z'⟩, st⟩ := X.privateBack hx (y := y) hown (mvT hZ w1) (mvT hZ w2) hsel (Cond.privateMethod_at (mvP hZ w5 (args := #[]))) (mvT hZ w4) hy (backOf (W := W) hM hZ w4 w3 hf hl) hg hsize (Steps.refl _) (a := a) (by rw [eT]; exact q1) q2 (argsL := argsL) (rest := rest) (lenOf hd hlen) hstack hW hdg (fun _ _ => ⟨rfl, eT, hc, hs⟩)
  dsimp only [Pt.U, Pt.locs, Pt.cells, Pt.slots] at X' l' y' z' st hQ
  subst l' y' z'
  exact ⟨v, T', Lc, X', hQ, fun t k => st.trans k⟩
theorem own_sta_keep {C n d : String} {w : Value} {ws : List Addr} (F : Sta Z h C n d w) (K : Keep h h' ws) (q : ∀ x ∈ ws, ∀ c : Cell, h[x]? = some c → c.vm.isStatics = false) : Sta Z h' C n d w := by
  obtain ⟨cf, i, k, f, st, cell, h1, h2, h3, h4, h5, h6, h7⟩ := F
  exact ⟨cf, i, k, f, st, cell, h1, h2, h3, h4, K.2.1 _ _ h5 (fun hx => by have := q st hx cell h5; rw [this] at h6; cases h6), h6, h7⟩
theorem own_ext_keep (E : Ext h h') (ws : List Addr) : Keep h h' ws := (Keep.refl h ws).ext E
/-- an array at a: n places, the j-th holds f j -/
def own_Arf (Z : State) (h : Heap) (a : Addr) (ty : FieldType) (n : Nat) (f : Nat → Value) : Prop := ∃ c : Cell, Arr Z h a c ty ∧ c.slots.size = n ∧ ∀ j, j < n → c.slots[j]? = some (f j)
theorem own_Arf.lt {a : Nat} {ty : FieldType} {n : Nat} {f : Nat → Value} (F : own_Arf Z h a ty n f) : a < h.size := by obtain ⟨c, A, -⟩ := F; exact A.lt
theorem own_Arf.ext {a : Addr} {ty : FieldType} {n : Nat} {f : Nat → Value} (F : own_Arf Z h a ty n f) (E : Ext h h') : own_Arf Z h' a ty n f := by obtain ⟨c, A, r⟩ := F; exact ⟨c, A.ext E, r⟩
theorem own_Arf.other {a b : Addr} {ty : FieldType} {n : Nat} {f : Nat → Value} {sl : Nat} {v : Value} (F : own_Arf Z h b ty n f) (W : Wr h h' a sl v) (q : b ≠ a) : own_Arf Z h' b ty n f := by obtain ⟨c, A, r⟩ := F; exact ⟨c, A.other W q, r⟩
theorem own_Arf.keep {a : Addr} {ty : FieldType} {n : Nat} {f : Nat → Value} {ws : List Addr} (F : own_Arf Z h a ty n f) (K : Keep h h' ws) (q : a ∉ ws) : own_Arf Z h' a ty n f := by obtain ⟨c, A, r⟩ := F; exact ⟨c, ⟨K.2.1 a c A.1 q, A.2⟩, r⟩
theorem own_Arf.congr {a : Addr} {ty : FieldType} {n : Nat} {f f' : Nat → Value} (F : own_Arf Z h a ty n f) (q : ∀ j, j < n → f j = f' j) : own_Arf Z h a ty n f' := by obtain ⟨c, A, r1, r2⟩ := F; exact ⟨c, A, r1, fun j hj => by rw [← q j hj]; exact r2 j hj⟩
theorem own_Arf.set {a : Addr} {ty : FieldType} {n : Nat} {f : Nat → Value} {i : Nat} {v : Value} (F : own_Arf Z h a ty n f) (W : Wr h h' a i v) : own_Arf Z h' a ty n (fun k => if k = i then v else f k) := by
  obtain ⟨c, A, r1, r2⟩ := F
  refine ⟨c.setSlot i v, A.same W, by rw [sz_set]; exact r1, fun j hj => ?_⟩
  show (c.slots.setIfInBounds i v)[j]? = some (if j = i then v else f j)
  by_cases q : j = i
  · subst q
    simp [r1, hj]
  · rw [Array.getElem?_setIfInBounds_ne (Ne.symm q), if_neg q]
    exact r2 j hj
theorem own_Arf.setI {a : Addr} {ty : FieldType} {n : Nat} {f : Nat → Int32} {i : Nat} {x : Int32} (F : own_Arf Z h a ty n (fun k => .int (f k))) (W : Wr h h' a i (.int x)) : own_Arf Z h' a ty n (fun k => .int (if k = i then x else f k)) :=
  (own_Arf.set F W).congr fun k _ => by show (if k = i then Value.int x else .int (f k)) = .int (if k = i then x else f k); split <;> rfl
theorem own_Arf.setJ {a : Addr} {ty : FieldType} {n : Nat} {f : Nat → Int64} {i : Nat} {x : Int64} (F : own_Arf Z h a ty n (fun k => .long (f k))) (W : Wr h h' a i (.long x)) : own_Arf Z h' a ty n (fun k => .long (if k = i then x else f k)) :=
  (own_Arf.set F W).congr fun k _ => by show (if k = i then Value.long x else .long (f k)) = .long (if k = i then x else f k); split <;> rfl
theorem own_inb {c : Cell} {n : Nat} {j : Int32} (S : c.slots.size = n) (q : 0 ≤ j.toInt ∧ j.toInt < (n : Int)) : ¬ (j < 0 ∨ c.slots.size ≤ j.toNatClampNeg) := by
  rw [S]
  rintro (q1 | q1)
  · have := Int32.lt_iff_toInt_lt.mp q1
    simp at this
    omega
  · have h1 : j.toNatClampNeg = j.toInt.toNat := rfl
    omega
theorem own_idx {n : Nat} {j : Int32} (q : 0 ≤ j.toInt ∧ j.toInt < (n : Int)) : j.toNatClampNeg < n := by
  have h1 : j.toNatClampNeg = j.toInt.toNat := rfl
  omega
theorem own_newP (X : Stand p l e R s m args below meth c T locs cells slots) (hx : p.tables.exec = Jvm.exec) (hZ : Z.Warmed39 s.vm) {aty : ArrayType} (w : (Jvm.Cond.arrayClass (newarray.typeOf aty)).before a0 Z = true) (eT : T.heap = h) {g : JFrame} (hg : g.method = m) (hd : decode c.code g.pc = .ok (.newarray aty, 2)) {n : Int32} {rest : List Value} (hs : g.stack = .int n :: rest)
    (hn : ¬ n < 0) {cap : Nat} (hcap : n.toNatClampNeg ≤ cap) (hb : cap * 8 ≤ 536870912) (hc : cells + 1 ≤ R.cells) (hl : slots + cap ≤ R.slots) :
    ∃ T' h', Stand p l e R s m args below meth c T' locs (cells + 1) (slots + cap) ∧ T'.heap = h' ∧ Ext h h' ∧ own_Arf Z h' h.size (newarray.typeOf aty) n.toNatClampNeg (fun _ => defaultValue (newarray.typeOf aty)) ∧
      ∀ target, Steps p.tables e below (T'.setTop { g with pc := g.pc + 2, stack := .ref h.size :: rest }) target → Steps p.tables e below (T.setTop g) target := by
  obtain ⟨T', h', cA, X', e', E', A', st⟩ := newP X hx hZ w eT hg hd hs hn hcap hb hc hl
  refine ⟨T', h', X', e', E', ⟨_, A', sz_new _ _ _, fun j hj => ?_⟩, st⟩
  simp [newA, hj]
theorem own_newPE (X : Stand p l e R s m args below meth c T locs cells slots) (hx : p.tables.exec = Jvm.exec) (hZ : Z.Warmed39 s.vm) {aty : ArrayType} (w : (Jvm.Cond.arrayClass (newarray.typeOf aty)).before a0 Z = true) (eT : T.heap = h) {g : JFrame} (hg : g.method = m) (hd : decode c.code g.pc = .ok (.newarray aty, 2)) {n : Int32} {rest : List Value} (hs : g.stack = .int n :: rest)
    (hn : ¬ n < 0) {cap : Nat} (hcap : n.toNatClampNeg ≤ cap) (hb : cap * 8 ≤ 536870912) (hc : cells + 1 ≤ R.cells) (hl : slots + cap ≤ R.slots) {ad : String} (had : "[" ++ (newarray.typeOf aty).toString = ad) :
    ∃ T' h', Stand p l e R s m args below meth c T' locs (cells + 1) (slots + cap) ∧ T'.heap = h' ∧ Ext h h' ∧ own_Arf Z h' h.size (newarray.typeOf aty) n.toNatClampNeg (fun _ => defaultValue (newarray.typeOf aty)) ∧ Exa Z h' h.size ad ∧
      ∀ target, Steps p.tables e below (T'.setTop { g with pc := g.pc + 2, stack := .ref h.size :: rest }) target → Steps p.tables e below (T.setTop g) target := by
  obtain ⟨T', h', cA, X', e', E', A', Ex, st⟩ := newPE X hx hZ w eT hg hd hs hn hcap hb hc hl had
  refine ⟨T', h', X', e', E', ⟨_, A', sz_new _ _ _, fun j hj => ?_⟩, Ex, st⟩
  simp [newA, hj]
theorem own_cloneA (X : Stand p l e R s m args below meth c T locs cells slots) (hx : p.tables.exec = Jvm.exec) (hZ : Z.Warmed39 s.vm) {own ad : String} {index : Nat} (hown : s.vm.findClass own = some m.cls)
    (w1 : (Jvm.Cond.methodLink own index ⟨ad, "clone", "()Ljava/lang/Object;"⟩).before a0 Z = true) (w2 : (Jvm.Cond.sameMethod ad "java/lang/Object" "clone" "()Ljava/lang/Object;").before a0 Z = true) (w3 : (Jvm.Cond.native ⟨"java/lang/Object", "clone", "()Ljava/lang/Object;"⟩).before a0 Z = true)
    (w4 : (Jvm.Cond.instanceMethod ⟨"java/lang/Object", "clone", "()Ljava/lang/Object;"⟩).before a0 Z = true) (w5 : (Jvm.Cond.selects ad ⟨ad, "clone", "()Ljava/lang/Object;"⟩ ⟨"java/lang/Object", "clone", "()Ljava/lang/Object;"⟩).before a0 Z = true) (w6 : (Jvm.Cond.castable ad "java/lang/Cloneable").before a0 Z = true)
    (eT : T.heap = h) {a : Addr} {ty : FieldType} {n : Nat} {f : Nat → Value} (A : own_Arf Z h a ty n f) (E : Exa Z h a ad) (hfit : ∀ k, k < n → fits ty (f k) = true) {g : JFrame} (hg : g.method = m) (hsize : g.locals.size = c.maxLocals) {rest : List Value} (hs : g.stack = .ref a :: rest) (hd : decode c.code g.pc = .ok (.invokevirtual index, 3))
    (hf : 1 ≤ R.frames) {W : Nat} (hW : 2 * g.monitorRoom + (rest.map fun v => v.category).sum ≤ W) (hl : W + 14 ≤ R.locals) (hc : cells + 1 ≤ R.cells) (hsl : slots + n ≤ R.slots) :
    ∃ T' h', Stand p l e R s m args below meth c T' locs (cells + 1) (slots + n) ∧ T'.heap = h' ∧ Ext h h' ∧ own_Arf Z h' h.size ty n f ∧ Exa Z h' h.size ad ∧
      ∀ target, Steps p.tables e below (T'.setTop { g with pc := g.pc + 3, stack := .ref h.size :: rest }) target → Steps p.tables e below (T.setTop g) target := by
  obtain ⟨cl, A1, A2, A3⟩ := A
  have FC : FitC Z cl := fitC_of A1 fun i hi v hv => by
    rw [A3 i (by omega)] at hv
    cases hv
    exact hfit i (by omega)
  obtain ⟨T', h', X', e', ex, A', E', st⟩ := cloneA X hx hZ hown w1 w2 w3 w4 w5 w6 eT A1 E FC hg hsize hs hd hf hW hl (Nat.le_of_eq A2) hc hsl
  exact ⟨T', h', X', e', ex, ⟨cloneOf cl, A', A2, A3⟩, E', st⟩
theorem own_len (X : Stand p l e R s m args below meth c T locs cells slots) (hx : p.tables.exec = Jvm.exec) (hZ : Z.Warmed39 s.vm) (eT : T.heap = h) {a : Addr} {ty : FieldType} {n : Nat} {f : Nat → Value} (A : own_Arf Z h a ty n f) {g : JFrame} (hg : g.method = m) {rest : List Value} (hs : g.stack = .ref a :: rest) (hd : decode c.code g.pc = .ok (.arraylength, 1)) :
    ∀ t, Steps p.tables e below (T.setTop { g with pc := g.pc + 1, stack := .int n.toInt32 :: rest }) t → Steps p.tables e below (T.setTop g) t := by
  obtain ⟨cl, A1, A2, A3⟩ := A
  intro t k
  subst A2
  exact X.arraylength hx (by rw [eT]; exact A1.1) (State.isArrayOf_alike hZ.alike A1.2.1) hg hs hd _ k
theorem own_ldI (X : Stand p l e R s m args below meth c T locs cells slots) (hx : p.tables.exec = Jvm.exec) (hZ : Z.Warmed39 s.vm) (eT : T.heap = h) {a : Addr} {n : Nat} {f : Nat → Int32} (A : own_Arf Z h a .int n (fun k => .int (f k))) {j : Int32} (q : 0 ≤ j.toInt ∧ j.toInt < (n : Int)) {g : JFrame} (hg : g.method = m) {rest : List Value} (hs : g.stack = .int j :: .ref a :: rest) (hd : decode c.code g.pc = .ok (.iaload, 1)) :
    ∀ t, Steps p.tables e below (T.setTop { g with pc := g.pc + 1, stack := .int (f j.toNatClampNeg) :: rest }) t → Steps p.tables e below (T.setTop g) t := by
  obtain ⟨cl, A1, A2, A3⟩ := A
  exact fun t k => X.iaload hx (by rw [eT]; exact A1.1) (State.isArrayOf_alike hZ.alike A1.2.1) A1.2.2 (own_inb A2 q) (A3 _ (own_idx q)) hg hs hd _ k
theorem own_ldJ (X : Stand p l e R s m args below meth c T locs cells slots) (hx : p.tables.exec = Jvm.exec) (hZ : Z.Warmed39 s.vm) (eT : T.heap = h) {a : Addr} {n : Nat} {f : Nat → Int64} (A : own_Arf Z h a .long n (fun k => .long (f k))) {j : Int32} (q : 0 ≤ j.toInt ∧ j.toInt < (n : Int)) {g : JFrame} (hg : g.method = m) {rest : List Value} (hs : g.stack = .int j :: .ref a :: rest) (hd : decode c.code g.pc = .ok (.laload, 1)) :
    ∀ t, Steps p.tables e below (T.setTop { g with pc := g.pc + 1, stack := .long (f j.toNatClampNeg) :: rest }) t → Steps p.tables e below (T.setTop g) t := by
  obtain ⟨cl, A1, A2, A3⟩ := A
  exact fun t k => X.laload hx (by rw [eT]; exact A1.1) (State.isArrayOf_alike hZ.alike A1.2.1) A1.2.2 (own_inb A2 q) (A3 _ (own_idx q)) hg hs hd _ k
theorem own_ldC (X : Stand p l e R s m args below meth c T locs cells slots) (hx : p.tables.exec = Jvm.exec) (hZ : Z.Warmed39 s.vm) (eT : T.heap = h) {a : Addr} {n : Nat} {f : Nat → Int32} (A : own_Arf Z h a .char n (fun k => .int (f k))) {j : Int32} (q : 0 ≤ j.toInt ∧ j.toInt < (n : Int)) {g : JFrame} (hg : g.method = m) {rest : List Value} (hs : g.stack = .int j :: .ref a :: rest) (hd : decode c.code g.pc = .ok (.caload, 1)) :
    ∀ t, Steps p.tables e below (T.setTop { g with pc := g.pc + 1, stack := .int (f j.toNatClampNeg) :: rest }) t → Steps p.tables e below (T.setTop g) t := by
  obtain ⟨cl, A1, A2, A3⟩ := A
  exact fun t k => X.caload hx (by rw [eT]; exact A1.1) (State.isArrayOf_alike hZ.alike A1.2.1) A1.2.2 (own_inb A2 q) (A3 _ (own_idx q)) hg hs hd _ k
theorem own_ldS (X : Stand p l e R s m args below meth c T locs cells slots) (hx : p.tables.exec = Jvm.exec) (hZ : Z.Warmed39 s.vm) (eT : T.heap = h) {a : Addr} {n : Nat} {f : Nat → Int32} (A : own_Arf Z h a .short n (fun k => .int (f k))) {j : Int32} (q : 0 ≤ j.toInt ∧ j.toInt < (n : Int)) {g : JFrame} (hg : g.method = m) {rest : List Value} (hs : g.stack = .int j :: .ref a :: rest) (hd : decode c.code g.pc = .ok (.saload, 1)) :
    ∀ t, Steps p.tables e below (T.setTop { g with pc := g.pc + 1, stack := .int (f j.toNatClampNeg) :: rest }) t → Steps p.tables e below (T.setTop g) t := by
  obtain ⟨cl, A1, A2, A3⟩ := A
  exact fun t k => X.saload hx (by rw [eT]; exact A1.1) (State.isArrayOf_alike hZ.alike A1.2.1) A1.2.2 (own_inb A2 q) (A3 _ (own_idx q)) hg hs hd _ k
theorem own_ldB (X : Stand p l e R s m args below meth c T locs cells slots) (hx : p.tables.exec = Jvm.exec) (hZ : Z.Warmed39 s.vm) (eT : T.heap = h) {a : Addr} {n : Nat} {f : Nat → Int32} (A : own_Arf Z h a .byte n (fun k => .int (f k))) {j : Int32} (q : 0 ≤ j.toInt ∧ j.toInt < (n : Int)) {g : JFrame} (hg : g.method = m) {rest : List Value} (hs : g.stack = .int j :: .ref a :: rest) (hd : decode c.code g.pc = .ok (.baload, 1)) :
    ∀ t, Steps p.tables e below (T.setTop { g with pc := g.pc + 1, stack := .int (f j.toNatClampNeg) :: rest }) t → Steps p.tables e below (T.setTop g) t := by
  obtain ⟨cl, A1, A2, A3⟩ := A
  exact fun t k => X.baloadBytes hx (by rw [eT]; exact A1.1) (State.isArrayOf_alike hZ.alike A1.2.1) A1.2.2 (own_inb A2 q) (A3 _ (own_idx q)) hg hs hd _ k
theorem own_ldR (X : Stand p l e R s m args below meth c T locs cells slots) (hx : p.tables.exec = Jvm.exec) (hZ : Z.Warmed39 s.vm) (eT : T.heap = h) {a : Addr} {ty : FieldType} (hty : ty.isReference = true) {n : Nat} {f : Nat → Value} (A : own_Arf Z h a ty n f) {j : Int32} (q : 0 ≤ j.toInt ∧ j.toInt < (n : Int)) {g : JFrame} (hg : g.method = m) {rest : List Value} (hs : g.stack = .int j :: .ref a :: rest) (hd : decode c.code g.pc = .ok (.aaload, 1)) :
    ∀ t, Steps p.tables e below (T.setTop { g with pc := g.pc + 1, stack := f j.toNatClampNeg :: rest }) t → Steps p.tables e below (T.setTop g) t := by
  obtain ⟨cl, A1, A2, A3⟩ := A
  exact fun t k => X.aaload hx (by rw [eT]; exact A1.1) (State.isArrayOf_alike hZ.alike A1.2.1) hty A1.2.2 (own_inb A2 q) (A3 _ (own_idx q)) hg hs hd _ k
theorem own_stI (X : Stand p l e R s m args below meth c T locs cells slots) (hx : p.tables.exec = Jvm.exec) (hZ : Z.Warmed39 s.vm) (eT : T.heap = h) {a : Addr} {n : Nat} {f : Nat → Int32} (A : own_Arf Z h a .int n (fun k => .int (f k))) {j x : Int32} (q : 0 ≤ j.toInt ∧ j.toInt < (n : Int)) {g : JFrame} (hg : g.method = m) {rest : List Value} (hs : g.stack = .int x :: .int j :: .ref a :: rest) (hd : decode c.code g.pc = .ok (.iastore, 1)) :
    ∃ T' h', Stand p l e R s m args below meth c T' (locs ++ [⟨a, j.toNatClampNeg⟩]) cells slots ∧ T'.heap = h' ∧ Wr h h' a j.toNatClampNeg (.int x) ∧ own_Arf Z h' a .int n (fun k => .int (if k = j.toNatClampNeg then x else f k)) ∧ ∀ t, Steps p.tables e below (T'.setTop { g with pc := g.pc + 1, stack := rest }) t → Steps p.tables e below (T.setTop g) t := by
  obtain ⟨cl, A1, A2, A3⟩ := id A
  obtain ⟨T', h', X', e', W, st⟩ := stI X hx hZ eT A1 (own_inb A2 q) hg hs hd
  exact ⟨T', h', X', e', W, own_Arf.setI A W, st⟩
theorem own_stJ (X : Stand p l e R s m args below meth c T locs cells slots) (hx : p.tables.exec = Jvm.exec) (hZ : Z.Warmed39 s.vm) (eT : T.heap = h) {a : Addr} {n : Nat} {f : Nat → Int64} (A : own_Arf Z h a .long n (fun k => .long (f k))) {j : Int32} {x : Int64} (q : 0 ≤ j.toInt ∧ j.toInt < (n : Int)) {g : JFrame} (hg : g.method = m) {rest : List Value} (hs : g.stack = .long x :: .int j :: .ref a :: rest) (hd : decode c.code g.pc = .ok (.lastore, 1)) :
    ∃ T' h', Stand p l e R s m args below meth c T' (locs ++ [⟨a, j.toNatClampNeg⟩]) cells slots ∧ T'.heap = h' ∧ Wr h h' a j.toNatClampNeg (.long x) ∧ own_Arf Z h' a .long n (fun k => .long (if k = j.toNatClampNeg then x else f k)) ∧ ∀ t, Steps p.tables e below (T'.setTop { g with pc := g.pc + 1, stack := rest }) t → Steps p.tables e below (T.setTop g) t := by
  obtain ⟨cl, A1, A2, A3⟩ := id A
  obtain ⟨T', h', X', e', W, st⟩ := stJ X hx hZ eT A1 (own_inb A2 q) hg hs hd
  exact ⟨T', h', X', e', W, own_Arf.setJ A W, st⟩
theorem own_stC (X : Stand p l e R s m args below meth c T locs cells slots) (hx : p.tables.exec = Jvm.exec) (hZ : Z.Warmed39 s.vm) (eT : T.heap = h) {a : Addr} {n : Nat} {f : Nat → Int32} (A : own_Arf Z h a .char n (fun k => .int (f k))) {j x : Int32} (q : 0 ≤ j.toInt ∧ j.toInt < (n : Int)) {g : JFrame} (hg : g.method = m) {rest : List Value} (hs : g.stack = .int x :: .int j :: .ref a :: rest) (hd : decode c.code g.pc = .ok (.castore, 1)) :
    ∃ T' h', Stand p l e R s m args below meth c T' (locs ++ [⟨a, j.toNatClampNeg⟩]) cells slots ∧ T'.heap = h' ∧ Wr h h' a j.toNatClampNeg (.int (nar .char x)) ∧ own_Arf Z h' a .char n (fun k => .int (if k = j.toNatClampNeg then nar .char x else f k)) ∧ ∀ t, Steps p.tables e below (T'.setTop { g with pc := g.pc + 1, stack := rest }) t → Steps p.tables e below (T.setTop g) t := by
  obtain ⟨cl, A1, A2, A3⟩ := id A
  obtain ⟨T', h', X', e', W, st⟩ := stC X hx hZ eT A1 (own_inb A2 q) hg hs hd
  exact ⟨T', h', X', e', W, own_Arf.setI A W, st⟩
theorem own_stS (X : Stand p l e R s m args below meth c T locs cells slots) (hx : p.tables.exec = Jvm.exec) (hZ : Z.Warmed39 s.vm) (eT : T.heap = h) {a : Addr} {n : Nat} {f : Nat → Int32} (A : own_Arf Z h a .short n (fun k => .int (f k))) {j x : Int32} (q : 0 ≤ j.toInt ∧ j.toInt < (n : Int)) {g : JFrame} (hg : g.method = m) {rest : List Value} (hs : g.stack = .int x :: .int j :: .ref a :: rest) (hd : decode c.code g.pc = .ok (.sastore, 1)) :
    ∃ T' h', Stand p l e R s m args below meth c T' (locs ++ [⟨a, j.toNatClampNeg⟩]) cells slots ∧ T'.heap = h' ∧ Wr h h' a j.toNatClampNeg (.int (nar .short x)) ∧ own_Arf Z h' a .short n (fun k => .int (if k = j.toNatClampNeg then nar .short x else f k)) ∧ ∀ t, Steps p.tables e below (T'.setTop { g with pc := g.pc + 1, stack := rest }) t → Steps p.tables e below (T.setTop g) t := by
  obtain ⟨cl, A1, A2, A3⟩ := id A
  obtain ⟨T', h', X', e', W, st⟩ := stS X hx hZ eT A1 (own_inb A2 q) hg hs hd
  exact ⟨T', h', X', e', W, own_Arf.setI A W, st⟩
theorem own_stB (X : Stand p l e R s m args below meth c T locs cells slots) (hx : p.tables.exec = Jvm.exec) (hZ : Z.Warmed39 s.vm) (eT : T.heap = h) {a : Addr} {n : Nat} {f : Nat → Int32} (A : own_Arf Z h a .byte n (fun k => .int (f k))) {j x : Int32} (q : 0 ≤ j.toInt ∧ j.toInt < (n : Int)) {g : JFrame} (hg : g.method = m) {rest : List Value} (hs : g.stack = .int x :: .int j :: .ref a :: rest) (hd : decode c.code g.pc = .ok (.bastore, 1)) :
    ∃ T' h', Stand p l e R s m args below meth c T' (locs ++ [⟨a, j.toNatClampNeg⟩]) cells slots ∧ T'.heap = h' ∧ Wr h h' a j.toNatClampNeg (.int (nar .byte x)) ∧ own_Arf Z h' a .byte n (fun k => .int (if k = j.toNatClampNeg then nar .byte x else f k)) ∧ ∀ t, Steps p.tables e below (T'.setTop { g with pc := g.pc + 1, stack := rest }) t → Steps p.tables e below (T.setTop g) t := by
  obtain ⟨cl, A1, A2, A3⟩ := id A
  obtain ⟨T', h', X', e', W, st⟩ := stB X hx hZ eT A1 (own_inb A2 q) hg hs hd
  exact ⟨T', h', X', e', W, own_Arf.setI A W, st⟩
theorem own_newR (X : Stand p l e R s m args below meth c T locs cells slots) (hx : p.tables.exec = Jvm.exec) (hZ : Z.Warmed39 s.vm) {own C : String} {index : Nat} (hown : s.vm.findClass own = some m.cls) (w1 : (Jvm.Cond.classLink own index C).before a0 Z = true) (w2 : (Jvm.Cond.arrayOver (.object C)).before a0 Z = true)
    (eT : T.heap = h) {g : JFrame} (hg : g.method = m) (hd : decode c.code g.pc = .ok (.anewarray index, 3)) {n : Int32} {rest : List Value} (hs : g.stack = .int n :: rest) (hn : ¬ n < 0) {cap : Nat} (hcap : n.toNatClampNeg ≤ cap) (hb : cap * 8 ≤ 536870912) (hc : cells + 1 ≤ R.cells) (hl : slots + cap ≤ R.slots) :
    ∃ T' h', Stand p l e R s m args below meth c T' locs (cells + 1) (slots + cap) ∧ T'.heap = h' ∧ Ext h h' ∧ (∃ cl : Cell, h'[h.size]? = some cl ∧ Ovr Z cl.cls C) ∧ own_Arf Z h' h.size (.object C) n.toNatClampNeg (fun _ => .null) ∧
      ∀ target, Steps p.tables e below (T'.setTop { g with pc := g.pc + 3, stack := .ref h.size :: rest }) target → Steps p.tables e below (T.setTop g) target := by
  obtain ⟨T', h', cA, X', e', E', A', O', st⟩ := newR X hx hZ hown w1 w2 eT hg hd hs hn hcap hb hc hl
  refine ⟨T', h', X', e', E', ⟨_, A'.1, O'⟩, ⟨_, A', sz_new _ _ _, fun j hj => ?_⟩, st⟩
  simp [newA, hj, defaultValue]
/-- an array of objects of C: the class of the array is C's -/
def own_Ovr (Z : State) (h : Heap) (a : Addr) (C : String) : Prop := ∃ cl : Cell, h[a]? = some cl ∧ Ovr Z cl.cls C
theorem own_Ovr.ext {a : Addr} {C : String} (F : own_Ovr Z h a C) (E : Ext h h') : own_Ovr Z h' a C := by obtain ⟨cl, h1, h2⟩ := F; exact ⟨cl, E.2 _ _ h1, h2⟩
theorem own_Ovr.wr {a b : Addr} {C : String} {sl : Nat} {v : Value} (F : own_Ovr Z h a C) (W : Wr h h' b sl v) : own_Ovr Z h' a C := by
  obtain ⟨cl, h1, h2⟩ := F
  obtain ⟨c', e1, e2, -⟩ := wr_at W h1
  exact ⟨c', e1, by rw [e2]; exact h2⟩
theorem own_Ovr.keep {a : Addr} {C : String} {ws : List Addr} (F : own_Ovr Z h a C) (K : Keep h h' ws) : own_Ovr Z h' a C := by
  obtain ⟨cl, h1, h2⟩ := F
  obtain ⟨c', e1, e2, -⟩ := K.2.2 _ _ h1
  exact ⟨c', e1, by rw [e2]; exact h2⟩
theorem own_stR (X : Stand p l e R s m args below meth c T locs cells slots) (hx : p.tables.exec = Jvm.exec) (hZ : Z.Warmed39 s.vm) (eT : T.heap = h) {a : Addr} {C : String} {n : Nat} {f : Nat → Value} (A : own_Arf Z h a (.object C) n f) (O : own_Ovr Z h a C) {j : Int32} {v : Value} (I : v = .null ∨ ∃ y, v = .ref y ∧ Ins Z h y C true) (q : 0 ≤ j.toInt ∧ j.toInt < (n : Int)) {g : JFrame} (hg : g.method = m) {rest : List Value} (hs : g.stack = v :: .int j :: .ref a :: rest) (hd : decode c.code g.pc = .ok (.aastore, 1)) :
    ∃ T' h', Stand p l e R s m args below meth c T' (locs ++ [⟨a, j.toNatClampNeg⟩]) cells slots ∧ T'.heap = h' ∧ Wr h h' a j.toNatClampNeg v ∧ own_Arf Z h' a (.object C) n (fun k => if k = j.toNatClampNeg then v else f k) ∧ own_Ovr Z h' a C ∧ ∀ t, Steps p.tables e below (T'.setTop { g with pc := g.pc + 1, stack := rest }) t → Steps p.tables e below (T.setTop g) t := by
  obtain ⟨cl, A1, A2, A3⟩ := id A
  obtain ⟨cl2, o1, o2⟩ := id O
  cases A1.1.symm.trans o1
  have F : Sto Z h a v := by
    rcases I with rfl | ⟨y, rfl, I⟩
    · exact Or.inl rfl
    · exact Sto.of A1 o2 I
  obtain ⟨T', h', X', e', W, st⟩ := stR X hx hZ eT A1 (own_inb A2 q) rfl F hg hs hd
  exact ⟨T', h', X', e', W, own_Arf.set A W, O.wr W, st⟩
end OwnKit
theorem own_inc (j : Int32) (h : j.toInt < 2147483647) : (j + (1 : Int32)).toInt = j.toInt + 1 := by
  have h1 := c_iadd j 1
  have h2 := rng32 (j + 1)
  have h3 := rng32 j
  have h4 : (1 : Int32).toInt = 1 := by decide
  omega
theorem own_dec (j : Int32) (h : -2147483648 < j.toInt) : (j - (1 : Int32)).toInt = j.toInt - 1 := by
  have h1 := c_isub j 1
  have h2 := rng32 (j - 1)
  have h3 := rng32 j
  have h4 : (1 : Int32).toInt = 1 := by decide
  omega
theorem own_nat {j : Int32} (h : 0 ≤ j.toInt) : (j.toNatClampNeg : Int) = j.toInt := by show (j.toInt.toNat : Int) = _; omega
theorem own_slot (x : Int64) : 0 ≤ (((x.toUInt64 >>> ((55 : Int32) &&& 0x3f).toInt64.toUInt64).toInt64).toInt32).toInt ∧ (((x.toUInt64 >>> ((55 : Int32) &&& 0x3f).toInt64.toUInt64).toInt64).toInt32).toInt < 512 := by
  have h1 : ((x.toUInt64 >>> ((55 : Int32) &&& 0x3f).toInt64.toUInt64).toInt64).toInt = (x.toInt % 18446744073709551616) / 36028797018963968 := c_lushr x 55 55 (by decide) (by decide)
  have h2 := c_l2i ((x.toUInt64 >>> ((55 : Int32) &&& 0x3f).toInt64.toUInt64).toInt64)
  have h3 := rng32 (((x.toUInt64 >>> ((55 : Int32) &&& 0x3f).toInt64.toUInt64).toInt64).toInt32)
  omega
theorem own_next {t : Int32} (h : 0 ≤ t.toInt ∧ t.toInt < 512) : ((t + (1 : Int32)) &&& (511 : Int32)).toInt = (t.toInt + 1) % 512 := by
  have h1 : ((t + (1 : Int32)) &&& (511 : Int32)).toInt = (t + (1 : Int32)).toInt % 512 := c_mask _ 511 9 (by decide) (by decide)
  rw [h1, own_inc t (by omega)]
theorem own_probe (occ : List Nat) (h : occ.length ≤ 3) (t : Nat) : ∃ j, (t + j) % 512 ∉ occ := by
  by_cases h0 : (t + 0) % 512 ∈ occ
  · by_cases h1 : (t + 1) % 512 ∈ occ
    · by_cases h2 : (t + 2) % 512 ∈ occ
      · by_cases h3 : (t + 3) % 512 ∈ occ
        · exfalso
          match occ, h with
          | [], _ => cases h0
          | [a], _ =>
            simp only [List.mem_cons, List.not_mem_nil, or_false] at h0 h1 h2 h3
            omega
          | [a, b], _ =>
            simp only [List.mem_cons, List.not_mem_nil, or_false] at h0 h1 h2 h3
            omega
          | [a, b, c], _ =>
            simp only [List.mem_cons, List.not_mem_nil, or_false] at h0 h1 h2 h3
            omega
          | a :: b :: c :: d :: r, h => simp at h
        · exact ⟨3, h3⟩
      · exact ⟨2, h2⟩
    · exact ⟨1, h1⟩
  · exact ⟨0, h0⟩
theorem own_l2i {q : Int64} {d : Int32} (h0 : 0 ≤ q.toInt) (h1 : q.toInt < d.toInt) : q.toInt32.toInt = q.toInt := by
  have h2 := c_l2i q
  have h3 := rng32 q.toInt32
  have h4 := rng32 d
  omega
theorem own_ns {x : Int32} (h : 0 ≤ x.toInt ∧ x.toInt ≤ 300) : (nar .short (x.toInt16.toInt32)).toInt = x.toInt := by
  have h1 := c_i2s x
  have h2 := c_i2s x.toInt16.toInt32
  show (x.toInt16.toInt32).toInt16.toInt32.toInt = x.toInt
  omega
theorem own_ci {x : Int32} (h : 0 ≤ x.toInt ∧ x.toInt < 256) : ((nar .byte (x.toInt8.toInt32)) &&& (255 : Int32)).toNatClampNeg = x.toNatClampNeg := by
  have h1 := c_i2b x
  have h2 := c_i2b x.toInt8.toInt32
  have h3 : ((nar .byte (x.toInt8.toInt32)) &&& (255 : Int32)).toInt = (x.toInt8.toInt32).toInt8.toInt32.toInt % 256 := c_mask _ 255 8 (by decide) (by decide)
  show ((nar .byte (x.toInt8.toInt32)) &&& (255 : Int32)).toInt.toNat = x.toInt.toNat
  rw [h3]
  omega
theorem own_m255 (x : Int32) : 0 ≤ (x &&& (255 : Int32)).toInt ∧ (x &&& (255 : Int32)).toInt < (256 : Nat) := by
  have h3 : (x &&& (255 : Int32)).toInt = x.toInt % 256 := c_mask x 255 8 (by decide) (by decide)
  omega
/-- what a code is worth: r stands for q in the table V', which keeps what V held -/
def own_CP (r d d' : Int32) (V V' : Nat → Int64) (q : Int64) : Prop := 0 ≤ r.toInt ∧ r.toInt < d'.toInt ∧ d.toInt ≤ d'.toInt ∧ d'.toInt ≤ d.toInt + 1 ∧ V' r.toNatClampNeg = q ∧ ∀ k : Nat, (k : Int) < d.toInt → V' k = V k
/-- the lookup: what isn't in occ is free, and no entry is above d -/
def own_LK (occ : List Nat) (d : Int32) (K : Nat → Int32) : Prop := (∀ k, k < 512 → k ∉ occ → (K k).toInt = 0) ∧ ∀ k, k < 512 → 0 ≤ (K k).toInt ∧ (K k).toInt ≤ d.toInt
theorem own_LK0 (d : Int32) (h : 0 ≤ d.toInt) : own_LK [] d (fun _ => (0 : Int32)) := ⟨fun _ _ _ => (by decide : (0 : Int32).toInt = 0), fun _ _ => ⟨(by decide : 0 ≤ (0 : Int32).toInt), h⟩⟩
theorem own_LKset {occ : List Nat} {d : Int32} {K : Nat → Int32} (h : own_LK occ d K) (hd : 0 ≤ d.toInt ∧ d.toInt ≤ 200) (t : Nat) : own_LK (t :: occ) (d + (1 : Int32)) (fun k => if k = t then (nar .short ((d + (1 : Int32)).toInt16.toInt32)) else K k) := by
  have h1 := own_inc d (by omega)
  have h2 := own_ns (x := d + (1 : Int32)) (by omega)
  refine ⟨fun k hk hn => ?_, fun k hk => ?_⟩
  · simp only [List.mem_cons, not_or] at hn
    show (if k = t then _ else K k).toInt = 0
    rw [if_neg hn.1]
    exact h.1 k hk hn.2
  · show 0 ≤ (if k = t then _ else K k).toInt ∧ (if k = t then _ else K k).toInt ≤ _
    have := h.2 k hk
    split <;> omega
theorem own_CPset {d : Int32} {V : Nat → Int64} {q : Int64} (hd : 0 ≤ d.toInt ∧ d.toInt ≤ 200) : own_CP d d (d + (1 : Int32)) V (fun k => if k = d.toNatClampNeg then q else V k) q := by
  have h1 := own_inc d (by omega)
  have h2 := own_nat hd.1
  refine ⟨hd.1, by omega, by omega, by omega, by show (if _ then _ else _) = q; rw [if_pos rfl], fun k hk => ?_⟩
  show (if _ then _ else _) = V k
  rw [if_neg (by omega)]
theorem own_CPold {r d : Int32} {V : Nat → Int64} {q : Int64} (h0 : 0 ≤ r.toInt) (h1 : r.toInt < d.toInt) (h : V r.toNatClampNeg = q) : own_CP r d d V V q := ⟨h0, h1, by omega, by omega, h, fun _ _ => rfl⟩
theorem own_pl1 {Z : State} {h : Heap} {a : Addr} {C : String} (E : Exa Z h a C) : ∀ x ∈ [a], ∀ c : Cell, h[x]? = some c → c.vm.isStatics = false := fun x hx c hc => by
  cases List.mem_singleton.mp hx
  obtain ⟨c', k, h1, -, -, h4, -⟩ := E
  cases h1.symm.trans hc
  exact h4
theorem own_at {r : Int32} {V : Nat → Int64} {q : Int64} (h : 0 ≤ r.toInt ∧ r.toInt < 256) (e : V r.toNatClampNeg = q) : V ((nar .byte (r.toInt8.toInt32)) &&& (255 : Int32)).toNatClampNeg = q := by rw [own_ci h]; exact e
theorem own_m3 (x : Int32) : 0 ≤ ((x &&& (2147483647 : Int32)) % (3 : Int32)).toInt ∧ ((x &&& (2147483647 : Int32)) % (3 : Int32)).toInt ≤ 2 := by
  have h1 : (x &&& (2147483647 : Int32)).toInt = x.toInt % 2147483648 := c_mask x 2147483647 31 (by decide) (by decide)
  have h2 := (c_irem (x &&& (2147483647 : Int32)) 3 3 (by decide)).1 (by omega)
  omega
theorem own_3 {i : Int32} (h : 0 ≤ i.toInt ∧ i.toInt ≤ 2) : i = (0 : Int32) ∨ i = (1 : Int32) ∨ i = (2 : Int32) := by
  simp only [← Int32.toInt_inj]
  have e : (0 : Int32).toInt = 0 ∧ (1 : Int32).toInt = 1 ∧ (2 : Int32).toInt = 2 := by decide
  omega
theorem own_at0 {r : Int32} {V : Nat → Int64} {q : Int64} (h : r.toInt = 0) (e : V r.toNatClampNeg = q) : V ((0 : Int32) &&& (255 : Int32)).toNatClampNeg = q := by
  have e1 : ((0 : Int32) &&& (255 : Int32)).toNatClampNeg = r.toNatClampNeg := by
    show (0 : Nat) = r.toInt.toNat
    omega
  rw [e1]; exact e
theorem own_at2 {r : Int32} {V : Nat → Int64} {q : Int64} (h : 0 ≤ r.toInt ∧ r.toInt < 256) (e : V r.toNatClampNeg = q) : V ((nar .byte (nar .byte (r.toInt8.toInt32))) &&& (255 : Int32)).toNatClampNeg = q := by
  have h1 := c_i2b r
  have h2 := c_i2b r.toInt8.toInt32
  have h4 := c_i2b r.toInt8.toInt32.toInt8.toInt32
  have h3 : ((nar .byte (nar .byte (r.toInt8.toInt32))) &&& (255 : Int32)).toInt = ((r.toInt8.toInt32).toInt8.toInt32).toInt8.toInt32.toInt % 256 := c_mask _ 255 8 (by decide) (by decide)
  have e1 : ((nar .byte (nar .byte (r.toInt8.toInt32))) &&& (255 : Int32)).toNatClampNeg = r.toNatClampNeg := by
    show ((nar .byte (nar .byte (r.toInt8.toInt32))) &&& (255 : Int32)).toInt.toNat = r.toInt.toNat
    rw [h3]
    omega
  rw [e1]; exact e
theorem own_fitS {occ : List Nat} {d : Int32} {K : Nat → Int32} (h : own_LK occ d K) (hd : 0 ≤ d.toInt ∧ d.toInt ≤ 100) : ∀ k, k < 512 → fits .short (.int (K k)) = true := fun k hk => by
  have q := h.2 k hk
  have e : nar .short (K k) = K k := by
    apply Int32.toInt_inj.mp
    have h1 := c_i2s (K k)
    show (K k).toInt16.toInt32.toInt = (K k).toInt
    omega
  have := fits_nar_short (K k)
  rw [e] at this
  exact this
theorem own_pn0 : plainFor (⟨"com/example/reach2/reach2/model/CodedColumn", "<init>", "([B[J[SI[J)V"⟩ : MethodName) = true := by first | exact plainFor_of_name (by simp [plainName, overriddenIn]; done) | decide +kernel
theorem own_d2_0 : decode prog_47_method_2_code 0 = .ok (.aload_n 0, 1) := by decide +kernel
theorem own_d2_1 : decode prog_47_method_2_code 1 = .ok (.invokespecial 7, 3) := by decide +kernel
theorem own_d2_4 : decode prog_47_method_2_code 4 = .ok (.aload_n 0, 1) := by decide +kernel
theorem own_d2_5 : decode prog_47_method_2_code 5 = .ok (.aload_n 1, 1) := by decide +kernel
theorem own_d2_6 : decode prog_47_method_2_code 6 = .ok (.putfield 12, 3) := by decide +kernel
theorem own_d2_9 : decode prog_47_method_2_code 9 = .ok (.aload_n 0, 1) := by decide +kernel
theorem own_d2_10 : decode prog_47_method_2_code 10 = .ok (.aload_n 2, 1) := by decide +kernel
theorem own_d2_11 : decode prog_47_method_2_code 11 = .ok (.putfield 16, 3) := by decide +kernel
theorem own_d2_14 : decode prog_47_method_2_code 14 = .ok (.aload_n 0, 1) := by decide +kernel
theorem own_d2_15 : decode prog_47_method_2_code 15 = .ok (.aload_n 3, 1) := by decide +kernel
theorem own_d2_16 : decode prog_47_method_2_code 16 = .ok (.putfield 20, 3) := by decide +kernel
theorem own_d2_19 : decode prog_47_method_2_code 19 = .ok (.aload_n 0, 1) := by decide +kernel
theorem own_d2_20 : decode prog_47_method_2_code 20 = .ok (.iload 4, 2) := by decide +kernel
theorem own_d2_22 : decode prog_47_method_2_code 22 = .ok (.putfield 24, 3) := by decide +kernel
theorem own_d2_25 : decode prog_47_method_2_code 25 = .ok (.aload_n 0, 1) := by decide +kernel
theorem own_d2_26 : decode prog_47_method_2_code 26 = .ok (.aload 5, 2) := by decide +kernel
theorem own_d2_28 : decode prog_47_method_2_code 28 = .ok (.putfield 28, 3) := by decide +kernel
theorem own_d2_31 : decode prog_47_method_2_code 31 = .ok (.return_, 1) := by decide +kernel
theorem own_ef_rmI2 (m : MethodId) (a1 : Nat) (ac : Nat) (av : Nat) (al : Nat) (p4 : Int32) : entryFrame m #[(.ref a1), (.ref ac), (.ref av), (.ref al), (.int p4), .null] 6 = mkF m 0 #[rv a1, rv ac, rv av, rv al, iv p4, .val .null] [] := by first | (simp [entryFrame, mkF, argsToLocals, Value.category, maxLocals]; done) | rfl
abbrev own_Q_rmI2 (Z : State) (a1 : Nat) (ac : Nat) (av : Nat) (al : Nat) (p4 : Int32) (u_codes : Value) (u_values : Value) (u_lookup : Value) (u_distinct : Value) (u_plain : Value) (h0 : Heap) (n0 : Nat) (v : Option Value) (h : Heap) (L : List Loc) : Prop := v = none ∧ Fr n0 L ∧ Keep h0 h [a1] ∧ Exa Z h a1 "com/example/reach2/reach2/model/CodedColumn" ∧ Fld Z h a1 "com/example/reach2/reach2/model/CodedColumn" "codes" "[B" (.ref ac) ∧ Fld Z h a1 "com/example/reach2/reach2/model/CodedColumn" "values" "[J" (.ref av) ∧ Fld Z h a1 "com/example/reach2/reach2/model/CodedColumn" "lookup" "[S" (.ref al) ∧ Fld Z h a1 "com/example/reach2/reach2/model/CodedColumn" "distinct" "I" (.int p4) ∧ Fld Z h a1 "com/example/reach2/reach2/model/CodedColumn" "plain" "[J" .null
set_option maxRecDepth 65536 in
set_option maxHeartbeats 40000000 in
theorem rmI2 (l : Launch) (Z : State) (a0 : Array Value) (hw : ∀ d ∈ tables_1, d.before a0 Z = true) (ws : List Jvm.Cond) (a1 : Nat) (ac : Nat) (av : Nat) (al : Nat) (p4 : Int32) (u_codes : Value) (u_values : Value) (u_lookup : Value) (u_distinct : Value) (u_plain : Value) (h0 : Heap) (n0 : Nat) (Z0 : n0 ≤ h0.size) (E1 : Exa Z h0 a1 "com/example/reach2/reach2/model/CodedColumn") (F_codes : Fld Z h0 a1 "com/example/reach2/reach2/model/CodedColumn" "codes" "[B" u_codes) (F_values : Fld Z h0 a1 "com/example/reach2/reach2/model/CodedColumn" "values" "[J" u_values) (F_lookup : Fld Z h0 a1 "com/example/reach2/reach2/model/CodedColumn" "lookup" "[S" u_lookup) (F_distinct : Fld Z h0 a1 "com/example/reach2/reach2/model/CodedColumn" "distinct" "I" u_distinct) (F_plain : Fld Z h0 a1 "com/example/reach2/reach2/model/CodedColumn" "plain" "[J" u_plain) (g1 : n0 ≤ a1) :
    MetFree l (⟨"com/example/reach2/reach2/model/CodedColumn", "<init>", "([B[J[SI[J)V"⟩ : MethodName) (head1 (Jvm.Cond.code (⟨"com/example/reach2/reach2/model/CodedColumn", "<init>", "([B[J[SI[J)V"⟩ : MethodName) prog_47_method_2_code 6 none :: ws) ({ frames := 1, cells := 0, slots := 0, locals := 12 } : Room)) (fun a U => a = #[(.ref a1), (.ref ac), (.ref av), (.ref al), (.int p4), .null] ∧ Z.Warmed39 U.vm ∧ U.heap = h0) (fun _ _ _ _ _ => True) (fun _ U o U' => ∃ v L, o = .returned v ∧ own_Q_rmI2 Z a1 ac av al p4 u_codes u_values u_lookup u_distinct u_plain h0 n0 v U'.heap L ∧ FrameEnd U o U' L ({ frames := 1, cells := 0, slots := 0, locals := 12 } : Room).cells ({ frames := 1, cells := 0, slots := 0, locals := 12 } : Room).slots) := by
  refine own_enter (Q := fun v h L => own_Q_rmI2 Z a1 ac av al p4 u_codes u_values u_lookup u_distinct u_plain h0 n0 v h L) (F := fun m => mkF m 0 #[rv a1, rv ac, rv av, rv al, iv p4, .val .null] []) own_pn0 (fun m => own_ef_rmI2 m a1 ac av al p4) ?_
  intro p e s m below meth c T X hx hby hml hret hlk hnm hown hZ e0
  show own_Goes p e below s _ _ (T.setTop (mkF m 0 #[rv a1, rv ac, rv av, rv al, iv p4, .val .null] []))
  have N0 := Fr.nil n0
  refine own_st (fun _ k => XS.aloadN X.here hx rfl (hb hby own_d2_0) rfl rfl  k) ?_
  show own_Goes p e below s _ _ (T.setTop (mkF m 1 #[rv a1, rv ac, rv av, rv al, iv p4, .val .null] [(.ref a1)]))
  obtain ⟨T101, X101, e101, st101⟩ := initO X hx hZ hown (hw _ (List.mem_of_getElem? (i := 13) rfl)) (hw _ (List.mem_of_getElem? (i := 14) rfl)) (hw _ (List.mem_of_getElem? (i := 15) rfl)) e0 (g := (mkF m 1 #[rv a1, rv ac, rv av, rv al, iv p4, .val .null] [(.ref a1)])) rfl (by rw [hml]; rfl) rfl (hb hby own_d2_1) (by decide) (W := 0) (by show 2 * 0 + _ ≤ _; exact Nat.le_of_eq rfl) (by decide)
  refine own_st st101 ?_
  show own_Goes p e below s _ _ (T101.setTop (mkF m 4 #[rv a1, rv ac, rv av, rv al, iv p4, .val .null] []))
  refine own_st (fun _ k => XS.aloadN X101.here hx rfl (hb hby own_d2_4) rfl rfl  k) ?_
  show own_Goes p e below s _ _ (T101.setTop (mkF m 5 #[rv a1, rv ac, rv av, rv al, iv p4, .val .null] [(.ref a1)]))
  refine own_st (fun _ k => XS.aloadN X101.here hx rfl (hb hby own_d2_5) rfl rfl  k) ?_
  show own_Goes p e below s _ _ (T101.setTop (mkF m 6 #[rv a1, rv ac, rv av, rv al, iv p4, .val .null] [(.ref ac), (.ref a1)]))
  obtain ⟨T102, h102, X102, e102, W102, st102⟩ := putF X101 hx hZ hown (host := "") (Or.inl (hw _ (List.mem_of_getElem? (i := 16) rfl))) Via.refl e101 F_codes E1 (Or.inl (hw _ (List.mem_of_getElem? (i := 17) rfl))) (hw _ (List.mem_of_getElem? (i := 2) rfl)) (ty := (.array .byte)) (by decide) rfl rfl (g := (mkF m 6 #[rv a1, rv ac, rv av, rv al, iv p4, .val .null] [(.ref ac), (.ref a1)])) rfl rfl (hb hby own_d2_6)
  have z102 := W102.size
  have N102 := Fr.snoc X102 N0 (by omega)
  have F102 := F_codes.same W102
  refine own_st st102 ?_
  show own_Goes p e below s _ _ (T102.setTop (mkF m 9 #[rv a1, rv ac, rv av, rv al, iv p4, .val .null] []))
  refine own_st (fun _ k => XS.aloadN X102.here hx rfl (hb hby own_d2_9) rfl rfl  k) ?_
  show own_Goes p e below s _ _ (T102.setTop (mkF m 10 #[rv a1, rv ac, rv av, rv al, iv p4, .val .null] [(.ref a1)]))
  refine own_st (fun _ k => XS.aloadN X102.here hx rfl (hb hby own_d2_10) rfl rfl  k) ?_
  show own_Goes p e below s _ _ (T102.setTop (mkF m 11 #[rv a1, rv ac, rv av, rv al, iv p4, .val .null] [(.ref av), (.ref a1)]))
  have f103 := (F_values.other W102 (Or.inr (slot_ne (Or.inl (hw _ (List.mem_of_getElem? (i := 19) rfl))) (Or.inl (hw _ (List.mem_of_getElem? (i := 17) rfl))) (by decide) (t := (.array .long)) (t' := (.array .byte)) (by decide) (by decide))))
  have f104 := (E1.wr W102)
  obtain ⟨T105, h105, X105, e105, W105, st105⟩ := putF X102 hx hZ hown (host := "") (Or.inl (hw _ (List.mem_of_getElem? (i := 18) rfl))) Via.refl e102 f103 f104 (Or.inl (hw _ (List.mem_of_getElem? (i := 19) rfl))) (hw _ (List.mem_of_getElem? (i := 2) rfl)) (ty := (.array .long)) (by decide) rfl rfl (g := (mkF m 11 #[rv a1, rv ac, rv av, rv al, iv p4, .val .null] [(.ref av), (.ref a1)])) rfl rfl (hb hby own_d2_11)
  have z105 := W105.size
  have N105 := Fr.snoc X105 N102 (by omega)
  have F105 := f103.same W105
  refine own_st st105 ?_
  show own_Goes p e below s _ _ (T105.setTop (mkF m 14 #[rv a1, rv ac, rv av, rv al, iv p4, .val .null] []))
  refine own_st (fun _ k => XS.aloadN X105.here hx rfl (hb hby own_d2_14) rfl rfl  k) ?_
  show own_Goes p e below s _ _ (T105.setTop (mkF m 15 #[rv a1, rv ac, rv av, rv al, iv p4, .val .null] [(.ref a1)]))
  refine own_st (fun _ k => XS.aloadN X105.here hx rfl (hb hby own_d2_15) rfl rfl  k) ?_
  show own_Goes p e below s _ _ (T105.setTop (mkF m 16 #[rv a1, rv ac, rv av, rv al, iv p4, .val .null] [(.ref al), (.ref a1)]))
  have f106 := ((F_lookup.other W102 (Or.inr (slot_ne (Or.inl (hw _ (List.mem_of_getElem? (i := 21) rfl))) (Or.inl (hw _ (List.mem_of_getElem? (i := 17) rfl))) (by decide) (t := (.array .short)) (t' := (.array .byte)) (by decide) (by decide)))).other W105 (Or.inr (slot_ne (Or.inl (hw _ (List.mem_of_getElem? (i := 21) rfl))) (Or.inl (hw _ (List.mem_of_getElem? (i := 19) rfl))) (by decide) (t := (.array .short)) (t' := (.array .long)) (by decide) (by decide))))
  have f107 := (f104.wr W105)
  obtain ⟨T108, h108, X108, e108, W108, st108⟩ := putF X105 hx hZ hown (host := "") (Or.inl (hw _ (List.mem_of_getElem? (i := 20) rfl))) Via.refl e105 f106 f107 (Or.inl (hw _ (List.mem_of_getElem? (i := 21) rfl))) (hw _ (List.mem_of_getElem? (i := 2) rfl)) (ty := (.array .short)) (by decide) rfl rfl (g := (mkF m 16 #[rv a1, rv ac, rv av, rv al, iv p4, .val .null] [(.ref al), (.ref a1)])) rfl rfl (hb hby own_d2_16)
  have z108 := W108.size
  have N108 := Fr.snoc X108 N105 (by omega)
  have F108 := f106.same W108
  refine own_st st108 ?_
  show own_Goes p e below s _ _ (T108.setTop (mkF m 19 #[rv a1, rv ac, rv av, rv al, iv p4, .val .null] []))
  refine own_st (fun _ k => XS.aloadN X108.here hx rfl (hb hby own_d2_19) rfl rfl  k) ?_
  show own_Goes p e below s _ _ (T108.setTop (mkF m 20 #[rv a1, rv ac, rv av, rv al, iv p4, .val .null] [(.ref a1)]))
  refine own_st (fun _ k => XS.iload X108.here hx rfl (hb hby own_d2_20) rfl  k) ?_
  show own_Goes p e below s _ _ (T108.setTop (mkF m 22 #[rv a1, rv ac, rv av, rv al, iv p4, .val .null] [(.int p4), (.ref a1)]))
  have f109 := (((F_distinct.other W102 (Or.inr (slot_ne (Or.inl (hw _ (List.mem_of_getElem? (i := 23) rfl))) (Or.inl (hw _ (List.mem_of_getElem? (i := 17) rfl))) (by decide) (t := .int) (t' := (.array .byte)) (by decide) (by decide)))).other W105 (Or.inr (slot_ne (Or.inl (hw _ (List.mem_of_getElem? (i := 23) rfl))) (Or.inl (hw _ (List.mem_of_getElem? (i := 19) rfl))) (by decide) (t := .int) (t' := (.array .long)) (by decide) (by decide)))).other W108 (Or.inr (slot_ne (Or.inl (hw _ (List.mem_of_getElem? (i := 23) rfl))) (Or.inl (hw _ (List.mem_of_getElem? (i := 21) rfl))) (by decide) (t := .int) (t' := (.array .short)) (by decide) (by decide))))
  have f110 := (f107.wr W108)
  obtain ⟨T111, h111, X111, e111, W111, st111⟩ := putF X108 hx hZ hown (host := "") (Or.inl (hw _ (List.mem_of_getElem? (i := 22) rfl))) Via.refl e108 f109 f110 (Or.inl (hw _ (List.mem_of_getElem? (i := 23) rfl))) (hw _ (List.mem_of_getElem? (i := 2) rfl)) (ty := .int) (by decide) rfl rfl (g := (mkF m 22 #[rv a1, rv ac, rv av, rv al, iv p4, .val .null] [(.int p4), (.ref a1)])) rfl rfl (hb hby own_d2_22)
  have z111 := W111.size
  have N111 := Fr.snoc X111 N108 (by omega)
  have F111 := f109.same W111
  refine own_st st111 ?_
  show own_Goes p e below s _ _ (T111.setTop (mkF m 25 #[rv a1, rv ac, rv av, rv al, iv p4, .val .null] []))
  refine own_st (fun _ k => XS.aloadN X111.here hx rfl (hb hby own_d2_25) rfl rfl  k) ?_
  show own_Goes p e below s _ _ (T111.setTop (mkF m 26 #[rv a1, rv ac, rv av, rv al, iv p4, .val .null] [(.ref a1)]))
  refine own_st (fun _ k => XS.aload X111.here hx rfl (hb hby own_d2_26) rfl rfl  k) ?_
  show own_Goes p e below s _ _ (T111.setTop (mkF m 28 #[rv a1, rv ac, rv av, rv al, iv p4, .val .null] [.null, (.ref a1)]))
  have f112 := ((((F_plain.other W102 (Or.inr (slot_ne (Or.inl (hw _ (List.mem_of_getElem? (i := 25) rfl))) (Or.inl (hw _ (List.mem_of_getElem? (i := 17) rfl))) (by decide) (t := (.array .long)) (t' := (.array .byte)) (by decide) (by decide)))).other W105 (Or.inr (slot_ne (Or.inl (hw _ (List.mem_of_getElem? (i := 25) rfl))) (Or.inl (hw _ (List.mem_of_getElem? (i := 19) rfl))) (by decide) (t := (.array .long)) (t' := (.array .long)) (by decide) (by decide)))).other W108 (Or.inr (slot_ne (Or.inl (hw _ (List.mem_of_getElem? (i := 25) rfl))) (Or.inl (hw _ (List.mem_of_getElem? (i := 21) rfl))) (by decide) (t := (.array .long)) (t' := (.array .short)) (by decide) (by decide)))).other W111 (Or.inr (slot_ne (Or.inl (hw _ (List.mem_of_getElem? (i := 25) rfl))) (Or.inl (hw _ (List.mem_of_getElem? (i := 23) rfl))) (by decide) (t := (.array .long)) (t' := .int) (by decide) (by decide))))
  have f113 := (f110.wr W111)
  obtain ⟨T114, h114, X114, e114, W114, st114⟩ := putF X111 hx hZ hown (host := "") (Or.inl (hw _ (List.mem_of_getElem? (i := 24) rfl))) Via.refl e111 f112 f113 (Or.inl (hw _ (List.mem_of_getElem? (i := 25) rfl))) (hw _ (List.mem_of_getElem? (i := 2) rfl)) (ty := (.array .long)) (by decide) rfl rfl (g := (mkF m 28 #[rv a1, rv ac, rv av, rv al, iv p4, .val .null] [.null, (.ref a1)])) rfl rfl (hb hby own_d2_28)
  have z114 := W114.size
  have N114 := Fr.snoc X114 N111 (by omega)
  have F114 := f112.same W114
  refine own_st st114 ?_
  show own_Goes p e below s _ _ (T114.setTop (mkF m 31 #[rv a1, rv ac, rv av, rv al, iv p4, .val .null] []))
  have f115 := (f113.wr W114)
  have f116 := ((((F102.other W105 (Or.inr (slot_ne (Or.inl (hw _ (List.mem_of_getElem? (i := 17) rfl))) (Or.inl (hw _ (List.mem_of_getElem? (i := 19) rfl))) (by decide) (t := (.array .byte)) (t' := (.array .long)) (by decide) (by decide)))).other W108 (Or.inr (slot_ne (Or.inl (hw _ (List.mem_of_getElem? (i := 17) rfl))) (Or.inl (hw _ (List.mem_of_getElem? (i := 21) rfl))) (by decide) (t := (.array .byte)) (t' := (.array .short)) (by decide) (by decide)))).other W111 (Or.inr (slot_ne (Or.inl (hw _ (List.mem_of_getElem? (i := 17) rfl))) (Or.inl (hw _ (List.mem_of_getElem? (i := 23) rfl))) (by decide) (t := (.array .byte)) (t' := .int) (by decide) (by decide)))).other W114 (Or.inr (slot_ne (Or.inl (hw _ (List.mem_of_getElem? (i := 17) rfl))) (Or.inl (hw _ (List.mem_of_getElem? (i := 25) rfl))) (by decide) (t := (.array .byte)) (t' := (.array .long)) (by decide) (by decide))))
  have f117 := (((F105.other W108 (Or.inr (slot_ne (Or.inl (hw _ (List.mem_of_getElem? (i := 19) rfl))) (Or.inl (hw _ (List.mem_of_getElem? (i := 21) rfl))) (by decide) (t := (.array .long)) (t' := (.array .short)) (by decide) (by decide)))).other W111 (Or.inr (slot_ne (Or.inl (hw _ (List.mem_of_getElem? (i := 19) rfl))) (Or.inl (hw _ (List.mem_of_getElem? (i := 23) rfl))) (by decide) (t := (.array .long)) (t' := .int) (by decide) (by decide)))).other W114 (Or.inr (slot_ne (Or.inl (hw _ (List.mem_of_getElem? (i := 19) rfl))) (Or.inl (hw _ (List.mem_of_getElem? (i := 25) rfl))) (by decide) (t := (.array .long)) (t' := (.array .long)) (by decide) (by decide))))
  have f118 := ((F108.other W111 (Or.inr (slot_ne (Or.inl (hw _ (List.mem_of_getElem? (i := 21) rfl))) (Or.inl (hw _ (List.mem_of_getElem? (i := 23) rfl))) (by decide) (t := (.array .short)) (t' := .int) (by decide) (by decide)))).other W114 (Or.inr (slot_ne (Or.inl (hw _ (List.mem_of_getElem? (i := 21) rfl))) (Or.inl (hw _ (List.mem_of_getElem? (i := 25) rfl))) (by decide) (t := (.array .short)) (t' := (.array .long)) (by decide) (by decide))))
  have f119 := (F111.other W114 (Or.inr (slot_ne (Or.inl (hw _ (List.mem_of_getElem? (i := 23) rfl))) (Or.inl (hw _ (List.mem_of_getElem? (i := 25) rfl))) (by decide) (t := .int) (t' := (.array .long)) (by decide) (by decide))))
  exact own_ret0 X114 hx hlk hret (hb hby own_d2_31) (by decide) (by decide) ⟨rfl, N114, by rw [e114]; exact ((((((Keep.refl h0 [a1]).wr W102 (Or.inl (by simp))).wr W105 (Or.inl (by simp))).wr W108 (Or.inl (by simp))).wr W111 (Or.inl (by simp))).wr W114 (Or.inl (by simp))), by rw [e114]; exact f115, by rw [e114]; exact f116, by rw [e114]; exact f117, by rw [e114]; exact f118, by rw [e114]; exact f119, by rw [e114]; exact F114⟩
theorem own_pn1 : plainFor (⟨"com/example/reach2/reach2/model/CodedColumn", "<init>", "(I)V"⟩ : MethodName) = true := by first | exact plainFor_of_name (by simp [plainName, overriddenIn]; done) | decide +kernel
theorem own_d1_0 : decode prog_47_method_1_code 0 = .ok (.aload_n 0, 1) := by decide +kernel
theorem own_d1_1 : decode prog_47_method_1_code 1 = .ok (.iload_n 1, 1) := by decide +kernel
theorem own_d1_2 : decode prog_47_method_1_code 2 = .ok (.newarray .byte, 2) := by decide +kernel
theorem own_d1_4 : decode prog_47_method_1_code 4 = .ok (.sipush 256, 3) := by decide +kernel
theorem own_d1_7 : decode prog_47_method_1_code 7 = .ok (.newarray .long, 2) := by decide +kernel
theorem own_d1_9 : decode prog_47_method_1_code 9 = .ok (.sipush 512, 3) := by decide +kernel
theorem own_d1_12 : decode prog_47_method_1_code 12 = .ok (.newarray .short, 2) := by decide +kernel
theorem own_d1_14 : decode prog_47_method_1_code 14 = .ok (.iconst 0, 1) := by decide +kernel
theorem own_d1_15 : decode prog_47_method_1_code 15 = .ok (.aconst_null, 1) := by decide +kernel
theorem own_d1_16 : decode prog_47_method_1_code 16 = .ok (.invokespecial 3, 3) := by decide +kernel
theorem own_pd0 : parseMethodDescriptor "([B[J[SI[J)V" = some ⟨[(.array .byte), (.array .long), (.array .short), .int, (.array .long)], none⟩ := by decide +kernel
theorem own_d1_19 : decode prog_47_method_1_code 19 = .ok (.return_, 1) := by decide +kernel
theorem own_ef_rmI1 (m : MethodId) (a1 : Nat) : entryFrame m #[(.ref a1), (.int (3 : Int32))] 2 = mkF m 0 #[rv a1, iv (3 : Int32)] [] := by first | (simp [entryFrame, mkF, argsToLocals, Value.category, maxLocals]; done) | rfl
abbrev own_Q_rmI1 (Z : State) (a1 : Nat) (u_codes : Value) (u_values : Value) (u_lookup : Value) (u_distinct : Value) (u_plain : Value) (h0 : Heap) (n0 : Nat) (v : Option Value) (h : Heap) (L : List Loc) : Prop := ∃ ac av al : Nat, v = none ∧ Fr n0 L ∧ Keep h0 h [a1] ∧ h0.size ≤ ac ∧ ac < av ∧ av < al ∧ al < h.size ∧ Exa Z h a1 "com/example/reach2/reach2/model/CodedColumn" ∧ Fld Z h a1 "com/example/reach2/reach2/model/CodedColumn" "codes" "[B" (.ref ac) ∧ Fld Z h a1 "com/example/reach2/reach2/model/CodedColumn" "values" "[J" (.ref av) ∧ Fld Z h a1 "com/example/reach2/reach2/model/CodedColumn" "lookup" "[S" (.ref al) ∧ Fld Z h a1 "com/example/reach2/reach2/model/CodedColumn" "distinct" "I" (.int (0 : Int32)) ∧ Fld Z h a1 "com/example/reach2/reach2/model/CodedColumn" "plain" "[J" .null ∧ own_Arf Z h ac .byte 3 (fun k => .int ((fun _ => (0 : Int32)) k)) ∧ own_Arf Z h av .long 256 (fun k => .long ((fun _ => (0 : Int64)) k)) ∧ own_Arf Z h al .short 512 (fun k => .int ((fun _ => (0 : Int32)) k)) ∧ Exa Z h av "[J" ∧ Exa Z h al "[S"
set_option maxRecDepth 65536 in
set_option maxHeartbeats 40000000 in
theorem rmI1 (l : Launch) (Z : State) (a0 : Array Value) (hw : ∀ d ∈ tables_1, d.before a0 Z = true) (ws : List Jvm.Cond) (a1 : Nat) (u_codes : Value) (u_values : Value) (u_lookup : Value) (u_distinct : Value) (u_plain : Value) (h0 : Heap) (n0 : Nat) (Z0 : n0 ≤ h0.size) (E1 : Exa Z h0 a1 "com/example/reach2/reach2/model/CodedColumn") (F_codes : Fld Z h0 a1 "com/example/reach2/reach2/model/CodedColumn" "codes" "[B" u_codes) (F_values : Fld Z h0 a1 "com/example/reach2/reach2/model/CodedColumn" "values" "[J" u_values) (F_lookup : Fld Z h0 a1 "com/example/reach2/reach2/model/CodedColumn" "lookup" "[S" u_lookup) (F_distinct : Fld Z h0 a1 "com/example/reach2/reach2/model/CodedColumn" "distinct" "I" u_distinct) (F_plain : Fld Z h0 a1 "com/example/reach2/reach2/model/CodedColumn" "plain" "[J" u_plain) (g1 : n0 ≤ a1) (y1 : a1 < h0.size) :
    MetFree l (⟨"com/example/reach2/reach2/model/CodedColumn", "<init>", "(I)V"⟩ : MethodName) (head1 (Jvm.Cond.code (⟨"com/example/reach2/reach2/model/CodedColumn", "<init>", "(I)V"⟩ : MethodName) prog_47_method_1_code 2 none :: ws) ({ frames := 2, cells := 3, slots := 771, locals := 29 } : Room)) (fun a U => a = #[(.ref a1), (.int (3 : Int32))] ∧ Z.Warmed39 U.vm ∧ U.heap = h0) (fun _ _ _ _ _ => True) (fun _ U o U' => ∃ v L, o = .returned v ∧ own_Q_rmI1 Z a1 u_codes u_values u_lookup u_distinct u_plain h0 n0 v U'.heap L ∧ FrameEnd U o U' L ({ frames := 2, cells := 3, slots := 771, locals := 29 } : Room).cells ({ frames := 2, cells := 3, slots := 771, locals := 29 } : Room).slots) := by
  refine own_enter (Q := fun v h L => own_Q_rmI1 Z a1 u_codes u_values u_lookup u_distinct u_plain h0 n0 v h L) (F := fun m => mkF m 0 #[rv a1, iv (3 : Int32)] []) own_pn1 (fun m => own_ef_rmI1 m a1) ?_
  intro p e s m below meth c T X hx hby hml hret hlk hnm hown hZ e0
  show own_Goes p e below s _ _ (T.setTop (mkF m 0 #[rv a1, iv (3 : Int32)] []))
  have N0 := Fr.nil n0
  refine own_st (fun _ k => XS.aloadN X.here hx rfl (hb hby own_d1_0) rfl rfl  k) ?_
  show own_Goes p e below s _ _ (T.setTop (mkF m 1 #[rv a1, iv (3 : Int32)] [(.ref a1)]))
  refine own_st (fun _ k => XS.iloadN X.here hx rfl (hb hby own_d1_1) rfl  k) ?_
  show own_Goes p e below s _ _ (T.setTop (mkF m 2 #[rv a1, iv (3 : Int32)] [(.int (3 : Int32)), (.ref a1)]))
  obtain ⟨T101, h101, X101, e101, E101, A101, Y101, st101⟩ := own_newPE X hx hZ (aty := .byte) (hw _ (List.mem_of_getElem? (i := 7) rfl)) e0 (g := (mkF m 2 #[rv a1, iv (3 : Int32)] [(.int (3 : Int32)), (.ref a1)])) rfl (hb hby own_d1_2) rfl (by decide) (cap := 3) (by decide) (by decide) (by decide) (by decide) (ad := "[B") (by decide +kernel)
  obtain ⟨b101, g101⟩ : ∃ z, z = h0.size := ⟨_, rfl⟩
  rw [← g101] at A101 st101 Y101
  have V101 : own_Arf Z h101 b101 .byte 3 (fun k => .int ((fun _ => (0 : Int32)) k)) := A101
  have y101 := own_lt V101.lt
  have z101 := E101.1
  refine own_st st101 ?_
  show own_Goes p e below s _ _ (T101.setTop (mkF m 4 #[rv a1, iv (3 : Int32)] [(.ref b101), (.ref a1)]))
  refine own_st (fun _ k => XS.sipush X101.here hx rfl (hb hby own_d1_4) k) ?_
  show own_Goes p e below s _ _ (T101.setTop (mkF m 7 #[rv a1, iv (3 : Int32)] [(.int (256 : Int32)), (.ref b101), (.ref a1)]))
  obtain ⟨T102, h102, X102, e102, E102, A102, Y102, st102⟩ := own_newPE X101 hx hZ (aty := .long) (hw _ (List.mem_of_getElem? (i := 8) rfl)) e101 (g := (mkF m 7 #[rv a1, iv (3 : Int32)] [(.int (256 : Int32)), (.ref b101), (.ref a1)])) rfl (hb hby own_d1_7) rfl (by decide) (cap := 256) (by decide) (by decide) (by decide) (by decide) (ad := "[J") (by decide +kernel)
  obtain ⟨b102, g102⟩ : ∃ z, z = h101.size := ⟨_, rfl⟩
  rw [← g102] at A102 st102 Y102
  have V102 : own_Arf Z h102 b102 .long 256 (fun k => .long ((fun _ => (0 : Int64)) k)) := A102
  have y102 := own_lt V102.lt
  have z102 := E102.1
  refine own_st st102 ?_
  show own_Goes p e below s _ _ (T102.setTop (mkF m 9 #[rv a1, iv (3 : Int32)] [(.ref b102), (.ref b101), (.ref a1)]))
  refine own_st (fun _ k => XS.sipush X102.here hx rfl (hb hby own_d1_9) k) ?_
  show own_Goes p e below s _ _ (T102.setTop (mkF m 12 #[rv a1, iv (3 : Int32)] [(.int (512 : Int32)), (.ref b102), (.ref b101), (.ref a1)]))
  obtain ⟨T103, h103, X103, e103, E103, A103, Y103, st103⟩ := own_newPE X102 hx hZ (aty := .short) (hw _ (List.mem_of_getElem? (i := 9) rfl)) e102 (g := (mkF m 12 #[rv a1, iv (3 : Int32)] [(.int (512 : Int32)), (.ref b102), (.ref b101), (.ref a1)])) rfl (hb hby own_d1_12) rfl (by decide) (cap := 512) (by decide) (by decide) (by decide) (by decide) (ad := "[S") (by decide +kernel)
  obtain ⟨b103, g103⟩ : ∃ z, z = h102.size := ⟨_, rfl⟩
  rw [← g103] at A103 st103 Y103
  have V103 : own_Arf Z h103 b103 .short 512 (fun k => .int ((fun _ => (0 : Int32)) k)) := A103
  have y103 := own_lt V103.lt
  have z103 := E103.1
  refine own_st st103 ?_
  show own_Goes p e below s _ _ (T103.setTop (mkF m 14 #[rv a1, iv (3 : Int32)] [(.ref b103), (.ref b102), (.ref b101), (.ref a1)]))
  refine own_st (fun _ k => XS.iconst X103.here hx rfl (hb hby own_d1_14) k) ?_
  show own_Goes p e below s _ _ (T103.setTop (mkF m 15 #[rv a1, iv (3 : Int32)] [(.int (0 : Int32)), (.ref b103), (.ref b102), (.ref b101), (.ref a1)]))
  refine own_st (fun _ k => XS.aconstNull X103.here hx rfl (hb hby own_d1_15) k) ?_
  show own_Goes p e below s _ _ (T103.setTop (mkF m 16 #[rv a1, iv (3 : Int32)] [.null, (.int (0 : Int32)), (.ref b103), (.ref b102), (.ref b101), (.ref a1)]))
  have f105 := (((E1.ext E101).ext E102).ext E103)
  have f106 := (((F_codes.ext E101).ext E102).ext E103)
  have f107 := (((F_values.ext E101).ext E102).ext E103)
  have f108 := (((F_lookup.ext E101).ext E102).ext E103)
  have f109 := (((F_distinct.ext E101).ext E102).ext E103)
  have f110 := (((F_plain.ext E101).ext E102).ext E103)
  obtain ⟨v104, T104, L104, X104, Q104, st104⟩ := own_callI X103 hx hZ (y := (⟨"com/example/reach2/reach2/model/CodedColumn", "<init>", "([B[J[SI[J)V"⟩ : MethodName)) hown (hw _ (List.mem_of_getElem? (i := 10) rfl)) (hw _ (List.mem_of_getElem? (i := 11) rfl)) (hw _ (List.mem_of_getElem? (i := 3) rfl)) (hw _ (List.mem_of_getElem? (i := 12) rfl)) rfl (by decide) (W := 0) (rest := []) (argsL := [(.ref b101), (.ref b102), (.ref b103), (.int (0 : Int32)), .null]) (a := a1) (rmI2 l Z a0 hw [] a1 b101 b102 b103 (0 : Int32) _ _ _ _ _  h103 n0 (by omega) f105 f106 f107 f108 f109 f110 (by omega)) (by decide) (by decide) (by decide) (by decide) e103 own_pd0 rfl (g := (mkF m 16 #[rv a1, iv (3 : Int32)] [.null, (.int (0 : Int32)), (.ref b103), (.ref b102), (.ref b101), (.ref a1)])) rfl (by rw [hml]; rfl) rfl (by show 2 * 0 + _ ≤ _; exact Nat.le_of_eq rfl) (hb hby own_d1_16)
  obtain ⟨rfl, N104q, K104, A104, F104_codes, F104_values, F104_lookup, F104_distinct, F104_plain⟩ := Q104
  have z104 := K104.1
  have N104 := Fr.app N0 N104q
  refine own_st st104 ?_
  show own_Goes p e below s _ _ (T104.setTop (mkF m 19 #[rv a1, iv (3 : Int32)] []))
  have f111 := (((V101.ext E102).ext E103).keep K104 (ninS (own_ne (by omega)) nin0))
  have f112 := ((V102.ext E103).keep K104 (ninS (own_ne (by omega)) nin0))
  have f113 := (V103.keep K104 (ninS (own_ne (by omega)) nin0))
  have f114 := ((Y102.ext E103).keep K104)
  have f115 := (Y103.keep K104)
  exact own_ret0 X104 hx hlk hret (hb hby own_d1_19) (by decide) (by decide) ⟨b101, b102, b103, rfl, N104, (((((Keep.refl h0 [a1]).ext E101).ext E102).ext E103).trans K104 (allS (Or.inl (by simp)) all0)), by omega, by omega, by omega, by omega, A104, F104_codes, F104_values, F104_lookup, F104_distinct, F104_plain, f111, f112, f113, f114, f115⟩
theorem own_pn2 : plainFor (⟨"com/example/reach2/reach2/model/CodedColumn", "code", "(J)I"⟩ : MethodName) = true := by first | exact plainFor_of_name (by simp [plainName, overriddenIn]; done) | decide +kernel
theorem own_d5_93 : decode prog_47_method_10_code 93 = .ok (.aload_n 0, 1) := by decide +kernel
theorem own_d5_94 : decode prog_47_method_10_code 94 = .ok (.getfield 20, 3) := by decide +kernel
theorem own_d5_97 : decode prog_47_method_10_code 97 = .ok (.iload 4, 2) := by decide +kernel
theorem own_d5_99 : decode prog_47_method_10_code 99 = .ok (.saload, 1) := by decide +kernel
theorem own_d5_100 : decode prog_47_method_10_code 100 = .ok (.iconst 1, 1) := by decide +kernel
theorem own_d5_101 : decode prog_47_method_10_code 101 = .ok (.isub, 1) := by decide +kernel
theorem own_d5_102 : decode prog_47_method_10_code 102 = .ok (.istore_n 3, 1) := by decide +kernel
theorem own_d5_103 : decode prog_47_method_10_code 103 = .ok (.iload_n 3, 1) := by decide +kernel
theorem own_d5_104 : decode prog_47_method_10_code 104 = .ok (.ifCond .ge 43, 3) := by decide +kernel
theorem own_d5_107 : decode prog_47_method_10_code 107 = .ok (.aload_n 0, 1) := by decide +kernel
theorem own_d5_108 : decode prog_47_method_10_code 108 = .ok (.getfield 24, 3) := by decide +kernel
theorem own_d5_111 : decode prog_47_method_10_code 111 = .ok (.sipush 256, 3) := by decide +kernel
theorem own_d5_114 : decode prog_47_method_10_code 114 = .ok (.if_icmp .ge 33, 3) := by decide +kernel
theorem own_d5_117 : decode prog_47_method_10_code 117 = .ok (.aload_n 0, 1) := by decide +kernel
theorem own_d5_118 : decode prog_47_method_10_code 118 = .ok (.dup, 1) := by decide +kernel
theorem own_d5_119 : decode prog_47_method_10_code 119 = .ok (.getfield 24, 3) := by decide +kernel
theorem own_d5_122 : decode prog_47_method_10_code 122 = .ok (.dup_x1, 1) := by decide +kernel
theorem own_d5_123 : decode prog_47_method_10_code 123 = .ok (.iconst 1, 1) := by decide +kernel
theorem own_d5_124 : decode prog_47_method_10_code 124 = .ok (.iadd, 1) := by decide +kernel
theorem own_d5_125 : decode prog_47_method_10_code 125 = .ok (.putfield 24, 3) := by decide +kernel
theorem own_d5_128 : decode prog_47_method_10_code 128 = .ok (.istore_n 3, 1) := by decide +kernel
theorem own_d5_129 : decode prog_47_method_10_code 129 = .ok (.aload_n 0, 1) := by decide +kernel
theorem own_d5_130 : decode prog_47_method_10_code 130 = .ok (.getfield 16, 3) := by decide +kernel
theorem own_d5_133 : decode prog_47_method_10_code 133 = .ok (.iload_n 3, 1) := by decide +kernel
theorem own_d5_134 : decode prog_47_method_10_code 134 = .ok (.lload_n 1, 1) := by decide +kernel
theorem own_d5_135 : decode prog_47_method_10_code 135 = .ok (.lastore, 1) := by decide +kernel
theorem own_d5_136 : decode prog_47_method_10_code 136 = .ok (.aload_n 0, 1) := by decide +kernel
theorem own_d5_137 : decode prog_47_method_10_code 137 = .ok (.getfield 20, 3) := by decide +kernel
theorem own_d5_140 : decode prog_47_method_10_code 140 = .ok (.iload 4, 2) := by decide +kernel
theorem own_d5_142 : decode prog_47_method_10_code 142 = .ok (.iload_n 3, 1) := by decide +kernel
theorem own_d5_143 : decode prog_47_method_10_code 143 = .ok (.iconst 1, 1) := by decide +kernel
theorem own_d5_144 : decode prog_47_method_10_code 144 = .ok (.iadd, 1) := by decide +kernel
theorem own_d5_145 : decode prog_47_method_10_code 145 = .ok (.i2s, 1) := by decide +kernel
theorem own_d5_146 : decode prog_47_method_10_code 146 = .ok (.sastore, 1) := by decide +kernel
theorem own_d5_147 : decode prog_47_method_10_code 147 = .ok (.iload_n 3, 1) := by decide +kernel
theorem own_d5_148 : decode prog_47_method_10_code 148 = .ok (.ireturn, 1) := by decide +kernel
theorem own_d5_51 : decode prog_47_method_10_code 51 = .ok (.aload_n 0, 1) := by decide +kernel
theorem own_d5_52 : decode prog_47_method_10_code 52 = .ok (.getfield 20, 3) := by decide +kernel
theorem own_d5_55 : decode prog_47_method_10_code 55 = .ok (.iload 4, 2) := by decide +kernel
theorem own_d5_57 : decode prog_47_method_10_code 57 = .ok (.saload, 1) := by decide +kernel
theorem own_d5_58 : decode prog_47_method_10_code 58 = .ok (.ifCond .eq 35, 3) := by decide +kernel
theorem own_d5_61 : decode prog_47_method_10_code 61 = .ok (.aload_n 0, 1) := by decide +kernel
theorem own_d5_62 : decode prog_47_method_10_code 62 = .ok (.getfield 16, 3) := by decide +kernel
theorem own_d5_65 : decode prog_47_method_10_code 65 = .ok (.aload_n 0, 1) := by decide +kernel
theorem own_d5_66 : decode prog_47_method_10_code 66 = .ok (.getfield 20, 3) := by decide +kernel
theorem own_d5_69 : decode prog_47_method_10_code 69 = .ok (.iload 4, 2) := by decide +kernel
theorem own_d5_71 : decode prog_47_method_10_code 71 = .ok (.saload, 1) := by decide +kernel
theorem own_d5_72 : decode prog_47_method_10_code 72 = .ok (.iconst 1, 1) := by decide +kernel
theorem own_d5_73 : decode prog_47_method_10_code 73 = .ok (.isub, 1) := by decide +kernel
theorem own_d5_74 : decode prog_47_method_10_code 74 = .ok (.laload, 1) := by decide +kernel
theorem own_d5_75 : decode prog_47_method_10_code 75 = .ok (.lload_n 1, 1) := by decide +kernel
theorem own_d5_76 : decode prog_47_method_10_code 76 = .ok (.lcmp, 1) := by decide +kernel
theorem own_d5_77 : decode prog_47_method_10_code 77 = .ok (.ifCond .eq 16, 3) := by decide +kernel
theorem own_d5_80 : decode prog_47_method_10_code 80 = .ok (.iload 4, 2) := by decide +kernel
theorem own_d5_82 : decode prog_47_method_10_code 82 = .ok (.iconst 1, 1) := by decide +kernel
theorem own_d5_83 : decode prog_47_method_10_code 83 = .ok (.iadd, 1) := by decide +kernel
theorem own_d5_84 : decode prog_47_method_10_code 84 = .ok (.sipush 511, 3) := by decide +kernel
theorem own_d5_87 : decode prog_47_method_10_code 87 = .ok (.iand, 1) := by decide +kernel
theorem own_d5_88 : decode prog_47_method_10_code 88 = .ok (.istore 4, 2) := by decide +kernel
theorem own_d5_90 : decode prog_47_method_10_code 90 = .ok (.goto (-39), 3) := by decide +kernel
theorem own_d5_39 : decode prog_47_method_10_code 39 = .ok (.lload_n 1, 1) := by decide +kernel
theorem own_d5_40 : decode prog_47_method_10_code 40 = .ok (.ldc2_w 60, 3) := by decide +kernel
theorem own_d5_43 : decode prog_47_method_10_code 43 = .ok (.lmul, 1) := by decide +kernel
theorem own_d5_44 : decode prog_47_method_10_code 44 = .ok (.getstatic 62, 3) := by decide +kernel
theorem own_d5_47 : decode prog_47_method_10_code 47 = .ok (.lushr, 1) := by decide +kernel
theorem own_d5_48 : decode prog_47_method_10_code 48 = .ok (.l2i, 1) := by decide +kernel
theorem own_d5_49 : decode prog_47_method_10_code 49 = .ok (.istore 4, 2) := by decide +kernel
theorem own_d5_0 : decode prog_47_method_10_code 0 = .ok (.lload_n 1, 1) := by decide +kernel
theorem own_d5_1 : decode prog_47_method_10_code 1 = .ok (.lconst 0, 1) := by decide +kernel
theorem own_d5_2 : decode prog_47_method_10_code 2 = .ok (.lcmp, 1) := by decide +kernel
theorem own_d5_3 : decode prog_47_method_10_code 3 = .ok (.ifCond .lt 30, 3) := by decide +kernel
theorem own_d5_33 : decode prog_47_method_10_code 33 = .ok (.iconst (-1), 1) := by decide +kernel
theorem own_d5_34 : decode prog_47_method_10_code 34 = .ok (.istore_n 3, 1) := by decide +kernel
theorem own_d5_35 : decode prog_47_method_10_code 35 = .ok (.iload_n 3, 1) := by decide +kernel
theorem own_d5_36 : decode prog_47_method_10_code 36 = .ok (.ifCond .ge 111, 3) := by decide +kernel
theorem own_d5_6 : decode prog_47_method_10_code 6 = .ok (.lload_n 1, 1) := by decide +kernel
theorem own_d5_7 : decode prog_47_method_10_code 7 = .ok (.aload_n 0, 1) := by decide +kernel
theorem own_d5_8 : decode prog_47_method_10_code 8 = .ok (.getfield 24, 3) := by decide +kernel
theorem own_d5_11 : decode prog_47_method_10_code 11 = .ok (.i2l, 1) := by decide +kernel
theorem own_d5_12 : decode prog_47_method_10_code 12 = .ok (.lcmp, 1) := by decide +kernel
theorem own_d5_13 : decode prog_47_method_10_code 13 = .ok (.ifCond .ge 20, 3) := by decide +kernel
theorem own_d5_16 : decode prog_47_method_10_code 16 = .ok (.aload_n 0, 1) := by decide +kernel
theorem own_d5_17 : decode prog_47_method_10_code 17 = .ok (.getfield 16, 3) := by decide +kernel
theorem own_d5_20 : decode prog_47_method_10_code 20 = .ok (.lload_n 1, 1) := by decide +kernel
theorem own_d5_21 : decode prog_47_method_10_code 21 = .ok (.l2i, 1) := by decide +kernel
theorem own_d5_22 : decode prog_47_method_10_code 22 = .ok (.laload, 1) := by decide +kernel
theorem own_d5_23 : decode prog_47_method_10_code 23 = .ok (.lload_n 1, 1) := by decide +kernel
theorem own_d5_24 : decode prog_47_method_10_code 24 = .ok (.lcmp, 1) := by decide +kernel
theorem own_d5_25 : decode prog_47_method_10_code 25 = .ok (.ifCond .ne 8, 3) := by decide +kernel
theorem own_d5_28 : decode prog_47_method_10_code 28 = .ok (.lload_n 1, 1) := by decide +kernel
theorem own_d5_29 : decode prog_47_method_10_code 29 = .ok (.l2i, 1) := by decide +kernel
theorem own_d5_30 : decode prog_47_method_10_code 30 = .ok (.goto 4, 3) := by decide +kernel
theorem own_ef_rmCode (m : MethodId) (a1 : Nat) (q2 : Int64) : entryFrame m #[(.ref a1), (.long q2)] 5 = mkF m 0 #[rv a1, own_jv q2, .second, .unset, .unset] [] := by first | (simp [entryFrame, mkF, argsToLocals, Value.category, maxLocals]; done) | rfl
abbrev own_Q_rmCode (Z : State) (a1 : Nat) (q2 : Int64) (ac : Nat) (av : Nat) (al : Nat) (d : Int32) (Vf : Nat → Int64) (Kf : Nat → Int32) (occ : List Nat) (h0 : Heap) (n0 : Nat) (v : Option Value) (h : Heap) (L : List Loc) : Prop := ∃ (r d' : Int32) (V' : Nat → Int64) (K' : Nat → Int32) (occ' : List Nat), v = some (.int r) ∧ Fr n0 L ∧ Keep h0 h [a1, av, al] ∧ Exa Z h a1 "com/example/reach2/reach2/model/CodedColumn" ∧ Fld Z h a1 "com/example/reach2/reach2/model/CodedColumn" "distinct" "I" (.int d') ∧ Fld Z h a1 "com/example/reach2/reach2/model/CodedColumn" "values" "[J" (.ref av) ∧ Fld Z h a1 "com/example/reach2/reach2/model/CodedColumn" "lookup" "[S" (.ref al) ∧ own_Arf Z h av .long 256 (fun k => .long (V' k)) ∧ own_Arf Z h al .short 512 (fun k => .int (K' k)) ∧ Fld Z h a1 "com/example/reach2/reach2/model/CodedColumn" "codes" "[B" (.ref ac) ∧ own_CP r d d' Vf V' q2 ∧ occ'.length ≤ occ.length + 1 ∧ own_LK occ' d' K' ∧ Sta Z h "com/example/reach2/reach2/model/CodedColumn" "LOOKUP_SHIFT" "I" (.int (55 : Int32))
set_option maxRecDepth 65536 in
set_option maxHeartbeats 40000000 in
theorem rmCode (l : Launch) (Z : State) (a0 : Array Value) (hw : ∀ d ∈ tables_1, d.before a0 Z = true) (ws : List Jvm.Cond) (a1 : Nat) (q2 : Int64) (ac : Nat) (av : Nat) (al : Nat) (d : Int32) (Vf : Nat → Int64) (Kf : Nat → Int32) (occ : List Nat) (h0 : Heap) (n0 : Nat) (Z0 : n0 ≤ h0.size) (E1 : Exa Z h0 a1 "com/example/reach2/reach2/model/CodedColumn") (F_d : Fld Z h0 a1 "com/example/reach2/reach2/model/CodedColumn" "distinct" "I" (.int d)) (F_v : Fld Z h0 a1 "com/example/reach2/reach2/model/CodedColumn" "values" "[J" (.ref av)) (F_l : Fld Z h0 a1 "com/example/reach2/reach2/model/CodedColumn" "lookup" "[S" (.ref al)) (F_c : Fld Z h0 a1 "com/example/reach2/reach2/model/CodedColumn" "codes" "[B" (.ref ac)) (Av : own_Arf Z h0 av .long 256 (fun k => .long (Vf k))) (Al : own_Arf Z h0 al .short 512 (fun k => .int (Kf k))) (S1 : Sta Z h0 "com/example/reach2/reach2/model/CodedColumn" "LOOKUP_SHIFT" "I" (.int (55 : Int32))) (hd : 0 ≤ d.toInt ∧ d.toInt ≤ 100) (ho : occ.length ≤ 3) (hK : own_LK occ d Kf) (g1 : n0 ≤ a1) (g2 : n0 ≤ av) (g3 : n0 ≤ al) (x1 : a1 ≠ av) (x2 : a1 ≠ al) (x3 : av ≠ al) :
    MetFree l (⟨"com/example/reach2/reach2/model/CodedColumn", "code", "(J)I"⟩ : MethodName) (head1 (Jvm.Cond.code (⟨"com/example/reach2/reach2/model/CodedColumn", "code", "(J)I"⟩ : MethodName) prog_47_method_10_code 5 (some .int) :: ws) ({ frames := 0, cells := 0, slots := 0, locals := 0 } : Room)) (fun a U => a = #[(.ref a1), (.long q2)] ∧ Z.Warmed39 U.vm ∧ U.heap = h0) (fun _ _ _ _ _ => True) (fun _ U o U' => ∃ v L, o = .returned v ∧ own_Q_rmCode Z a1 q2 ac av al d Vf Kf occ h0 n0 v U'.heap L ∧ FrameEnd U o U' L ({ frames := 0, cells := 0, slots := 0, locals := 0 } : Room).cells ({ frames := 0, cells := 0, slots := 0, locals := 0 } : Room).slots) := by
  refine own_enter (Q := fun v h L => own_Q_rmCode Z a1 q2 ac av al d Vf Kf occ h0 n0 v h L) (F := fun m => mkF m 0 #[rv a1, own_jv q2, .second, .unset, .unset] []) own_pn2 (fun m => own_ef_rmCode m a1 q2) ?_
  intro p e s m below meth c T X hx hby hml hret hlk hnm hown hZ e0
  show own_Goes p e below s _ _ (T.setTop (mkF m 0 #[rv a1, own_jv q2, .second, .unset, .unset] []))
  have N0 := Fr.nil n0
  have J93 : ∀ (TJ93 : State) (t : Int32), Stand p l e ({ frames := 0, cells := 0, slots := 0, locals := 0 } : Room) s m #[(.ref a1), (.long q2)] below meth c TJ93 [] 0 0 → TJ93.heap = h0 → (0 ≤ t.toInt ∧ t.toInt < 512) → ((Kf t.toNatClampNeg).toInt = 0 ∨ (1 ≤ (Kf t.toNatClampNeg).toInt ∧ Vf (Kf t.toNatClampNeg - (1 : Int32)).toNatClampNeg = q2)) → own_Goes p e below s ({ frames := 0, cells := 0, slots := 0, locals := 0 } : Room) (fun v h L => own_Q_rmCode Z a1 q2 ac av al d Vf Kf occ h0 n0 v h L) (TJ93.setTop (mkF m 93 #[rv a1, own_jv q2, .second, iv (-1 : Int32), iv t] [])) := by
    intro TJ93 t XJ93 eJ93 ht hor
    have hk := hK.2 t.toNatClampNeg (own_idx (n := 512) ht)
    have hk1 := own_dec (Kf t.toNatClampNeg) (by omega)
    generalize hkt : Kf t.toNatClampNeg = kt at hk hk1 hor
    refine own_st (fun _ k => XS.aloadN XJ93.here hx rfl (hb hby own_d5_93) rfl rfl  k) ?_
    show own_Goes p e below s _ _ (TJ93.setTop (mkF m 94 #[rv a1, own_jv q2, .second, iv (-1 : Int32), iv t] [(.ref a1)]))
    obtain ⟨T101, X101, e101, st101⟩ := getF XJ93 hx hZ hown (host := "") (Or.inl (hw _ (List.mem_of_getElem? (i := 20) rfl))) Via.refl eJ93 F_l (g := (mkF m 94 #[rv a1, own_jv q2, .second, iv (-1 : Int32), iv t] [(.ref a1)])) rfl rfl (hb hby own_d5_94)
    refine own_st st101 ?_
    show own_Goes p e below s _ _ (T101.setTop (mkF m 97 #[rv a1, own_jv q2, .second, iv (-1 : Int32), iv t] [(.ref al)]))
    refine own_st (fun _ k => XS.iload X101.here hx rfl (hb hby own_d5_97) rfl  k) ?_
    show own_Goes p e below s _ _ (T101.setTop (mkF m 99 #[rv a1, own_jv q2, .second, iv (-1 : Int32), iv t] [(.int t), (.ref al)]))
    refine own_st (fun _ k => own_ldS X101 hx hZ e101 Al (j := t) ht (g := (mkF m 99 #[rv a1, own_jv q2, .second, iv (-1 : Int32), iv t] [(.int t), (.ref al)])) rfl rfl (hb hby own_d5_99) _ k) ?_
    show own_Goes p e below s _ _ (T101.setTop (mkF m 100 #[rv a1, own_jv q2, .second, iv (-1 : Int32), iv t] [(.int (Kf (t).toNatClampNeg))]))
    rw [hkt]
    show own_Goes p e below s _ _ (T101.setTop (mkF m 100 #[rv a1, own_jv q2, .second, iv (-1 : Int32), iv t] [(.int kt)]))
    refine own_st (fun _ k => XS.iconst X101.here hx rfl (hb hby own_d5_100) k) ?_
    show own_Goes p e below s _ _ (T101.setTop (mkF m 101 #[rv a1, own_jv q2, .second, iv (-1 : Int32), iv t] [(.int (1 : Int32)), (.int kt)]))
    refine own_st (fun _ k => XS.isub X101.here hx rfl (hb hby own_d5_101) rfl k) ?_
    show own_Goes p e below s _ _ (T101.setTop (mkF m 102 #[rv a1, own_jv q2, .second, iv (-1 : Int32), iv t] [(.int (kt - (1 : Int32)))]))
    refine own_st (fun _ k => XS.istoreN X101.here hx rfl (hb hby own_d5_102) rfl (l' := #[rv a1, own_jv q2, .second, iv (kt - (1 : Int32)), iv t]) rfl k) ?_
    show own_Goes p e below s _ _ (T101.setTop (mkF m 103 #[rv a1, own_jv q2, .second, iv (kt - (1 : Int32)), iv t] []))
    refine own_st (fun _ k => XS.iloadN X101.here hx rfl (hb hby own_d5_103) rfl  k) ?_
    show own_Goes p e below s _ _ (T101.setTop (mkF m 104 #[rv a1, own_jv q2, .second, iv (kt - (1 : Int32)), iv t] [(.int (kt - (1 : Int32)))]))
    by_cases c102 : (kt - (1 : Int32)) < (0 : Int32)
    · have c102i : (kt - (1 : Int32)).toInt < 0 := own_i_lt c102
      refine own_st (fun _ k => XS.ifNo X101.here hx rfl (hb hby own_d5_104) rfl ((if0 _ _).trans (tlt c102).2.1) k) ?_
      show own_Goes p e below s _ _ (T101.setTop (mkF m 107 #[rv a1, own_jv q2, .second, iv (kt - (1 : Int32)), iv t] []))
      refine own_st (fun _ k => XS.aloadN X101.here hx rfl (hb hby own_d5_107) rfl rfl  k) ?_
      show own_Goes p e below s _ _ (T101.setTop (mkF m 108 #[rv a1, own_jv q2, .second, iv (kt - (1 : Int32)), iv t] [(.ref a1)]))
      obtain ⟨T103, X103, e103, st103⟩ := getF X101 hx hZ hown (host := "") (Or.inl (hw _ (List.mem_of_getElem? (i := 22) rfl))) Via.refl e101 F_d (g := (mkF m 108 #[rv a1, own_jv q2, .second, iv (kt - (1 : Int32)), iv t] [(.ref a1)])) rfl rfl (hb hby own_d5_108)
      refine own_st st103 ?_
      show own_Goes p e below s _ _ (T103.setTop (mkF m 111 #[rv a1, own_jv q2, .second, iv (kt - (1 : Int32)), iv t] [(.int d)]))
      refine own_st (fun _ k => XS.sipush X103.here hx rfl (hb hby own_d5_111) k) ?_
      show own_Goes p e below s _ _ (T103.setTop (mkF m 114 #[rv a1, own_jv q2, .second, iv (kt - (1 : Int32)), iv t] [(.int (256 : Int32)), (.int d)]))
      by_cases c104 : d < (256 : Int32)
      · have c104i : d.toInt < 256 := own_i_lt c104
        refine own_st (fun _ k => XS.icmpNo X103.here hx rfl (hb hby own_d5_114) rfl (tlt c104).2.1 k) ?_
        show own_Goes p e below s _ _ (T103.setTop (mkF m 117 #[rv a1, own_jv q2, .second, iv (kt - (1 : Int32)), iv t] []))
        refine own_st (fun _ k => XS.aloadN X103.here hx rfl (hb hby own_d5_117) rfl rfl  k) ?_
        show own_Goes p e below s _ _ (T103.setTop (mkF m 118 #[rv a1, own_jv q2, .second, iv (kt - (1 : Int32)), iv t] [(.ref a1)]))
        refine own_st (fun _ k => XS.dup X103.here hx rfl (hb hby own_d5_118) rfl rfl k) ?_
        show own_Goes p e below s _ _ (T103.setTop (mkF m 119 #[rv a1, own_jv q2, .second, iv (kt - (1 : Int32)), iv t] [(.ref a1), (.ref a1)]))
        obtain ⟨T105, X105, e105, st105⟩ := getF X103 hx hZ hown (host := "") (Or.inl (hw _ (List.mem_of_getElem? (i := 22) rfl))) Via.refl e103 F_d (g := (mkF m 119 #[rv a1, own_jv q2, .second, iv (kt - (1 : Int32)), iv t] [(.ref a1), (.ref a1)])) rfl rfl (hb hby own_d5_119)
        refine own_st st105 ?_
        show own_Goes p e below s _ _ (T105.setTop (mkF m 122 #[rv a1, own_jv q2, .second, iv (kt - (1 : Int32)), iv t] [(.int d), (.ref a1)]))
        refine own_st (fun _ k => XS.dupX1 X105.here hx rfl (hb hby own_d5_122) rfl rfl rfl k) ?_
        show own_Goes p e below s _ _ (T105.setTop (mkF m 123 #[rv a1, own_jv q2, .second, iv (kt - (1 : Int32)), iv t] [(.int d), (.ref a1), (.int d)]))
        refine own_st (fun _ k => XS.iconst X105.here hx rfl (hb hby own_d5_123) k) ?_
        show own_Goes p e below s _ _ (T105.setTop (mkF m 124 #[rv a1, own_jv q2, .second, iv (kt - (1 : Int32)), iv t] [(.int (1 : Int32)), (.int d), (.ref a1), (.int d)]))
        refine own_st (fun _ k => XS.iadd X105.here hx rfl (hb hby own_d5_124) rfl k) ?_
        show own_Goes p e below s _ _ (T105.setTop (mkF m 125 #[rv a1, own_jv q2, .second, iv (kt - (1 : Int32)), iv t] [(.int (d + (1 : Int32))), (.ref a1), (.int d)]))
        obtain ⟨T106, h106, X106, e106, W106, st106⟩ := putF X105 hx hZ hown (host := "") (Or.inl (hw _ (List.mem_of_getElem? (i := 22) rfl))) Via.refl e105 F_d E1 (Or.inl (hw _ (List.mem_of_getElem? (i := 23) rfl))) (hw _ (List.mem_of_getElem? (i := 2) rfl)) (ty := .int) (by decide) rfl rfl (g := (mkF m 125 #[rv a1, own_jv q2, .second, iv (kt - (1 : Int32)), iv t] [(.int (d + (1 : Int32))), (.ref a1), (.int d)])) rfl rfl (hb hby own_d5_125)
        have z106 := W106.size
        have N106 := Fr.snoc X106 N0 (by omega)
        have F106 := F_d.same W106
        refine own_st st106 ?_
        show own_Goes p e below s _ _ (T106.setTop (mkF m 128 #[rv a1, own_jv q2, .second, iv (kt - (1 : Int32)), iv t] [(.int d)]))
        refine own_st (fun _ k => XS.istoreN X106.here hx rfl (hb hby own_d5_128) rfl (l' := #[rv a1, own_jv q2, .second, iv d, iv t]) rfl k) ?_
        show own_Goes p e below s _ _ (T106.setTop (mkF m 129 #[rv a1, own_jv q2, .second, iv d, iv t] []))
        refine own_st (fun _ k => XS.aloadN X106.here hx rfl (hb hby own_d5_129) rfl rfl  k) ?_
        show own_Goes p e below s _ _ (T106.setTop (mkF m 130 #[rv a1, own_jv q2, .second, iv d, iv t] [(.ref a1)]))
        have f107 := (F_v.other W106 (Or.inr (slot_ne (Or.inl (hw _ (List.mem_of_getElem? (i := 19) rfl))) (Or.inl (hw _ (List.mem_of_getElem? (i := 23) rfl))) (by decide) (t := (.array .long)) (t' := .int) (by decide) (by decide))))
        obtain ⟨T108, X108, e108, st108⟩ := getF X106 hx hZ hown (host := "") (Or.inl (hw _ (List.mem_of_getElem? (i := 18) rfl))) Via.refl e106 f107 (g := (mkF m 130 #[rv a1, own_jv q2, .second, iv d, iv t] [(.ref a1)])) rfl rfl (hb hby own_d5_130)
        refine own_st st108 ?_
        show own_Goes p e below s _ _ (T108.setTop (mkF m 133 #[rv a1, own_jv q2, .second, iv d, iv t] [(.ref av)]))
        refine own_st (fun _ k => XS.iloadN X108.here hx rfl (hb hby own_d5_133) rfl  k) ?_
        show own_Goes p e below s _ _ (T108.setTop (mkF m 134 #[rv a1, own_jv q2, .second, iv d, iv t] [(.int d), (.ref av)]))
        refine own_st (fun _ k => XS.lloadN X108.here hx rfl (hb hby own_d5_134) rfl  k) ?_
        show own_Goes p e below s _ _ (T108.setTop (mkF m 135 #[rv a1, own_jv q2, .second, iv d, iv t] [(.long q2), (.int d), (.ref av)]))
        have f109 := (Av.other W106 (own_ne (by omega)))
        obtain ⟨T110, h110, X110, e110, W110, A110, st110⟩ := own_stJ X108 hx hZ e108 f109 (j := d) ⟨hd.1, by omega⟩ (g := (mkF m 135 #[rv a1, own_jv q2, .second, iv d, iv t] [(.long q2), (.int d), (.ref av)])) rfl rfl (hb hby own_d5_135)
        have V110 : own_Arf Z h110 av .long 256 (fun k => .long ((fun k => if k = (d).toNatClampNeg then q2 else Vf k) k)) := A110
        have z110 := W110.size
        have N110 := Fr.snoc X110 N106 (by omega)
        refine own_st st110 ?_
        show own_Goes p e below s _ _ (T110.setTop (mkF m 136 #[rv a1, own_jv q2, .second, iv d, iv t] []))
        refine own_st (fun _ k => XS.aloadN X110.here hx rfl (hb hby own_d5_136) rfl rfl  k) ?_
        show own_Goes p e below s _ _ (T110.setTop (mkF m 137 #[rv a1, own_jv q2, .second, iv d, iv t] [(.ref a1)]))
        have f111 := ((F_l.other W106 (Or.inr (slot_ne (Or.inl (hw _ (List.mem_of_getElem? (i := 21) rfl))) (Or.inl (hw _ (List.mem_of_getElem? (i := 23) rfl))) (by decide) (t := (.array .short)) (t' := .int) (by decide) (by decide)))).other W110 (Or.inl (own_ne (by omega))))
        obtain ⟨T112, X112, e112, st112⟩ := getF X110 hx hZ hown (host := "") (Or.inl (hw _ (List.mem_of_getElem? (i := 20) rfl))) Via.refl e110 f111 (g := (mkF m 137 #[rv a1, own_jv q2, .second, iv d, iv t] [(.ref a1)])) rfl rfl (hb hby own_d5_137)
        refine own_st st112 ?_
        show own_Goes p e below s _ _ (T112.setTop (mkF m 140 #[rv a1, own_jv q2, .second, iv d, iv t] [(.ref al)]))
        refine own_st (fun _ k => XS.iload X112.here hx rfl (hb hby own_d5_140) rfl  k) ?_
        show own_Goes p e below s _ _ (T112.setTop (mkF m 142 #[rv a1, own_jv q2, .second, iv d, iv t] [(.int t), (.ref al)]))
        refine own_st (fun _ k => XS.iloadN X112.here hx rfl (hb hby own_d5_142) rfl  k) ?_
        show own_Goes p e below s _ _ (T112.setTop (mkF m 143 #[rv a1, own_jv q2, .second, iv d, iv t] [(.int d), (.int t), (.ref al)]))
        refine own_st (fun _ k => XS.iconst X112.here hx rfl (hb hby own_d5_143) k) ?_
        show own_Goes p e below s _ _ (T112.setTop (mkF m 144 #[rv a1, own_jv q2, .second, iv d, iv t] [(.int (1 : Int32)), (.int d), (.int t), (.ref al)]))
        refine own_st (fun _ k => XS.iadd X112.here hx rfl (hb hby own_d5_144) rfl k) ?_
        show own_Goes p e below s _ _ (T112.setTop (mkF m 145 #[rv a1, own_jv q2, .second, iv d, iv t] [(.int (d + (1 : Int32))), (.int t), (.ref al)]))
        refine own_st (fun _ k => XS.i2s X112.here hx rfl (hb hby own_d5_145) rfl k) ?_
        show own_Goes p e below s _ _ (T112.setTop (mkF m 146 #[rv a1, own_jv q2, .second, iv d, iv t] [(.int ((d + (1 : Int32)).toInt16.toInt32)), (.int t), (.ref al)]))
        have f113 := ((Al.other W106 (own_ne (by omega))).other W110 (own_ne (by omega)))
        obtain ⟨T114, h114, X114, e114, W114, A114, st114⟩ := own_stS X112 hx hZ e112 f113 (j := t) ht (g := (mkF m 146 #[rv a1, own_jv q2, .second, iv d, iv t] [(.int ((d + (1 : Int32)).toInt16.toInt32)), (.int t), (.ref al)])) rfl rfl (hb hby own_d5_146)
        have V114 : own_Arf Z h114 al .short 512 (fun k => .int ((fun k => if k = (t).toNatClampNeg then (nar .short ((d + (1 : Int32)).toInt16.toInt32)) else Kf k) k)) := A114
        have z114 := W114.size
        have N114 := Fr.snoc X114 N110 (by omega)
        refine own_st st114 ?_
        show own_Goes p e below s _ _ (T114.setTop (mkF m 147 #[rv a1, own_jv q2, .second, iv d, iv t] []))
        refine own_st (fun _ k => XS.iloadN X114.here hx rfl (hb hby own_d5_147) rfl  k) ?_
        show own_Goes p e below s _ _ (T114.setTop (mkF m 148 #[rv a1, own_jv q2, .second, iv d, iv t] [(.int d)]))
        have f115 := (((E1.wr W106).wr W110).wr W114)
        have f116 := ((F106.other W110 (Or.inl (own_ne (by omega)))).other W114 (Or.inl (own_ne (by omega))))
        have f117 := ((f107.other W110 (Or.inl (own_ne (by omega)))).other W114 (Or.inl (own_ne (by omega))))
        have f118 := (f111.other W114 (Or.inl (own_ne (by omega))))
        have f119 := (V110.other W114 (own_ne (by omega)))
        have f120 := (((F_c.other W106 (Or.inr (slot_ne (Or.inl (hw _ (List.mem_of_getElem? (i := 17) rfl))) (Or.inl (hw _ (List.mem_of_getElem? (i := 23) rfl))) (by decide) (t := (.array .byte)) (t' := .int) (by decide) (by decide)))).other W110 (Or.inl (own_ne (by omega)))).other W114 (Or.inl (own_ne (by omega))))
        have f121 := (((S1.wr W106).wr W110).wr W114)
        exact own_retI X114 hx hlk hret (hb hby own_d5_148) (by decide) (by decide) ⟨_, _, _, _, _, rfl, N114, by rw [e114]; exact ((((Keep.refl h0 [a1, av, al]).wr W106 (Or.inl (by simp))).wr W110 (Or.inl (by simp))).wr W114 (Or.inl (by simp))), by rw [e114]; exact f115, by rw [e114]; exact f116, by rw [e114]; exact f117, by rw [e114]; exact f118, by rw [e114]; exact f119, by rw [e114]; exact V114, by rw [e114]; exact f120, own_CPset (by omega), by simp, own_LKset hK (by omega) _, by rw [e114]; exact f121⟩
      · have c104i : 256 ≤ d.toInt := own_i_nlt c104
        exfalso; omega
    · have c102i : 0 ≤ (kt - (1 : Int32)).toInt := own_i_nlt c102
      refine own_st (fun _ k => XS.ifYes X101.here hx rfl (pc0 := 104) (pc' := 147) rfl (hb hby own_d5_104) rfl ((if0 _ _).trans (flt c102).2.1) (by decide) (by decide) k) ?_
      show own_Goes p e below s _ _ (T101.setTop (mkF m 147 #[rv a1, own_jv q2, .second, iv (kt - (1 : Int32)), iv t] []))
      refine own_st (fun _ k => XS.iloadN X101.here hx rfl (hb hby own_d5_147) rfl  k) ?_
      show own_Goes p e below s _ _ (T101.setTop (mkF m 148 #[rv a1, own_jv q2, .second, iv (kt - (1 : Int32)), iv t] [(.int (kt - (1 : Int32)))]))
      exact own_retI X101 hx hlk hret (hb hby own_d5_148) (by decide) (by decide) ⟨_, _, _, _, _, rfl, N0, by rw [e101]; exact (Keep.refl h0 [a1, av, al]), by rw [e101]; exact E1, by rw [e101]; exact F_d, by rw [e101]; exact F_v, by rw [e101]; exact F_l, by rw [e101]; exact Av, by rw [e101]; exact Al, by rw [e101]; exact F_c, own_CPold (by omega) (by omega) (hor.resolve_left (by omega)).2, by omega, hK, by rw [e101]; exact S1⟩
  have lp : ∀ (j : Nat) (TL : State) (t : Int32), Stand p l e ({ frames := 0, cells := 0, slots := 0, locals := 0 } : Room) s m #[(.ref a1), (.long q2)] below meth c TL [] 0 0 → TL.heap = h0 → (0 ≤ t.toInt ∧ t.toInt < 512) → (Kf ((t.toNatClampNeg + j) % 512)).toInt = 0 → own_Goes p e below s ({ frames := 0, cells := 0, slots := 0, locals := 0 } : Room) (fun v h L => own_Q_rmCode Z a1 q2 ac av al d Vf Kf occ h0 n0 v h L) (TL.setTop (mkF m 51 #[rv a1, own_jv q2, .second, iv (-1 : Int32), iv t] [])) := by
    intro j
    induction j with
    | zero =>
      intro TL t XL eL ht hz
      have hn := own_nat ht.1
      have hk := hK.2 t.toNatClampNeg (own_idx (n := 512) ht)
      have hk1 := own_dec (Kf t.toNatClampNeg) (by omega)
      have hi : (¬ (Kf t.toNatClampNeg).toInt = 0) → 0 ≤ (Kf t.toNatClampNeg - (1 : Int32)).toInt ∧ (Kf t.toNatClampNeg - (1 : Int32)).toInt < (256 : Nat) := fun q => by omega
      have hz0 : (Kf t.toNatClampNeg).toInt = 0 := by have e : (t.toNatClampNeg + 0) % 512 = t.toNatClampNeg := (by omega); rw [e] at hz; exact hz
      refine own_st (fun _ k => XS.aloadN XL.here hx rfl (hb hby own_d5_51) rfl rfl  k) ?_
      show own_Goes p e below s _ _ (TL.setTop (mkF m 52 #[rv a1, own_jv q2, .second, iv (-1 : Int32), iv t] [(.ref a1)]))
      obtain ⟨T122, X122, e122, st122⟩ := getF XL hx hZ hown (host := "") (Or.inl (hw _ (List.mem_of_getElem? (i := 20) rfl))) Via.refl eL F_l (g := (mkF m 52 #[rv a1, own_jv q2, .second, iv (-1 : Int32), iv t] [(.ref a1)])) rfl rfl (hb hby own_d5_52)
      refine own_st st122 ?_
      show own_Goes p e below s _ _ (T122.setTop (mkF m 55 #[rv a1, own_jv q2, .second, iv (-1 : Int32), iv t] [(.ref al)]))
      refine own_st (fun _ k => XS.iload X122.here hx rfl (hb hby own_d5_55) rfl  k) ?_
      show own_Goes p e below s _ _ (T122.setTop (mkF m 57 #[rv a1, own_jv q2, .second, iv (-1 : Int32), iv t] [(.int t), (.ref al)]))
      refine own_st (fun _ k => own_ldS X122 hx hZ e122 Al (j := t) ht (g := (mkF m 57 #[rv a1, own_jv q2, .second, iv (-1 : Int32), iv t] [(.int t), (.ref al)])) rfl rfl (hb hby own_d5_57) _ k) ?_
      show own_Goes p e below s _ _ (T122.setTop (mkF m 58 #[rv a1, own_jv q2, .second, iv (-1 : Int32), iv t] [(.int (Kf (t).toNatClampNeg))]))
      by_cases c123 : (Kf (t).toNatClampNeg) = (0 : Int32)
      · have c123i : (Kf (t).toNatClampNeg).toInt = 0 := own_i_eq c123
        refine own_st (fun _ k => XS.ifYes X122.here hx rfl (pc0 := 58) (pc' := 93) rfl (hb hby own_d5_58) rfl ((if0 _ _).trans (teq c123).1) (by decide) (by decide) k) ?_
        show own_Goes p e below s _ _ (T122.setTop (mkF m 93 #[rv a1, own_jv q2, .second, iv (-1 : Int32), iv t] []))
        exact J93 _ t X122 e122 ht (Or.inl c123i)
      · have c123i : ¬ (Kf (t).toNatClampNeg).toInt = 0 := own_i_ne c123
        exfalso; omega
    | succ j ih =>
      intro TL t XL eL ht hz
      have hn := own_nat ht.1
      have hk := hK.2 t.toNatClampNeg (own_idx (n := 512) ht)
      have hk1 := own_dec (Kf t.toNatClampNeg) (by omega)
      have hi : (¬ (Kf t.toNatClampNeg).toInt = 0) → 0 ≤ (Kf t.toNatClampNeg - (1 : Int32)).toInt ∧ (Kf t.toNatClampNeg - (1 : Int32)).toInt < (256 : Nat) := fun q => by omega
      refine own_st (fun _ k => XS.aloadN XL.here hx rfl (hb hby own_d5_51) rfl rfl  k) ?_
      show own_Goes p e below s _ _ (TL.setTop (mkF m 52 #[rv a1, own_jv q2, .second, iv (-1 : Int32), iv t] [(.ref a1)]))
      obtain ⟨T124, X124, e124, st124⟩ := getF XL hx hZ hown (host := "") (Or.inl (hw _ (List.mem_of_getElem? (i := 20) rfl))) Via.refl eL F_l (g := (mkF m 52 #[rv a1, own_jv q2, .second, iv (-1 : Int32), iv t] [(.ref a1)])) rfl rfl (hb hby own_d5_52)
      refine own_st st124 ?_
      show own_Goes p e below s _ _ (T124.setTop (mkF m 55 #[rv a1, own_jv q2, .second, iv (-1 : Int32), iv t] [(.ref al)]))
      refine own_st (fun _ k => XS.iload X124.here hx rfl (hb hby own_d5_55) rfl  k) ?_
      show own_Goes p e below s _ _ (T124.setTop (mkF m 57 #[rv a1, own_jv q2, .second, iv (-1 : Int32), iv t] [(.int t), (.ref al)]))
      refine own_st (fun _ k => own_ldS X124 hx hZ e124 Al (j := t) ht (g := (mkF m 57 #[rv a1, own_jv q2, .second, iv (-1 : Int32), iv t] [(.int t), (.ref al)])) rfl rfl (hb hby own_d5_57) _ k) ?_
      show own_Goes p e below s _ _ (T124.setTop (mkF m 58 #[rv a1, own_jv q2, .second, iv (-1 : Int32), iv t] [(.int (Kf (t).toNatClampNeg))]))
      by_cases c125 : (Kf (t).toNatClampNeg) = (0 : Int32)
      · have c125i : (Kf (t).toNatClampNeg).toInt = 0 := own_i_eq c125
        refine own_st (fun _ k => XS.ifYes X124.here hx rfl (pc0 := 58) (pc' := 93) rfl (hb hby own_d5_58) rfl ((if0 _ _).trans (teq c125).1) (by decide) (by decide) k) ?_
        show own_Goes p e below s _ _ (T124.setTop (mkF m 93 #[rv a1, own_jv q2, .second, iv (-1 : Int32), iv t] []))
        exact J93 _ t X124 e124 ht (Or.inl c125i)
      · have c125i : ¬ (Kf (t).toNatClampNeg).toInt = 0 := own_i_ne c125
        refine own_st (fun _ k => XS.ifNo X124.here hx rfl (hb hby own_d5_58) rfl ((if0 _ _).trans (feq c125).1) k) ?_
        show own_Goes p e below s _ _ (T124.setTop (mkF m 61 #[rv a1, own_jv q2, .second, iv (-1 : Int32), iv t] []))
        refine own_st (fun _ k => XS.aloadN X124.here hx rfl (hb hby own_d5_61) rfl rfl  k) ?_
        show own_Goes p e below s _ _ (T124.setTop (mkF m 62 #[rv a1, own_jv q2, .second, iv (-1 : Int32), iv t] [(.ref a1)]))
        obtain ⟨T126, X126, e126, st126⟩ := getF X124 hx hZ hown (host := "") (Or.inl (hw _ (List.mem_of_getElem? (i := 18) rfl))) Via.refl e124 F_v (g := (mkF m 62 #[rv a1, own_jv q2, .second, iv (-1 : Int32), iv t] [(.ref a1)])) rfl rfl (hb hby own_d5_62)
        refine own_st st126 ?_
        show own_Goes p e below s _ _ (T126.setTop (mkF m 65 #[rv a1, own_jv q2, .second, iv (-1 : Int32), iv t] [(.ref av)]))
        refine own_st (fun _ k => XS.aloadN X126.here hx rfl (hb hby own_d5_65) rfl rfl  k) ?_
        show own_Goes p e below s _ _ (T126.setTop (mkF m 66 #[rv a1, own_jv q2, .second, iv (-1 : Int32), iv t] [(.ref a1), (.ref av)]))
        obtain ⟨T127, X127, e127, st127⟩ := getF X126 hx hZ hown (host := "") (Or.inl (hw _ (List.mem_of_getElem? (i := 20) rfl))) Via.refl e126 F_l (g := (mkF m 66 #[rv a1, own_jv q2, .second, iv (-1 : Int32), iv t] [(.ref a1), (.ref av)])) rfl rfl (hb hby own_d5_66)
        refine own_st st127 ?_
        show own_Goes p e below s _ _ (T127.setTop (mkF m 69 #[rv a1, own_jv q2, .second, iv (-1 : Int32), iv t] [(.ref al), (.ref av)]))
        refine own_st (fun _ k => XS.iload X127.here hx rfl (hb hby own_d5_69) rfl  k) ?_
        show own_Goes p e below s _ _ (T127.setTop (mkF m 71 #[rv a1, own_jv q2, .second, iv (-1 : Int32), iv t] [(.int t), (.ref al), (.ref av)]))
        refine own_st (fun _ k => own_ldS X127 hx hZ e127 Al (j := t) ht (g := (mkF m 71 #[rv a1, own_jv q2, .second, iv (-1 : Int32), iv t] [(.int t), (.ref al), (.ref av)])) rfl rfl (hb hby own_d5_71) _ k) ?_
        show own_Goes p e below s _ _ (T127.setTop (mkF m 72 #[rv a1, own_jv q2, .second, iv (-1 : Int32), iv t] [(.int (Kf (t).toNatClampNeg)), (.ref av)]))
        refine own_st (fun _ k => XS.iconst X127.here hx rfl (hb hby own_d5_72) k) ?_
        show own_Goes p e below s _ _ (T127.setTop (mkF m 73 #[rv a1, own_jv q2, .second, iv (-1 : Int32), iv t] [(.int (1 : Int32)), (.int (Kf (t).toNatClampNeg)), (.ref av)]))
        refine own_st (fun _ k => XS.isub X127.here hx rfl (hb hby own_d5_73) rfl k) ?_
        show own_Goes p e below s _ _ (T127.setTop (mkF m 74 #[rv a1, own_jv q2, .second, iv (-1 : Int32), iv t] [(.int ((Kf (t).toNatClampNeg) - (1 : Int32))), (.ref av)]))
        refine own_st (fun _ k => own_ldJ X127 hx hZ e127 Av (j := ((Kf (t).toNatClampNeg) - (1 : Int32))) (hi (by omega)) (g := (mkF m 74 #[rv a1, own_jv q2, .second, iv (-1 : Int32), iv t] [(.int ((Kf (t).toNatClampNeg) - (1 : Int32))), (.ref av)])) rfl rfl (hb hby own_d5_74) _ k) ?_
        show own_Goes p e below s _ _ (T127.setTop (mkF m 75 #[rv a1, own_jv q2, .second, iv (-1 : Int32), iv t] [(.long (Vf (((Kf (t).toNatClampNeg) - (1 : Int32))).toNatClampNeg))]))
        refine own_st (fun _ k => XS.lloadN X127.here hx rfl (hb hby own_d5_75) rfl  k) ?_
        show own_Goes p e below s _ _ (T127.setTop (mkF m 76 #[rv a1, own_jv q2, .second, iv (-1 : Int32), iv t] [(.long q2), (.long (Vf (((Kf (t).toNatClampNeg) - (1 : Int32))).toNatClampNeg))]))
        refine own_st (fun _ k => XS.lcmp X127.here hx rfl (hb hby own_d5_76) rfl k) ?_
        show own_Goes p e below s _ _ (T127.setTop (mkF m 77 #[rv a1, own_jv q2, .second, iv (-1 : Int32), iv t] [(.int (lcmpW (Vf (((Kf (t).toNatClampNeg) - (1 : Int32))).toNatClampNeg) q2))]))
        by_cases c128 : (Vf (((Kf (t).toNatClampNeg) - (1 : Int32))).toNatClampNeg) = q2
        · have c128i : (Vf (((Kf (t).toNatClampNeg) - (1 : Int32))).toNatClampNeg).toInt = q2.toInt := own_j_eq c128
          refine own_st (fun _ k => XS.ifYes X127.here hx rfl (pc0 := 77) (pc' := 93) rfl (hb hby own_d5_77) rfl ((if0 _ _).trans (teq ((lw_eq _ _).mpr c128)).1) (by decide) (by decide) k) ?_
          show own_Goes p e below s _ _ (T127.setTop (mkF m 93 #[rv a1, own_jv q2, .second, iv (-1 : Int32), iv t] []))
          exact J93 _ t X127 e127 ht (Or.inr ⟨by omega, c128⟩)
        · have c128i : ¬ (Vf (((Kf (t).toNatClampNeg) - (1 : Int32))).toNatClampNeg).toInt = q2.toInt := own_j_ne c128
          refine own_st (fun _ k => XS.ifNo X127.here hx rfl (hb hby own_d5_77) rfl ((if0 _ _).trans (feq (fun q => c128 ((lw_eq _ _).mp q))).1) k) ?_
          show own_Goes p e below s _ _ (T127.setTop (mkF m 80 #[rv a1, own_jv q2, .second, iv (-1 : Int32), iv t] []))
          refine own_st (fun _ k => XS.iload X127.here hx rfl (hb hby own_d5_80) rfl  k) ?_
          show own_Goes p e below s _ _ (T127.setTop (mkF m 82 #[rv a1, own_jv q2, .second, iv (-1 : Int32), iv t] [(.int t)]))
          refine own_st (fun _ k => XS.iconst X127.here hx rfl (hb hby own_d5_82) k) ?_
          show own_Goes p e below s _ _ (T127.setTop (mkF m 83 #[rv a1, own_jv q2, .second, iv (-1 : Int32), iv t] [(.int (1 : Int32)), (.int t)]))
          refine own_st (fun _ k => XS.iadd X127.here hx rfl (hb hby own_d5_83) rfl k) ?_
          show own_Goes p e below s _ _ (T127.setTop (mkF m 84 #[rv a1, own_jv q2, .second, iv (-1 : Int32), iv t] [(.int (t + (1 : Int32)))]))
          refine own_st (fun _ k => XS.sipush X127.here hx rfl (hb hby own_d5_84) k) ?_
          show own_Goes p e below s _ _ (T127.setTop (mkF m 87 #[rv a1, own_jv q2, .second, iv (-1 : Int32), iv t] [(.int (511 : Int32)), (.int (t + (1 : Int32)))]))
          refine own_st (fun _ k => XS.iand X127.here hx rfl (hb hby own_d5_87) rfl k) ?_
          show own_Goes p e below s _ _ (T127.setTop (mkF m 88 #[rv a1, own_jv q2, .second, iv (-1 : Int32), iv t] [(.int ((t + (1 : Int32)) &&& (511 : Int32)))]))
          refine own_st (fun _ k => XS.istore X127.here hx rfl (hb hby own_d5_88) rfl (l' := #[rv a1, own_jv q2, .second, iv (-1 : Int32), iv ((t + (1 : Int32)) &&& (511 : Int32))]) rfl k) ?_
          show own_Goes p e below s _ _ (T127.setTop (mkF m 90 #[rv a1, own_jv q2, .second, iv (-1 : Int32), iv ((t + (1 : Int32)) &&& (511 : Int32))] []))
          refine own_st (fun _ k => XS.goto X127.here hx rfl (pc0 := 90) (pc' := 51) rfl (hb hby own_d5_90) (by decide) (by decide) k) ?_
          show own_Goes p e below s _ _ (T127.setTop (mkF m 51 #[rv a1, own_jv q2, .second, iv (-1 : Int32), iv ((t + (1 : Int32)) &&& (511 : Int32))] []))
          have hn2 := own_next ht
          have hn3 := own_nat (show 0 ≤ ((t + (1 : Int32)) &&& (511 : Int32)).toInt by omega)
          exact ih _ ((t + (1 : Int32)) &&& (511 : Int32)) X127 e127 (by omega) (by rw [show ((((t + (1 : Int32)) &&& (511 : Int32)).toNatClampNeg + j) % 512) = (t.toNatClampNeg + (j + 1)) % 512 by omega]; exact hz)
  have J39 : ∀ (TJ39 : State) , Stand p l e ({ frames := 0, cells := 0, slots := 0, locals := 0 } : Room) s m #[(.ref a1), (.long q2)] below meth c TJ39 [] 0 0 → TJ39.heap = h0 → own_Goes p e below s ({ frames := 0, cells := 0, slots := 0, locals := 0 } : Room) (fun v h L => own_Q_rmCode Z a1 q2 ac av al d Vf Kf occ h0 n0 v h L) (TJ39.setTop (mkF m 39 #[rv a1, own_jv q2, .second, iv (-1 : Int32), .unset] [])) := by
    intro TJ39  XJ39 eJ39 
    refine own_st (fun _ k => XS.lloadN XJ39.here hx rfl (hb hby own_d5_39) rfl  k) ?_
    show own_Goes p e below s _ _ (TJ39.setTop (mkF m 40 #[rv a1, own_jv q2, .second, iv (-1 : Int32), .unset] [(.long q2)]))
    refine own_st (fun _ k => XJ39.ldc2Long hx hown (mvT hZ (hw _ (List.mem_of_getElem? (i := 35) rfl))) (g := (mkF m 40 #[rv a1, own_jv q2, .second, iv (-1 : Int32), .unset] [(.long q2)])) rfl (hb hby own_d5_40) _ k) ?_
    show own_Goes p e below s _ _ (TJ39.setTop (mkF m 43 #[rv a1, own_jv q2, .second, iv (-1 : Int32), .unset] [(.long (-7046029254386353131 : Int64)), (.long q2)]))
    refine own_st (fun _ k => XS.lmul XJ39.here hx rfl (hb hby own_d5_43) rfl k) ?_
    show own_Goes p e below s _ _ (TJ39.setTop (mkF m 44 #[rv a1, own_jv q2, .second, iv (-1 : Int32), .unset] [(.long (q2 * (-7046029254386353131 : Int64)))]))
    obtain ⟨T129, X129, e129, st129⟩ := getS2 XJ39 hx hZ hown (host := "") (Or.inl (hw _ (List.mem_of_getElem? (i := 36) rfl))) Via.refl eJ39 S1 (g := (mkF m 44 #[rv a1, own_jv q2, .second, iv (-1 : Int32), .unset] [(.long (q2 * (-7046029254386353131 : Int64)))])) rfl (hb hby own_d5_44)
    refine own_st st129 ?_
    show own_Goes p e below s _ _ (T129.setTop (mkF m 47 #[rv a1, own_jv q2, .second, iv (-1 : Int32), .unset] [(.int (55 : Int32)), (.long (q2 * (-7046029254386353131 : Int64)))]))
    refine own_st (fun _ k => XS.lushr X129.here hx rfl (hb hby own_d5_47) rfl k) ?_
    show own_Goes p e below s _ _ (T129.setTop (mkF m 48 #[rv a1, own_jv q2, .second, iv (-1 : Int32), .unset] [(.long (((q2 * (-7046029254386353131 : Int64)).toUInt64 >>> ((55 : Int32) &&& 0x3f).toInt64.toUInt64).toInt64))]))
    refine own_st (fun _ k => XS.l2i X129.here hx rfl (hb hby own_d5_48) rfl k) ?_
    show own_Goes p e below s _ _ (T129.setTop (mkF m 49 #[rv a1, own_jv q2, .second, iv (-1 : Int32), .unset] [(.int ((((q2 * (-7046029254386353131 : Int64)).toUInt64 >>> ((55 : Int32) &&& 0x3f).toInt64.toUInt64).toInt64).toInt32))]))
    refine own_st (fun _ k => XS.istore X129.here hx rfl (hb hby own_d5_49) rfl (l' := #[rv a1, own_jv q2, .second, iv (-1 : Int32), iv ((((q2 * (-7046029254386353131 : Int64)).toUInt64 >>> ((55 : Int32) &&& 0x3f).toInt64.toUInt64).toInt64).toInt32)]) rfl k) ?_
    show own_Goes p e below s _ _ (T129.setTop (mkF m 51 #[rv a1, own_jv q2, .second, iv (-1 : Int32), iv ((((q2 * (-7046029254386353131 : Int64)).toUInt64 >>> ((55 : Int32) &&& 0x3f).toInt64.toUInt64).toInt64).toInt32)] []))
    have ht := own_slot (q2 * (-7046029254386353131 : Int64))
    generalize ((((q2 * (-7046029254386353131 : Int64)).toUInt64 >>> ((55 : Int32) &&& 0x3f).toInt64.toUInt64).toInt64).toInt32) = t at ht ⊢
    show own_Goes p e below s _ _ (T129.setTop (mkF m 51 #[rv a1, own_jv q2, .second, iv (-1 : Int32), iv t] []))
    obtain ⟨j, hj⟩ := own_probe occ ho t.toNatClampNeg
    exact lp j _ t X129 e129 ht (hK.1 _ (Nat.mod_lt _ (by decide)) hj)
  refine own_st (fun _ k => XS.lloadN X.here hx rfl (hb hby own_d5_0) rfl  k) ?_
  show own_Goes p e below s _ _ (T.setTop (mkF m 1 #[rv a1, own_jv q2, .second, .unset, .unset] [(.long q2)]))
  refine own_st (fun _ k => XS.lconst X.here hx rfl (hb hby own_d5_1) k) ?_
  show own_Goes p e below s _ _ (T.setTop (mkF m 2 #[rv a1, own_jv q2, .second, .unset, .unset] [(.long (0 : Int64)), (.long q2)]))
  refine own_st (fun _ k => XS.lcmp X.here hx rfl (hb hby own_d5_2) rfl k) ?_
  show own_Goes p e below s _ _ (T.setTop (mkF m 3 #[rv a1, own_jv q2, .second, .unset, .unset] [(.int (lcmpW q2 (0 : Int64)))]))
  by_cases c130 : q2 < (0 : Int64)
  · have c130i : q2.toInt < 0 := own_j_lt c130
    refine own_st (fun _ k => XS.ifYes X.here hx rfl (pc0 := 3) (pc' := 33) rfl (hb hby own_d5_3) rfl ((if0 _ _).trans (tlt ((lw_lt _ _).mpr c130)).1) (by decide) (by decide) k) ?_
    show own_Goes p e below s _ _ (T.setTop (mkF m 33 #[rv a1, own_jv q2, .second, .unset, .unset] []))
    refine own_st (fun _ k => XS.iconst X.here hx rfl (hb hby own_d5_33) k) ?_
    show own_Goes p e below s _ _ (T.setTop (mkF m 34 #[rv a1, own_jv q2, .second, .unset, .unset] [(.int (-1 : Int32))]))
    refine own_st (fun _ k => XS.istoreN X.here hx rfl (hb hby own_d5_34) rfl (l' := #[rv a1, own_jv q2, .second, iv (-1 : Int32), .unset]) rfl k) ?_
    show own_Goes p e below s _ _ (T.setTop (mkF m 35 #[rv a1, own_jv q2, .second, iv (-1 : Int32), .unset] []))
    refine own_st (fun _ k => XS.iloadN X.here hx rfl (hb hby own_d5_35) rfl  k) ?_
    show own_Goes p e below s _ _ (T.setTop (mkF m 36 #[rv a1, own_jv q2, .second, iv (-1 : Int32), .unset] [(.int (-1 : Int32))]))
    refine own_st (fun _ k => XS.ifNo X.here hx rfl (hb hby own_d5_36) rfl ((if0 _ _).trans (tlt (by decide : (-1 : Int32) < (0 : Int32))).2.1) k) ?_
    show own_Goes p e below s _ _ (T.setTop (mkF m 39 #[rv a1, own_jv q2, .second, iv (-1 : Int32), .unset] []))
    exact J39 _ X e0
  · have c130i : 0 ≤ q2.toInt := own_j_nlt c130
    refine own_st (fun _ k => XS.ifNo X.here hx rfl (hb hby own_d5_3) rfl ((if0 _ _).trans (flt (fun q => c130 ((lw_lt _ _).mp q))).1) k) ?_
    show own_Goes p e below s _ _ (T.setTop (mkF m 6 #[rv a1, own_jv q2, .second, .unset, .unset] []))
    refine own_st (fun _ k => XS.lloadN X.here hx rfl (hb hby own_d5_6) rfl  k) ?_
    show own_Goes p e below s _ _ (T.setTop (mkF m 7 #[rv a1, own_jv q2, .second, .unset, .unset] [(.long q2)]))
    refine own_st (fun _ k => XS.aloadN X.here hx rfl (hb hby own_d5_7) rfl rfl  k) ?_
    show own_Goes p e below s _ _ (T.setTop (mkF m 8 #[rv a1, own_jv q2, .second, .unset, .unset] [(.ref a1), (.long q2)]))
    obtain ⟨T131, X131, e131, st131⟩ := getF X hx hZ hown (host := "") (Or.inl (hw _ (List.mem_of_getElem? (i := 22) rfl))) Via.refl e0 F_d (g := (mkF m 8 #[rv a1, own_jv q2, .second, .unset, .unset] [(.ref a1), (.long q2)])) rfl rfl (hb hby own_d5_8)
    refine own_st st131 ?_
    show own_Goes p e below s _ _ (T131.setTop (mkF m 11 #[rv a1, own_jv q2, .second, .unset, .unset] [(.int d), (.long q2)]))
    refine own_st (fun _ k => XS.i2l X131.here hx rfl (hb hby own_d5_11) rfl k) ?_
    show own_Goes p e below s _ _ (T131.setTop (mkF m 12 #[rv a1, own_jv q2, .second, .unset, .unset] [(.long (d.toInt64)), (.long q2)]))
    refine own_st (fun _ k => XS.lcmp X131.here hx rfl (hb hby own_d5_12) rfl k) ?_
    show own_Goes p e below s _ _ (T131.setTop (mkF m 13 #[rv a1, own_jv q2, .second, .unset, .unset] [(.int (lcmpW q2 (d.toInt64)))]))
    have hdj := c_i2l d
    by_cases c132 : q2 < (d.toInt64)
    · have c132i : q2.toInt < (d.toInt64).toInt := own_j_lt c132
      refine own_st (fun _ k => XS.ifNo X131.here hx rfl (hb hby own_d5_13) rfl ((if0 _ _).trans (tlt ((lw_lt _ _).mpr c132)).2.1) k) ?_
      show own_Goes p e below s _ _ (T131.setTop (mkF m 16 #[rv a1, own_jv q2, .second, .unset, .unset] []))
      refine own_st (fun _ k => XS.aloadN X131.here hx rfl (hb hby own_d5_16) rfl rfl  k) ?_
      show own_Goes p e below s _ _ (T131.setTop (mkF m 17 #[rv a1, own_jv q2, .second, .unset, .unset] [(.ref a1)]))
      obtain ⟨T133, X133, e133, st133⟩ := getF X131 hx hZ hown (host := "") (Or.inl (hw _ (List.mem_of_getElem? (i := 18) rfl))) Via.refl e131 F_v (g := (mkF m 17 #[rv a1, own_jv q2, .second, .unset, .unset] [(.ref a1)])) rfl rfl (hb hby own_d5_17)
      refine own_st st133 ?_
      show own_Goes p e below s _ _ (T133.setTop (mkF m 20 #[rv a1, own_jv q2, .second, .unset, .unset] [(.ref av)]))
      refine own_st (fun _ k => XS.lloadN X133.here hx rfl (hb hby own_d5_20) rfl  k) ?_
      show own_Goes p e below s _ _ (T133.setTop (mkF m 21 #[rv a1, own_jv q2, .second, .unset, .unset] [(.long q2), (.ref av)]))
      refine own_st (fun _ k => XS.l2i X133.here hx rfl (hb hby own_d5_21) rfl k) ?_
      show own_Goes p e below s _ _ (T133.setTop (mkF m 22 #[rv a1, own_jv q2, .second, .unset, .unset] [(.int (q2.toInt32)), (.ref av)]))
      refine own_st (fun _ k => own_ldJ X133 hx hZ e133 Av (j := (q2.toInt32)) (by have := own_l2i (q := q2) (d := d) (by omega) (by omega); omega) (g := (mkF m 22 #[rv a1, own_jv q2, .second, .unset, .unset] [(.int (q2.toInt32)), (.ref av)])) rfl rfl (hb hby own_d5_22) _ k) ?_
      show own_Goes p e below s _ _ (T133.setTop (mkF m 23 #[rv a1, own_jv q2, .second, .unset, .unset] [(.long (Vf ((q2.toInt32)).toNatClampNeg))]))
      refine own_st (fun _ k => XS.lloadN X133.here hx rfl (hb hby own_d5_23) rfl  k) ?_
      show own_Goes p e below s _ _ (T133.setTop (mkF m 24 #[rv a1, own_jv q2, .second, .unset, .unset] [(.long q2), (.long (Vf ((q2.toInt32)).toNatClampNeg))]))
      refine own_st (fun _ k => XS.lcmp X133.here hx rfl (hb hby own_d5_24) rfl k) ?_
      show own_Goes p e below s _ _ (T133.setTop (mkF m 25 #[rv a1, own_jv q2, .second, .unset, .unset] [(.int (lcmpW (Vf ((q2.toInt32)).toNatClampNeg) q2))]))
      by_cases c134 : (Vf ((q2.toInt32)).toNatClampNeg) = q2
      · have c134i : (Vf ((q2.toInt32)).toNatClampNeg).toInt = q2.toInt := own_j_eq c134
        refine own_st (fun _ k => XS.ifNo X133.here hx rfl (hb hby own_d5_25) rfl ((if0 _ _).trans (teq ((lw_eq _ _).mpr c134)).2) k) ?_
        show own_Goes p e below s _ _ (T133.setTop (mkF m 28 #[rv a1, own_jv q2, .second, .unset, .unset] []))
        refine own_st (fun _ k => XS.lloadN X133.here hx rfl (hb hby own_d5_28) rfl  k) ?_
        show own_Goes p e below s _ _ (T133.setTop (mkF m 29 #[rv a1, own_jv q2, .second, .unset, .unset] [(.long q2)]))
        refine own_st (fun _ k => XS.l2i X133.here hx rfl (hb hby own_d5_29) rfl k) ?_
        show own_Goes p e below s _ _ (T133.setTop (mkF m 30 #[rv a1, own_jv q2, .second, .unset, .unset] [(.int (q2.toInt32))]))
        refine own_st (fun _ k => XS.goto X133.here hx rfl (pc0 := 30) (pc' := 34) rfl (hb hby own_d5_30) (by decide) (by decide) k) ?_
        show own_Goes p e below s _ _ (T133.setTop (mkF m 34 #[rv a1, own_jv q2, .second, .unset, .unset] [(.int (q2.toInt32))]))
        refine own_st (fun _ k => XS.istoreN X133.here hx rfl (hb hby own_d5_34) rfl (l' := #[rv a1, own_jv q2, .second, iv (q2.toInt32), .unset]) rfl k) ?_
        show own_Goes p e below s _ _ (T133.setTop (mkF m 35 #[rv a1, own_jv q2, .second, iv (q2.toInt32), .unset] []))
        have hl := own_l2i (q := q2) (d := d) (by omega) (by omega)
        refine own_st (fun _ k => XS.iloadN X133.here hx rfl (hb hby own_d5_35) rfl  k) ?_
        show own_Goes p e below s _ _ (T133.setTop (mkF m 36 #[rv a1, own_jv q2, .second, iv (q2.toInt32), .unset] [(.int (q2.toInt32))]))
        by_cases c135 : (q2.toInt32) < (0 : Int32)
        · have c135i : (q2.toInt32).toInt < 0 := own_i_lt c135
          exfalso; omega
        · have c135i : 0 ≤ (q2.toInt32).toInt := own_i_nlt c135
          refine own_st (fun _ k => XS.ifYes X133.here hx rfl (pc0 := 36) (pc' := 147) rfl (hb hby own_d5_36) rfl ((if0 _ _).trans (flt c135).2.1) (by decide) (by decide) k) ?_
          show own_Goes p e below s _ _ (T133.setTop (mkF m 147 #[rv a1, own_jv q2, .second, iv (q2.toInt32), .unset] []))
          refine own_st (fun _ k => XS.iloadN X133.here hx rfl (hb hby own_d5_147) rfl  k) ?_
          show own_Goes p e below s _ _ (T133.setTop (mkF m 148 #[rv a1, own_jv q2, .second, iv (q2.toInt32), .unset] [(.int (q2.toInt32))]))
          exact own_retI X133 hx hlk hret (hb hby own_d5_148) (by decide) (by decide) ⟨_, _, _, _, _, rfl, N0, by rw [e133]; exact (Keep.refl h0 [a1, av, al]), by rw [e133]; exact E1, by rw [e133]; exact F_d, by rw [e133]; exact F_v, by rw [e133]; exact F_l, by rw [e133]; exact Av, by rw [e133]; exact Al, by rw [e133]; exact F_c, own_CPold (by omega) (by omega) c134, by omega, hK, by rw [e133]; exact S1⟩
      · have c134i : ¬ (Vf ((q2.toInt32)).toNatClampNeg).toInt = q2.toInt := own_j_ne c134
        refine own_st (fun _ k => XS.ifYes X133.here hx rfl (pc0 := 25) (pc' := 33) rfl (hb hby own_d5_25) rfl ((if0 _ _).trans (feq (fun q => c134 ((lw_eq _ _).mp q))).2) (by decide) (by decide) k) ?_
        show own_Goes p e below s _ _ (T133.setTop (mkF m 33 #[rv a1, own_jv q2, .second, .unset, .unset] []))
        refine own_st (fun _ k => XS.iconst X133.here hx rfl (hb hby own_d5_33) k) ?_
        show own_Goes p e below s _ _ (T133.setTop (mkF m 34 #[rv a1, own_jv q2, .second, .unset, .unset] [(.int (-1 : Int32))]))
        refine own_st (fun _ k => XS.istoreN X133.here hx rfl (hb hby own_d5_34) rfl (l' := #[rv a1, own_jv q2, .second, iv (-1 : Int32), .unset]) rfl k) ?_
        show own_Goes p e below s _ _ (T133.setTop (mkF m 35 #[rv a1, own_jv q2, .second, iv (-1 : Int32), .unset] []))
        refine own_st (fun _ k => XS.iloadN X133.here hx rfl (hb hby own_d5_35) rfl  k) ?_
        show own_Goes p e below s _ _ (T133.setTop (mkF m 36 #[rv a1, own_jv q2, .second, iv (-1 : Int32), .unset] [(.int (-1 : Int32))]))
        refine own_st (fun _ k => XS.ifNo X133.here hx rfl (hb hby own_d5_36) rfl ((if0 _ _).trans (tlt (by decide : (-1 : Int32) < (0 : Int32))).2.1) k) ?_
        show own_Goes p e below s _ _ (T133.setTop (mkF m 39 #[rv a1, own_jv q2, .second, iv (-1 : Int32), .unset] []))
        exact J39 _ X133 e133
    · have c132i : (d.toInt64).toInt ≤ q2.toInt := own_j_nlt c132
      refine own_st (fun _ k => XS.ifYes X131.here hx rfl (pc0 := 13) (pc' := 33) rfl (hb hby own_d5_13) rfl ((if0 _ _).trans (flt (fun q => c132 ((lw_lt _ _).mp q))).2.1) (by decide) (by decide) k) ?_
      show own_Goes p e below s _ _ (T131.setTop (mkF m 33 #[rv a1, own_jv q2, .second, .unset, .unset] []))
      refine own_st (fun _ k => XS.iconst X131.here hx rfl (hb hby own_d5_33) k) ?_
      show own_Goes p e below s _ _ (T131.setTop (mkF m 34 #[rv a1, own_jv q2, .second, .unset, .unset] [(.int (-1 : Int32))]))
      refine own_st (fun _ k => XS.istoreN X131.here hx rfl (hb hby own_d5_34) rfl (l' := #[rv a1, own_jv q2, .second, iv (-1 : Int32), .unset]) rfl k) ?_
      show own_Goes p e below s _ _ (T131.setTop (mkF m 35 #[rv a1, own_jv q2, .second, iv (-1 : Int32), .unset] []))
      refine own_st (fun _ k => XS.iloadN X131.here hx rfl (hb hby own_d5_35) rfl  k) ?_
      show own_Goes p e below s _ _ (T131.setTop (mkF m 36 #[rv a1, own_jv q2, .second, iv (-1 : Int32), .unset] [(.int (-1 : Int32))]))
      refine own_st (fun _ k => XS.ifNo X131.here hx rfl (hb hby own_d5_36) rfl ((if0 _ _).trans (tlt (by decide : (-1 : Int32) < (0 : Int32))).2.1) k) ?_
      show own_Goes p e below s _ _ (T131.setTop (mkF m 39 #[rv a1, own_jv q2, .second, iv (-1 : Int32), .unset] []))
      exact J39 _ X131 e131
theorem own_pn3 : plainFor (⟨"com/example/reach2/reach2/model/CodedColumn", "set", "(IJ)V"⟩ : MethodName) = true := by first | exact plainFor_of_name (by simp [plainName, overriddenIn]; done) | decide +kernel
theorem own_d4_0 : decode prog_47_method_6_code 0 = .ok (.aload_n 0, 1) := by decide +kernel
theorem own_d4_1 : decode prog_47_method_6_code 1 = .ok (.getfield 12, 3) := by decide +kernel
theorem own_d4_4 : decode prog_47_method_6_code 4 = .ok (.ifnonnull 7, 3) := by decide +kernel
theorem own_d4_11 : decode prog_47_method_6_code 11 = .ok (.aload_n 0, 1) := by decide +kernel
theorem own_d4_12 : decode prog_47_method_6_code 12 = .ok (.lload_n 2, 1) := by decide +kernel
theorem own_d4_13 : decode prog_47_method_6_code 13 = .ok (.invokevirtual 38, 3) := by decide +kernel
theorem own_pd1 : parseMethodDescriptor "(J)I" = some ⟨[.long], some .int⟩ := by decide +kernel
theorem own_d4_16 : decode prog_47_method_6_code 16 = .ok (.istore 4, 2) := by decide +kernel
theorem own_d4_18 : decode prog_47_method_6_code 18 = .ok (.iload 4, 2) := by decide +kernel
theorem own_d4_20 : decode prog_47_method_6_code 20 = .ok (.ifCond .ge 14, 3) := by decide +kernel
theorem own_d4_34 : decode prog_47_method_6_code 34 = .ok (.aload_n 0, 1) := by decide +kernel
theorem own_d4_35 : decode prog_47_method_6_code 35 = .ok (.getfield 12, 3) := by decide +kernel
theorem own_d4_38 : decode prog_47_method_6_code 38 = .ok (.ifnonnull 13, 3) := by decide +kernel
theorem own_d4_51 : decode prog_47_method_6_code 51 = .ok (.aload_n 0, 1) := by decide +kernel
theorem own_d4_52 : decode prog_47_method_6_code 52 = .ok (.getfield 12, 3) := by decide +kernel
theorem own_d4_55 : decode prog_47_method_6_code 55 = .ok (.iload_n 1, 1) := by decide +kernel
theorem own_d4_56 : decode prog_47_method_6_code 56 = .ok (.iload 4, 2) := by decide +kernel
theorem own_d4_58 : decode prog_47_method_6_code 58 = .ok (.i2b, 1) := by decide +kernel
theorem own_d4_59 : decode prog_47_method_6_code 59 = .ok (.bastore, 1) := by decide +kernel
theorem own_d4_60 : decode prog_47_method_6_code 60 = .ok (.return_, 1) := by decide +kernel
theorem own_ef_rmSet (m : MethodId) (a1 : Nat) (p2 : Int32) (q3 : Int64) : entryFrame m #[(.ref a1), (.int p2), (.long q3)] 5 = mkF m 0 #[rv a1, iv p2, own_jv q3, .second, .unset] [] := by first | (simp [entryFrame, mkF, argsToLocals, Value.category, maxLocals]; done) | rfl
abbrev own_Q_rmSet (Z : State) (a1 : Nat) (p2 : Int32) (q3 : Int64) (ac : Nat) (av : Nat) (al : Nat) (d : Int32) (Cf : Nat → Int32) (Vf : Nat → Int64) (Kf : Nat → Int32) (occ : List Nat) (h0 : Heap) (n0 : Nat) (v : Option Value) (h : Heap) (L : List Loc) : Prop := ∃ (r d' : Int32) (V' : Nat → Int64) (K' : Nat → Int32) (occ' : List Nat), v = none ∧ Fr n0 L ∧ Keep h0 h [a1, ac, av, al] ∧ Exa Z h a1 "com/example/reach2/reach2/model/CodedColumn" ∧ Fld Z h a1 "com/example/reach2/reach2/model/CodedColumn" "codes" "[B" (.ref ac) ∧ Fld Z h a1 "com/example/reach2/reach2/model/CodedColumn" "distinct" "I" (.int d') ∧ Fld Z h a1 "com/example/reach2/reach2/model/CodedColumn" "values" "[J" (.ref av) ∧ Fld Z h a1 "com/example/reach2/reach2/model/CodedColumn" "lookup" "[S" (.ref al) ∧ own_Arf Z h ac .byte 3 (fun k => .int ((fun k => if k = p2.toNatClampNeg then (nar .byte (r.toInt8.toInt32)) else Cf k) k)) ∧ own_Arf Z h av .long 256 (fun k => .long (V' k)) ∧ own_Arf Z h al .short 512 (fun k => .int (K' k)) ∧ own_CP r d d' Vf V' q3 ∧ occ'.length ≤ occ.length + 1 ∧ own_LK occ' d' K' ∧ Sta Z h "com/example/reach2/reach2/model/CodedColumn" "LOOKUP_SHIFT" "I" (.int (55 : Int32))
set_option maxRecDepth 65536 in
set_option maxHeartbeats 40000000 in
theorem rmSet (l : Launch) (Z : State) (a0 : Array Value) (hw : ∀ d ∈ tables_1, d.before a0 Z = true) (ws : List Jvm.Cond) (a1 : Nat) (p2 : Int32) (q3 : Int64) (ac : Nat) (av : Nat) (al : Nat) (d : Int32) (Cf : Nat → Int32) (Vf : Nat → Int64) (Kf : Nat → Int32) (occ : List Nat) (h0 : Heap) (n0 : Nat) (Z0 : n0 ≤ h0.size) (E1 : Exa Z h0 a1 "com/example/reach2/reach2/model/CodedColumn") (F_d : Fld Z h0 a1 "com/example/reach2/reach2/model/CodedColumn" "distinct" "I" (.int d)) (F_v : Fld Z h0 a1 "com/example/reach2/reach2/model/CodedColumn" "values" "[J" (.ref av)) (F_l : Fld Z h0 a1 "com/example/reach2/reach2/model/CodedColumn" "lookup" "[S" (.ref al)) (F_c : Fld Z h0 a1 "com/example/reach2/reach2/model/CodedColumn" "codes" "[B" (.ref ac)) (Av : own_Arf Z h0 av .long 256 (fun k => .long (Vf k))) (Al : own_Arf Z h0 al .short 512 (fun k => .int (Kf k))) (S1 : Sta Z h0 "com/example/reach2/reach2/model/CodedColumn" "LOOKUP_SHIFT" "I" (.int (55 : Int32))) (hd : 0 ≤ d.toInt ∧ d.toInt ≤ 100) (ho : occ.length ≤ 3) (hK : own_LK occ d Kf) (g1 : n0 ≤ a1) (g2 : n0 ≤ av) (g3 : n0 ≤ al) (x1 : a1 ≠ av) (x2 : a1 ≠ al) (x3 : av ≠ al) (Ac : own_Arf Z h0 ac .byte 3 (fun k => .int (Cf k))) (g4 : n0 ≤ ac) (x4 : ac ≠ a1) (x5 : ac ≠ av) (x6 : ac ≠ al) (hp : 0 ≤ p2.toInt ∧ p2.toInt < (3 : Nat)) :
    MetFree l (⟨"com/example/reach2/reach2/model/CodedColumn", "set", "(IJ)V"⟩ : MethodName) (head1 (Jvm.Cond.code (⟨"com/example/reach2/reach2/model/CodedColumn", "set", "(IJ)V"⟩ : MethodName) prog_47_method_6_code 5 none :: ws) ({ frames := 1, cells := 0, slots := 0, locals := 16 } : Room)) (fun a U => a = #[(.ref a1), (.int p2), (.long q3)] ∧ Z.Warmed39 U.vm ∧ U.heap = h0) (fun _ _ _ _ _ => True) (fun _ U o U' => ∃ v L, o = .returned v ∧ own_Q_rmSet Z a1 p2 q3 ac av al d Cf Vf Kf occ h0 n0 v U'.heap L ∧ FrameEnd U o U' L ({ frames := 1, cells := 0, slots := 0, locals := 16 } : Room).cells ({ frames := 1, cells := 0, slots := 0, locals := 16 } : Room).slots) := by
  refine own_enter (Q := fun v h L => own_Q_rmSet Z a1 p2 q3 ac av al d Cf Vf Kf occ h0 n0 v h L) (F := fun m => mkF m 0 #[rv a1, iv p2, own_jv q3, .second, .unset] []) own_pn3 (fun m => own_ef_rmSet m a1 p2 q3) ?_
  intro p e s m below meth c T X hx hby hml hret hlk hnm hown hZ e0
  show own_Goes p e below s _ _ (T.setTop (mkF m 0 #[rv a1, iv p2, own_jv q3, .second, .unset] []))
  have N0 := Fr.nil n0
  refine own_st (fun _ k => XS.aloadN X.here hx rfl (hb hby own_d4_0) rfl rfl  k) ?_
  show own_Goes p e below s _ _ (T.setTop (mkF m 1 #[rv a1, iv p2, own_jv q3, .second, .unset] [(.ref a1)]))
  obtain ⟨T101, X101, e101, st101⟩ := getF X hx hZ hown (host := "") (Or.inl (hw _ (List.mem_of_getElem? (i := 16) rfl))) Via.refl e0 F_c (g := (mkF m 1 #[rv a1, iv p2, own_jv q3, .second, .unset] [(.ref a1)])) rfl rfl (hb hby own_d4_1)
  refine own_st st101 ?_
  show own_Goes p e below s _ _ (T101.setTop (mkF m 4 #[rv a1, iv p2, own_jv q3, .second, .unset] [(.ref ac)]))
  refine own_st (fun _ k => XS.ifnonnullYes X101.here hx rfl (pc0 := 4) (pc' := 11) rfl (hb hby own_d4_4) rfl (by decide) (by decide) k) ?_
  show own_Goes p e below s _ _ (T101.setTop (mkF m 11 #[rv a1, iv p2, own_jv q3, .second, .unset] []))
  refine own_st (fun _ k => XS.aloadN X101.here hx rfl (hb hby own_d4_11) rfl rfl  k) ?_
  show own_Goes p e below s _ _ (T101.setTop (mkF m 12 #[rv a1, iv p2, own_jv q3, .second, .unset] [(.ref a1)]))
  refine own_st (fun _ k => XS.lloadN X101.here hx rfl (hb hby own_d4_12) rfl  k) ?_
  show own_Goes p e below s _ _ (T101.setTop (mkF m 13 #[rv a1, iv p2, own_jv q3, .second, .unset] [(.long q3), (.ref a1)]))
  obtain ⟨v102, T102, L102, X102, Q102, st102⟩ := own_callP X101 hx hZ (y := (⟨"com/example/reach2/reach2/model/CodedColumn", "code", "(J)I"⟩ : MethodName)) hown (hw _ (List.mem_of_getElem? (i := 31) rfl)) (hw _ (List.mem_of_getElem? (i := 33) rfl)) (hw _ (List.mem_of_getElem? (i := 2) rfl)) (hw _ (List.mem_of_getElem? (i := 32) rfl)) (hw _ (List.mem_of_getElem? (i := 3) rfl)) (hw _ (List.mem_of_getElem? (i := 34) rfl)) (by decide) (W := 0) (rest := []) (argsL := [(.long q3)]) (a := a1) (rmCode l Z a0 hw [] a1 q3 ac av al d Vf Kf occ h0 n0 (by omega) E1 F_d F_v F_l F_c Av Al S1 hd ho hK g1 g2 g3 x1 x2 x3) (by decide) (by decide) (by decide) (by decide) e101 E1 own_pd1 rfl (g := (mkF m 13 #[rv a1, iv p2, own_jv q3, .second, .unset] [(.long q3), (.ref a1)])) rfl (by rw [hml]; rfl) rfl (by show 2 * 0 + _ ≤ _; exact Nat.le_of_eq rfl) (hb hby own_d4_13)
  obtain ⟨r, d', V', K', occ', rfl, N102q, K102, A102, Fd102, Fv102, Fl102, Vv102, Vl102, Fc102, hcp, hoc, hlk2, S102⟩ := Q102
  have z102 := K102.1
  have hcp' := id hcp
  obtain ⟨r0, r1, r2, r3, -, -⟩ := hcp'
  have N102 := Fr.app N0 N102q
  refine own_st st102 ?_
  show own_Goes p e below s _ _ (T102.setTop (mkF m 16 #[rv a1, iv p2, own_jv q3, .second, .unset] [(.int r)]))
  refine own_st (fun _ k => XS.istore X102.here hx rfl (hb hby own_d4_16) rfl (l' := #[rv a1, iv p2, own_jv q3, .second, iv r]) rfl k) ?_
  show own_Goes p e below s _ _ (T102.setTop (mkF m 18 #[rv a1, iv p2, own_jv q3, .second, iv r] []))
  refine own_st (fun _ k => XS.iload X102.here hx rfl (hb hby own_d4_18) rfl  k) ?_
  show own_Goes p e below s _ _ (T102.setTop (mkF m 20 #[rv a1, iv p2, own_jv q3, .second, iv r] [(.int r)]))
  by_cases c103 : r < (0 : Int32)
  · have c103i : r.toInt < 0 := own_i_lt c103
    exfalso; omega
  · have c103i : 0 ≤ r.toInt := own_i_nlt c103
    refine own_st (fun _ k => XS.ifYes X102.here hx rfl (pc0 := 20) (pc' := 34) rfl (hb hby own_d4_20) rfl ((if0 _ _).trans (flt c103).2.1) (by decide) (by decide) k) ?_
    show own_Goes p e below s _ _ (T102.setTop (mkF m 34 #[rv a1, iv p2, own_jv q3, .second, iv r] []))
    refine own_st (fun _ k => XS.aloadN X102.here hx rfl (hb hby own_d4_34) rfl rfl  k) ?_
    show own_Goes p e below s _ _ (T102.setTop (mkF m 35 #[rv a1, iv p2, own_jv q3, .second, iv r] [(.ref a1)]))
    obtain ⟨T104, X104, e104, st104⟩ := getF X102 hx hZ hown (host := "") (Or.inl (hw _ (List.mem_of_getElem? (i := 16) rfl))) Via.refl rfl Fc102 (g := (mkF m 35 #[rv a1, iv p2, own_jv q3, .second, iv r] [(.ref a1)])) rfl rfl (hb hby own_d4_35)
    refine own_st st104 ?_
    show own_Goes p e below s _ _ (T104.setTop (mkF m 38 #[rv a1, iv p2, own_jv q3, .second, iv r] [(.ref ac)]))
    refine own_st (fun _ k => XS.ifnonnullYes X104.here hx rfl (pc0 := 38) (pc' := 51) rfl (hb hby own_d4_38) rfl (by decide) (by decide) k) ?_
    show own_Goes p e below s _ _ (T104.setTop (mkF m 51 #[rv a1, iv p2, own_jv q3, .second, iv r] []))
    refine own_st (fun _ k => XS.aloadN X104.here hx rfl (hb hby own_d4_51) rfl rfl  k) ?_
    show own_Goes p e below s _ _ (T104.setTop (mkF m 52 #[rv a1, iv p2, own_jv q3, .second, iv r] [(.ref a1)]))
    obtain ⟨T105, X105, e105, st105⟩ := getF X104 hx hZ hown (host := "") (Or.inl (hw _ (List.mem_of_getElem? (i := 16) rfl))) Via.refl e104 Fc102 (g := (mkF m 52 #[rv a1, iv p2, own_jv q3, .second, iv r] [(.ref a1)])) rfl rfl (hb hby own_d4_52)
    refine own_st st105 ?_
    show own_Goes p e below s _ _ (T105.setTop (mkF m 55 #[rv a1, iv p2, own_jv q3, .second, iv r] [(.ref ac)]))
    refine own_st (fun _ k => XS.iloadN X105.here hx rfl (hb hby own_d4_55) rfl  k) ?_
    show own_Goes p e below s _ _ (T105.setTop (mkF m 56 #[rv a1, iv p2, own_jv q3, .second, iv r] [(.int p2), (.ref ac)]))
    refine own_st (fun _ k => XS.iload X105.here hx rfl (hb hby own_d4_56) rfl  k) ?_
    show own_Goes p e below s _ _ (T105.setTop (mkF m 58 #[rv a1, iv p2, own_jv q3, .second, iv r] [(.int r), (.int p2), (.ref ac)]))
    refine own_st (fun _ k => XS.i2b X105.here hx rfl (hb hby own_d4_58) rfl k) ?_
    show own_Goes p e below s _ _ (T105.setTop (mkF m 59 #[rv a1, iv p2, own_jv q3, .second, iv r] [(.int (r.toInt8.toInt32)), (.int p2), (.ref ac)]))
    have f106 := (Ac.keep K102 (ninS (own_ne (by omega)) (ninS (own_ne (by omega)) (ninS (own_ne (by omega)) nin0))))
    obtain ⟨T107, h107, X107, e107, W107, A107, st107⟩ := own_stB X105 hx hZ e105 f106 (j := p2) hp (g := (mkF m 59 #[rv a1, iv p2, own_jv q3, .second, iv r] [(.int (r.toInt8.toInt32)), (.int p2), (.ref ac)])) rfl rfl (hb hby own_d4_59)
    have V107 : own_Arf Z h107 ac .byte 3 (fun k => .int ((fun k => if k = (p2).toNatClampNeg then (nar .byte (r.toInt8.toInt32)) else Cf k) k)) := A107
    have z107 := W107.size
    have N107 := Fr.snoc X107 N102 (by omega)
    refine own_st st107 ?_
    show own_Goes p e below s _ _ (T107.setTop (mkF m 60 #[rv a1, iv p2, own_jv q3, .second, iv r] []))
    have f108 := (A102.wr W107)
    have f109 := (Fc102.other W107 (Or.inl (own_ne (by omega))))
    have f110 := (Fd102.other W107 (Or.inl (own_ne (by omega))))
    have f111 := (Fv102.other W107 (Or.inl (own_ne (by omega))))
    have f112 := (Fl102.other W107 (Or.inl (own_ne (by omega))))
    have f113 := (Vv102.other W107 (own_ne (by omega)))
    have f114 := (Vl102.other W107 (own_ne (by omega)))
    have f115 := (S102.wr W107)
    exact own_ret0 X107 hx hlk hret (hb hby own_d4_60) (by decide) (by decide) ⟨r, d', V', K', occ', rfl, N107, by rw [e107]; exact (((Keep.refl h0 [a1, ac, av, al]).trans K102 (allS (Or.inl (by simp)) (allS (Or.inl (by simp)) (allS (Or.inl (by simp)) all0)))).wr W107 (Or.inl (by simp))), by rw [e107]; exact f108, by rw [e107]; exact f109, by rw [e107]; exact f110, by rw [e107]; exact f111, by rw [e107]; exact f112, by rw [e107]; exact V107, by rw [e107]; exact f113, by rw [e107]; exact f114, hcp, hoc, hlk2, by rw [e107]; exact f115⟩
theorem own_pn4 : plainFor (⟨"com/example/reach2/reach2/model/CodedColumn", "get", "(I)J"⟩ : MethodName) = true := by first | exact plainFor_of_name (by simp [plainName, overriddenIn]; done) | decide +kernel
theorem own_d7_0 : decode prog_47_method_5_code 0 = .ok (.aload_n 0, 1) := by decide +kernel
theorem own_d7_1 : decode prog_47_method_5_code 1 = .ok (.getfield 12, 3) := by decide +kernel
theorem own_d7_4 : decode prog_47_method_5_code 4 = .ok (.ifnonnull 12, 3) := by decide +kernel
theorem own_d7_16 : decode prog_47_method_5_code 16 = .ok (.aload_n 0, 1) := by decide +kernel
theorem own_d7_17 : decode prog_47_method_5_code 17 = .ok (.getfield 16, 3) := by decide +kernel
theorem own_d7_20 : decode prog_47_method_5_code 20 = .ok (.aload_n 0, 1) := by decide +kernel
theorem own_d7_21 : decode prog_47_method_5_code 21 = .ok (.getfield 12, 3) := by decide +kernel
theorem own_d7_24 : decode prog_47_method_5_code 24 = .ok (.iload_n 1, 1) := by decide +kernel
theorem own_d7_25 : decode prog_47_method_5_code 25 = .ok (.baload, 1) := by decide +kernel
theorem own_d7_26 : decode prog_47_method_5_code 26 = .ok (.sipush 255, 3) := by decide +kernel
theorem own_d7_29 : decode prog_47_method_5_code 29 = .ok (.iand, 1) := by decide +kernel
theorem own_d7_30 : decode prog_47_method_5_code 30 = .ok (.laload, 1) := by decide +kernel
theorem own_d7_31 : decode prog_47_method_5_code 31 = .ok (.lreturn, 1) := by decide +kernel
theorem own_ef_rmGet (m : MethodId) (a1 : Nat) (p2 : Int32) : entryFrame m #[(.ref a1), (.int p2)] 2 = mkF m 0 #[rv a1, iv p2] [] := by first | (simp [entryFrame, mkF, argsToLocals, Value.category, maxLocals]; done) | rfl
abbrev own_Q_rmGet (Z : State) (a1 : Nat) (p2 : Int32) (ac : Nat) (av : Nat) (Cf : Nat → Int32) (Vf : Nat → Int64) (h0 : Heap) (n0 : Nat) (v : Option Value) (h : Heap) (L : List Loc) : Prop := ∃ r : Int64, v = some (.long r) ∧ r = Vf ((Cf p2.toNatClampNeg) &&& (255 : Int32)).toNatClampNeg ∧ Fr n0 L ∧ h = h0
set_option maxRecDepth 65536 in
set_option maxHeartbeats 40000000 in
theorem rmGet (l : Launch) (Z : State) (a0 : Array Value) (hw : ∀ d ∈ tables_1, d.before a0 Z = true) (ws : List Jvm.Cond) (a1 : Nat) (p2 : Int32) (ac : Nat) (av : Nat) (Cf : Nat → Int32) (Vf : Nat → Int64) (h0 : Heap) (n0 : Nat) (Z0 : n0 ≤ h0.size) (F_c : Fld Z h0 a1 "com/example/reach2/reach2/model/CodedColumn" "codes" "[B" (.ref ac)) (F_v : Fld Z h0 a1 "com/example/reach2/reach2/model/CodedColumn" "values" "[J" (.ref av)) (Ac : own_Arf Z h0 ac .byte 3 (fun k => .int (Cf k))) (Av : own_Arf Z h0 av .long 256 (fun k => .long (Vf k))) (hp : 0 ≤ p2.toInt ∧ p2.toInt < (3 : Nat)) :
    MetFree l (⟨"com/example/reach2/reach2/model/CodedColumn", "get", "(I)J"⟩ : MethodName) (head1 (Jvm.Cond.code (⟨"com/example/reach2/reach2/model/CodedColumn", "get", "(I)J"⟩ : MethodName) prog_47_method_5_code 2 (some .long) :: ws) ({ frames := 0, cells := 0, slots := 0, locals := 0 } : Room)) (fun a U => a = #[(.ref a1), (.int p2)] ∧ Z.Warmed39 U.vm ∧ U.heap = h0) (fun _ _ _ _ _ => True) (fun _ U o U' => ∃ v L, o = .returned v ∧ own_Q_rmGet Z a1 p2 ac av Cf Vf h0 n0 v U'.heap L ∧ FrameEnd U o U' L ({ frames := 0, cells := 0, slots := 0, locals := 0 } : Room).cells ({ frames := 0, cells := 0, slots := 0, locals := 0 } : Room).slots) := by
  refine own_enter (Q := fun v h L => own_Q_rmGet Z a1 p2 ac av Cf Vf h0 n0 v h L) (F := fun m => mkF m 0 #[rv a1, iv p2] []) own_pn4 (fun m => own_ef_rmGet m a1 p2) ?_
  intro p e s m below meth c T X hx hby hml hret hlk hnm hown hZ e0
  show own_Goes p e below s _ _ (T.setTop (mkF m 0 #[rv a1, iv p2] []))
  have N0 := Fr.nil n0
  refine own_st (fun _ k => XS.aloadN X.here hx rfl (hb hby own_d7_0) rfl rfl  k) ?_
  show own_Goes p e below s _ _ (T.setTop (mkF m 1 #[rv a1, iv p2] [(.ref a1)]))
  obtain ⟨T101, X101, e101, st101⟩ := getF X hx hZ hown (host := "") (Or.inl (hw _ (List.mem_of_getElem? (i := 16) rfl))) Via.refl e0 F_c (g := (mkF m 1 #[rv a1, iv p2] [(.ref a1)])) rfl rfl (hb hby own_d7_1)
  refine own_st st101 ?_
  show own_Goes p e below s _ _ (T101.setTop (mkF m 4 #[rv a1, iv p2] [(.ref ac)]))
  refine own_st (fun _ k => XS.ifnonnullYes X101.here hx rfl (pc0 := 4) (pc' := 16) rfl (hb hby own_d7_4) rfl (by decide) (by decide) k) ?_
  show own_Goes p e below s _ _ (T101.setTop (mkF m 16 #[rv a1, iv p2] []))
  refine own_st (fun _ k => XS.aloadN X101.here hx rfl (hb hby own_d7_16) rfl rfl  k) ?_
  show own_Goes p e below s _ _ (T101.setTop (mkF m 17 #[rv a1, iv p2] [(.ref a1)]))
  obtain ⟨T102, X102, e102, st102⟩ := getF X101 hx hZ hown (host := "") (Or.inl (hw _ (List.mem_of_getElem? (i := 18) rfl))) Via.refl e101 F_v (g := (mkF m 17 #[rv a1, iv p2] [(.ref a1)])) rfl rfl (hb hby own_d7_17)
  refine own_st st102 ?_
  show own_Goes p e below s _ _ (T102.setTop (mkF m 20 #[rv a1, iv p2] [(.ref av)]))
  refine own_st (fun _ k => XS.aloadN X102.here hx rfl (hb hby own_d7_20) rfl rfl  k) ?_
  show own_Goes p e below s _ _ (T102.setTop (mkF m 21 #[rv a1, iv p2] [(.ref a1), (.ref av)]))
  obtain ⟨T103, X103, e103, st103⟩ := getF X102 hx hZ hown (host := "") (Or.inl (hw _ (List.mem_of_getElem? (i := 16) rfl))) Via.refl e102 F_c (g := (mkF m 21 #[rv a1, iv p2] [(.ref a1), (.ref av)])) rfl rfl (hb hby own_d7_21)
  refine own_st st103 ?_
  show own_Goes p e below s _ _ (T103.setTop (mkF m 24 #[rv a1, iv p2] [(.ref ac), (.ref av)]))
  refine own_st (fun _ k => XS.iloadN X103.here hx rfl (hb hby own_d7_24) rfl  k) ?_
  show own_Goes p e below s _ _ (T103.setTop (mkF m 25 #[rv a1, iv p2] [(.int p2), (.ref ac), (.ref av)]))
  refine own_st (fun _ k => own_ldB X103 hx hZ e103 Ac (j := p2) hp (g := (mkF m 25 #[rv a1, iv p2] [(.int p2), (.ref ac), (.ref av)])) rfl rfl (hb hby own_d7_25) _ k) ?_
  show own_Goes p e below s _ _ (T103.setTop (mkF m 26 #[rv a1, iv p2] [(.int (Cf (p2).toNatClampNeg)), (.ref av)]))
  refine own_st (fun _ k => XS.sipush X103.here hx rfl (hb hby own_d7_26) k) ?_
  show own_Goes p e below s _ _ (T103.setTop (mkF m 29 #[rv a1, iv p2] [(.int (255 : Int32)), (.int (Cf (p2).toNatClampNeg)), (.ref av)]))
  refine own_st (fun _ k => XS.iand X103.here hx rfl (hb hby own_d7_29) rfl k) ?_
  show own_Goes p e below s _ _ (T103.setTop (mkF m 30 #[rv a1, iv p2] [(.int ((Cf (p2).toNatClampNeg) &&& (255 : Int32))), (.ref av)]))
  refine own_st (fun _ k => own_ldJ X103 hx hZ e103 Av (j := ((Cf (p2).toNatClampNeg) &&& (255 : Int32))) (own_m255 _) (g := (mkF m 30 #[rv a1, iv p2] [(.int ((Cf (p2).toNatClampNeg) &&& (255 : Int32))), (.ref av)])) rfl rfl (hb hby own_d7_30) _ k) ?_
  show own_Goes p e below s _ _ (T103.setTop (mkF m 31 #[rv a1, iv p2] [(.long (Vf (((Cf (p2).toNatClampNeg) &&& (255 : Int32))).toNatClampNeg))]))
  exact own_retJ X103 hx hlk hret (hb hby own_d7_31) (by decide) (by decide) ⟨_, rfl, rfl, N0, e103⟩
theorem own_pn5 : plainFor (⟨"com/example/reach2/reach2/model/CodedColumn", "emptyLike", "(I)Lcom/example/reach2/reach2/model/CodedColumn;"⟩ : MethodName) = true := by first | exact plainFor_of_name (by simp [plainName, overriddenIn]; done) | decide +kernel
theorem own_d8_0 : decode prog_47_method_3_code 0 = .ok (.aload_n 0, 1) := by decide +kernel
theorem own_d8_1 : decode prog_47_method_3_code 1 = .ok (.getfield 12, 3) := by decide +kernel
theorem own_d8_4 : decode prog_47_method_3_code 4 = .ok (.ifnonnull 20, 3) := by decide +kernel
theorem own_d8_24 : decode prog_47_method_3_code 24 = .ok (.new 1, 3) := by decide +kernel
theorem own_d8_27 : decode prog_47_method_3_code 27 = .ok (.dup, 1) := by decide +kernel
theorem own_d8_28 : decode prog_47_method_3_code 28 = .ok (.iload_n 1, 1) := by decide +kernel
theorem own_d8_29 : decode prog_47_method_3_code 29 = .ok (.newarray .byte, 2) := by decide +kernel
theorem own_d8_31 : decode prog_47_method_3_code 31 = .ok (.aload_n 0, 1) := by decide +kernel
theorem own_d8_32 : decode prog_47_method_3_code 32 = .ok (.getfield 16, 3) := by decide +kernel
theorem own_d8_35 : decode prog_47_method_3_code 35 = .ok (.invokevirtual 31, 3) := by decide +kernel
theorem own_d8_38 : decode prog_47_method_3_code 38 = .ok (.checkcast 32, 3) := by decide +kernel
theorem own_d8_41 : decode prog_47_method_3_code 41 = .ok (.aload_n 0, 1) := by decide +kernel
theorem own_d8_42 : decode prog_47_method_3_code 42 = .ok (.getfield 20, 3) := by decide +kernel
theorem own_d8_45 : decode prog_47_method_3_code 45 = .ok (.invokevirtual 36, 3) := by decide +kernel
theorem own_d8_48 : decode prog_47_method_3_code 48 = .ok (.checkcast 37, 3) := by decide +kernel
theorem own_d8_51 : decode prog_47_method_3_code 51 = .ok (.aload_n 0, 1) := by decide +kernel
theorem own_d8_52 : decode prog_47_method_3_code 52 = .ok (.getfield 24, 3) := by decide +kernel
theorem own_d8_55 : decode prog_47_method_3_code 55 = .ok (.aconst_null, 1) := by decide +kernel
theorem own_d8_56 : decode prog_47_method_3_code 56 = .ok (.invokespecial 3, 3) := by decide +kernel
theorem own_d8_59 : decode prog_47_method_3_code 59 = .ok (.areturn, 1) := by decide +kernel
theorem own_ef_rmEL (m : MethodId) (a1 : Nat) : entryFrame m #[(.ref a1), (.int (3 : Int32))] 2 = mkF m 0 #[rv a1, iv (3 : Int32)] [] := by first | (simp [entryFrame, mkF, argsToLocals, Value.category, maxLocals]; done) | rfl
abbrev own_Q_rmEL (Z : State) (a1 : Nat) (ac : Nat) (av : Nat) (al : Nat) (d : Int32) (Vf : Nat → Int64) (Kf : Nat → Int32) (occ : List Nat) (h0 : Heap) (n0 : Nat) (v : Option Value) (h : Heap) (L : List Loc) : Prop := ∃ b bc bv : Nat, v = some (.ref b) ∧ Fr n0 L ∧ Keep h0 h [] ∧ h0.size ≤ b ∧ b < bc ∧ bc < bv ∧ bv < h.size ∧ b ≠ bv ∧ Exa Z h b "com/example/reach2/reach2/model/CodedColumn" ∧ Fld Z h b "com/example/reach2/reach2/model/CodedColumn" "codes" "[B" (.ref bc) ∧ Fld Z h b "com/example/reach2/reach2/model/CodedColumn" "values" "[J" (.ref bv) ∧ own_Arf Z h bc .byte 3 (fun k => .int ((fun _ => (0 : Int32)) k)) ∧ own_Arf Z h bv .long 256 (fun k => .long (Vf k))
set_option maxRecDepth 65536 in
set_option maxHeartbeats 40000000 in
theorem rmEL (l : Launch) (Z : State) (a0 : Array Value) (hw : ∀ d ∈ tables_1, d.before a0 Z = true) (ws : List Jvm.Cond) (a1 : Nat) (ac : Nat) (av : Nat) (al : Nat) (d : Int32) (Vf : Nat → Int64) (Kf : Nat → Int32) (occ : List Nat) (h0 : Heap) (n0 : Nat) (Z0 : n0 ≤ h0.size) (F_c : Fld Z h0 a1 "com/example/reach2/reach2/model/CodedColumn" "codes" "[B" (.ref ac)) (F_v : Fld Z h0 a1 "com/example/reach2/reach2/model/CodedColumn" "values" "[J" (.ref av)) (F_l : Fld Z h0 a1 "com/example/reach2/reach2/model/CodedColumn" "lookup" "[S" (.ref al)) (F_d : Fld Z h0 a1 "com/example/reach2/reach2/model/CodedColumn" "distinct" "I" (.int d)) (Av : own_Arf Z h0 av .long 256 (fun k => .long (Vf k))) (Al : own_Arf Z h0 al .short 512 (fun k => .int (Kf k))) (Ev : Exa Z h0 av "[J") (El : Exa Z h0 al "[S") (hd : 0 ≤ d.toInt ∧ d.toInt ≤ 100) (hK : own_LK occ d Kf) :
    MetFree l (⟨"com/example/reach2/reach2/model/CodedColumn", "emptyLike", "(I)Lcom/example/reach2/reach2/model/CodedColumn;"⟩ : MethodName) (head1 (Jvm.Cond.code (⟨"com/example/reach2/reach2/model/CodedColumn", "emptyLike", "(I)Lcom/example/reach2/reach2/model/CodedColumn;"⟩ : MethodName) prog_47_method_3_code 2 (some (.object "com/example/reach2/reach2/model/CodedColumn")) :: ws) ({ frames := 2, cells := 4, slots := 776, locals := 30 } : Room)) (fun a U => a = #[(.ref a1), (.int (3 : Int32))] ∧ Z.Warmed39 U.vm ∧ U.heap = h0) (fun _ _ _ _ _ => True) (fun _ U o U' => ∃ v L, o = .returned v ∧ own_Q_rmEL Z a1 ac av al d Vf Kf occ h0 n0 v U'.heap L ∧ FrameEnd U o U' L ({ frames := 2, cells := 4, slots := 776, locals := 30 } : Room).cells ({ frames := 2, cells := 4, slots := 776, locals := 30 } : Room).slots) := by
  refine own_enter (Q := fun v h L => own_Q_rmEL Z a1 ac av al d Vf Kf occ h0 n0 v h L) (F := fun m => mkF m 0 #[rv a1, iv (3 : Int32)] []) own_pn5 (fun m => own_ef_rmEL m a1) ?_
  intro p e s m below meth c T X hx hby hml hret hlk hnm hown hZ e0
  show own_Goes p e below s _ _ (T.setTop (mkF m 0 #[rv a1, iv (3 : Int32)] []))
  have N0 := Fr.nil n0
  have yv := own_lt Av.lt
  have yl := own_lt Al.lt
  have ya := own_lt F_c.lt
  refine own_st (fun _ k => XS.aloadN X.here hx rfl (hb hby own_d8_0) rfl rfl  k) ?_
  show own_Goes p e below s _ _ (T.setTop (mkF m 1 #[rv a1, iv (3 : Int32)] [(.ref a1)]))
  obtain ⟨T101, X101, e101, st101⟩ := getF X hx hZ hown (host := "") (Or.inl (hw _ (List.mem_of_getElem? (i := 16) rfl))) Via.refl e0 F_c (g := (mkF m 1 #[rv a1, iv (3 : Int32)] [(.ref a1)])) rfl rfl (hb hby own_d8_1)
  refine own_st st101 ?_
  show own_Goes p e below s _ _ (T101.setTop (mkF m 4 #[rv a1, iv (3 : Int32)] [(.ref ac)]))
  refine own_st (fun _ k => XS.ifnonnullYes X101.here hx rfl (pc0 := 4) (pc' := 24) rfl (hb hby own_d8_4) rfl (by decide) (by decide) k) ?_
  show own_Goes p e below s _ _ (T101.setTop (mkF m 24 #[rv a1, iv (3 : Int32)] []))
  obtain ⟨T102, h102, X102, e102, E102, A102, D102, -, st102⟩ := newO X101 hx hZ hown (hw _ (List.mem_of_getElem? (i := 53) rfl)) (hw _ (List.mem_of_getElem? (i := 2) rfl)) (hw _ (List.mem_of_getElem? (i := 3) rfl)) e101 (g := (mkF m 24 #[rv a1, iv (3 : Int32)] [])) rfl (hb hby own_d8_24) (by decide) (by decide)
  obtain ⟨b102, g102⟩ : ∃ z, z = h0.size := ⟨_, rfl⟩
  rw [← g102] at A102 D102 st102
  have y102 := own_lt A102.lt
  have z102 := E102.1
  have F102_codes : Fld Z h102 b102 "com/example/reach2/reach2/model/CodedColumn" "codes" "[B" .null := D102 (Or.inl (hw _ (List.mem_of_getElem? (i := 17) rfl))) (ty := (.array .byte)) (by decide)
  have F102_values : Fld Z h102 b102 "com/example/reach2/reach2/model/CodedColumn" "values" "[J" .null := D102 (Or.inl (hw _ (List.mem_of_getElem? (i := 19) rfl))) (ty := (.array .long)) (by decide)
  have F102_lookup : Fld Z h102 b102 "com/example/reach2/reach2/model/CodedColumn" "lookup" "[S" .null := D102 (Or.inl (hw _ (List.mem_of_getElem? (i := 21) rfl))) (ty := (.array .short)) (by decide)
  have F102_distinct : Fld Z h102 b102 "com/example/reach2/reach2/model/CodedColumn" "distinct" "I" (.int (0 : Int32)) := D102 (Or.inl (hw _ (List.mem_of_getElem? (i := 23) rfl))) (ty := .int) (by decide)
  have F102_plain : Fld Z h102 b102 "com/example/reach2/reach2/model/CodedColumn" "plain" "[J" .null := D102 (Or.inl (hw _ (List.mem_of_getElem? (i := 25) rfl))) (ty := (.array .long)) (by decide)
  refine own_st st102 ?_
  show own_Goes p e below s _ _ (T102.setTop (mkF m 27 #[rv a1, iv (3 : Int32)] [(.ref b102)]))
  refine own_st (fun _ k => XS.dup X102.here hx rfl (hb hby own_d8_27) rfl rfl k) ?_
  show own_Goes p e below s _ _ (T102.setTop (mkF m 28 #[rv a1, iv (3 : Int32)] [(.ref b102), (.ref b102)]))
  refine own_st (fun _ k => XS.iloadN X102.here hx rfl (hb hby own_d8_28) rfl  k) ?_
  show own_Goes p e below s _ _ (T102.setTop (mkF m 29 #[rv a1, iv (3 : Int32)] [(.int (3 : Int32)), (.ref b102), (.ref b102)]))
  obtain ⟨T103, h103, X103, e103, E103, A103, st103⟩ := own_newP X102 hx hZ (aty := .byte) (hw _ (List.mem_of_getElem? (i := 7) rfl)) e102 (g := (mkF m 29 #[rv a1, iv (3 : Int32)] [(.int (3 : Int32)), (.ref b102), (.ref b102)])) rfl (hb hby own_d8_29) rfl (by decide) (cap := 3) (by decide) (by decide) (by decide) (by decide)
  obtain ⟨b103, g103⟩ : ∃ z, z = h102.size := ⟨_, rfl⟩
  rw [← g103] at A103 st103
  have V103 : own_Arf Z h103 b103 .byte 3 (fun k => .int ((fun _ => (0 : Int32)) k)) := A103
  have y103 := own_lt V103.lt
  have z103 := E103.1
  refine own_st st103 ?_
  show own_Goes p e below s _ _ (T103.setTop (mkF m 31 #[rv a1, iv (3 : Int32)] [(.ref b103), (.ref b102), (.ref b102)]))
  refine own_st (fun _ k => XS.aloadN X103.here hx rfl (hb hby own_d8_31) rfl rfl  k) ?_
  show own_Goes p e below s _ _ (T103.setTop (mkF m 32 #[rv a1, iv (3 : Int32)] [(.ref a1), (.ref b103), (.ref b102), (.ref b102)]))
  have f104 := ((F_v.ext E102).ext E103)
  obtain ⟨T105, X105, e105, st105⟩ := getF X103 hx hZ hown (host := "") (Or.inl (hw _ (List.mem_of_getElem? (i := 18) rfl))) Via.refl e103 f104 (g := (mkF m 32 #[rv a1, iv (3 : Int32)] [(.ref a1), (.ref b103), (.ref b102), (.ref b102)])) rfl rfl (hb hby own_d8_32)
  refine own_st st105 ?_
  show own_Goes p e below s _ _ (T105.setTop (mkF m 35 #[rv a1, iv (3 : Int32)] [(.ref av), (.ref b103), (.ref b102), (.ref b102)]))
  have f106 := ((Av.ext E102).ext E103)
  have f107 := ((Ev.ext E102).ext E103)
  obtain ⟨T108, h108, X108, e108, E108, A108, Y108, st108⟩ := own_cloneA X105 hx hZ hown (hw _ (List.mem_of_getElem? (i := 54) rfl)) (hw _ (List.mem_of_getElem? (i := 55) rfl)) (hw _ (List.mem_of_getElem? (i := 59) rfl)) (hw _ (List.mem_of_getElem? (i := 57) rfl)) (hw _ (List.mem_of_getElem? (i := 58) rfl)) (hw _ (List.mem_of_getElem? (i := 60) rfl)) e105 f106 f107 (fun _ _ => rfl) (g := (mkF m 35 #[rv a1, iv (3 : Int32)] [(.ref av), (.ref b103), (.ref b102), (.ref b102)])) rfl (by rw [hml]; rfl) rfl (hb hby own_d8_35) (by decide) (W := 3) (by show 2 * 0 + _ ≤ _; exact Nat.le_of_eq rfl) (by decide) (by decide) (by decide)
  obtain ⟨b108, g108⟩ : ∃ z, z = h103.size := ⟨_, rfl⟩
  rw [← g108] at A108 st108 Y108
  have y108 := own_lt A108.lt
  have z108 := E108.1
  refine own_st st108 ?_
  show own_Goes p e below s _ _ (T108.setTop (mkF m 38 #[rv a1, iv (3 : Int32)] [(.ref b108), (.ref b103), (.ref b102), (.ref b102)]))
  obtain ⟨T109, X109, e109, st109⟩ := castY X108 hx hZ hown (hw _ (List.mem_of_getElem? (i := 61) rfl)) e108 (Ins.self Y108) (g := (mkF m 38 #[rv a1, iv (3 : Int32)] [(.ref b108), (.ref b103), (.ref b102), (.ref b102)])) rfl rfl (hb hby own_d8_38)
  refine own_st st109 ?_
  show own_Goes p e below s _ _ (T109.setTop (mkF m 41 #[rv a1, iv (3 : Int32)] [(.ref b108), (.ref b103), (.ref b102), (.ref b102)]))
  refine own_st (fun _ k => XS.aloadN X109.here hx rfl (hb hby own_d8_41) rfl rfl  k) ?_
  show own_Goes p e below s _ _ (T109.setTop (mkF m 42 #[rv a1, iv (3 : Int32)] [(.ref a1), (.ref b108), (.ref b103), (.ref b102), (.ref b102)]))
  have f110 := (((F_l.ext E102).ext E103).ext E108)
  obtain ⟨T111, X111, e111, st111⟩ := getF X109 hx hZ hown (host := "") (Or.inl (hw _ (List.mem_of_getElem? (i := 20) rfl))) Via.refl e109 f110 (g := (mkF m 42 #[rv a1, iv (3 : Int32)] [(.ref a1), (.ref b108), (.ref b103), (.ref b102), (.ref b102)])) rfl rfl (hb hby own_d8_42)
  refine own_st st111 ?_
  show own_Goes p e below s _ _ (T111.setTop (mkF m 45 #[rv a1, iv (3 : Int32)] [(.ref al), (.ref b108), (.ref b103), (.ref b102), (.ref b102)]))
  have f112 := (((Al.ext E102).ext E103).ext E108)
  have f113 := (((El.ext E102).ext E103).ext E108)
  obtain ⟨T114, h114, X114, e114, E114, A114, Y114, st114⟩ := own_cloneA X111 hx hZ hown (hw _ (List.mem_of_getElem? (i := 63) rfl)) (hw _ (List.mem_of_getElem? (i := 64) rfl)) (hw _ (List.mem_of_getElem? (i := 59) rfl)) (hw _ (List.mem_of_getElem? (i := 57) rfl)) (hw _ (List.mem_of_getElem? (i := 65) rfl)) (hw _ (List.mem_of_getElem? (i := 66) rfl)) e111 f112 f113 (own_fitS hK hd) (g := (mkF m 45 #[rv a1, iv (3 : Int32)] [(.ref al), (.ref b108), (.ref b103), (.ref b102), (.ref b102)])) rfl (by rw [hml]; rfl) rfl (hb hby own_d8_45) (by decide) (W := 4) (by show 2 * 0 + _ ≤ _; exact Nat.le_of_eq rfl) (by decide) (by decide) (by decide)
  obtain ⟨b114, g114⟩ : ∃ z, z = h108.size := ⟨_, rfl⟩
  rw [← g114] at A114 st114 Y114
  have y114 := own_lt A114.lt
  have z114 := E114.1
  refine own_st st114 ?_
  show own_Goes p e below s _ _ (T114.setTop (mkF m 48 #[rv a1, iv (3 : Int32)] [(.ref b114), (.ref b108), (.ref b103), (.ref b102), (.ref b102)]))
  obtain ⟨T115, X115, e115, st115⟩ := castY X114 hx hZ hown (hw _ (List.mem_of_getElem? (i := 67) rfl)) e114 (Ins.self Y114) (g := (mkF m 48 #[rv a1, iv (3 : Int32)] [(.ref b114), (.ref b108), (.ref b103), (.ref b102), (.ref b102)])) rfl rfl (hb hby own_d8_48)
  refine own_st st115 ?_
  show own_Goes p e below s _ _ (T115.setTop (mkF m 51 #[rv a1, iv (3 : Int32)] [(.ref b114), (.ref b108), (.ref b103), (.ref b102), (.ref b102)]))
  refine own_st (fun _ k => XS.aloadN X115.here hx rfl (hb hby own_d8_51) rfl rfl  k) ?_
  show own_Goes p e below s _ _ (T115.setTop (mkF m 52 #[rv a1, iv (3 : Int32)] [(.ref a1), (.ref b114), (.ref b108), (.ref b103), (.ref b102), (.ref b102)]))
  have f116 := ((((F_d.ext E102).ext E103).ext E108).ext E114)
  obtain ⟨T117, X117, e117, st117⟩ := getF X115 hx hZ hown (host := "") (Or.inl (hw _ (List.mem_of_getElem? (i := 22) rfl))) Via.refl e115 f116 (g := (mkF m 52 #[rv a1, iv (3 : Int32)] [(.ref a1), (.ref b114), (.ref b108), (.ref b103), (.ref b102), (.ref b102)])) rfl rfl (hb hby own_d8_52)
  refine own_st st117 ?_
  show own_Goes p e below s _ _ (T117.setTop (mkF m 55 #[rv a1, iv (3 : Int32)] [(.int d), (.ref b114), (.ref b108), (.ref b103), (.ref b102), (.ref b102)]))
  refine own_st (fun _ k => XS.aconstNull X117.here hx rfl (hb hby own_d8_55) k) ?_
  show own_Goes p e below s _ _ (T117.setTop (mkF m 56 #[rv a1, iv (3 : Int32)] [.null, (.int d), (.ref b114), (.ref b108), (.ref b103), (.ref b102), (.ref b102)]))
  have f119 := (((A102.ext E103).ext E108).ext E114)
  have f120 := (((F102_codes.ext E103).ext E108).ext E114)
  have f121 := (((F102_values.ext E103).ext E108).ext E114)
  have f122 := (((F102_lookup.ext E103).ext E108).ext E114)
  have f123 := (((F102_distinct.ext E103).ext E108).ext E114)
  have f124 := (((F102_plain.ext E103).ext E108).ext E114)
  obtain ⟨v118, T118, L118, X118, Q118, st118⟩ := own_callI X117 hx hZ (y := (⟨"com/example/reach2/reach2/model/CodedColumn", "<init>", "([B[J[SI[J)V"⟩ : MethodName)) hown (hw _ (List.mem_of_getElem? (i := 10) rfl)) (hw _ (List.mem_of_getElem? (i := 11) rfl)) (hw _ (List.mem_of_getElem? (i := 3) rfl)) (hw _ (List.mem_of_getElem? (i := 12) rfl)) rfl (by decide) (W := 1) (rest := [(.ref b102)]) (argsL := [(.ref b103), (.ref b108), (.ref b114), (.int d), .null]) (a := b102) (rmI2 l Z a0 hw [] b102 b103 b108 b114 d _ _ _ _ _  h114 n0 (by omega) f119 f120 f121 f122 f123 f124 (by omega)) (by decide) (by decide) (by decide) (by decide) e117 own_pd0 rfl (g := (mkF m 56 #[rv a1, iv (3 : Int32)] [.null, (.int d), (.ref b114), (.ref b108), (.ref b103), (.ref b102), (.ref b102)])) rfl (by rw [hml]; rfl) rfl (by show 2 * 0 + _ ≤ _; exact Nat.le_of_eq rfl) (hb hby own_d8_56)
  obtain ⟨rfl, N118q, K118, A118, F118_codes, F118_values, F118_lookup, F118_distinct, F118_plain⟩ := Q118
  have z118 := K118.1
  have N118 := Fr.app N0 N118q
  refine own_st st118 ?_
  show own_Goes p e below s _ _ (T118.setTop (mkF m 59 #[rv a1, iv (3 : Int32)] [(.ref b102)]))
  have f125 := (((V103.ext E108).ext E114).keep K118 (ninS (own_ne (by omega)) nin0))
  have f126 := ((A108.ext E114).keep K118 (ninS (own_ne (by omega)) nin0))
  exact own_retR X118 hx hlk hret rfl rfl (hb hby own_d8_59) (by decide) (by decide) ⟨b102, b103, b108, rfl, N118, ((((((Keep.refl h0 []).ext E102).ext E103).ext E108).ext E114).trans K118 (allS (Or.inr (by omega)) all0)), by omega, by omega, by omega, by omega, by omega, A118, F118_codes, F118_values, f125, f126⟩
theorem own_pn6 : plainFor (⟨"com/example/reach2/reach2/model/CodedColumn", "copyTo", "(ILcom/example/reach2/reach2/model/CodedColumn;I)V"⟩ : MethodName) = true := by first | exact plainFor_of_name (by simp [plainName, overriddenIn]; done) | decide +kernel
theorem own_d6_0 : decode prog_47_method_8_code 0 = .ok (.aload_n 0, 1) := by decide +kernel
theorem own_d6_1 : decode prog_47_method_8_code 1 = .ok (.getfield 12, 3) := by decide +kernel
theorem own_d6_4 : decode prog_47_method_8_code 4 = .ok (.ifnonnull 18, 3) := by decide +kernel
theorem own_d6_22 : decode prog_47_method_8_code 22 = .ok (.aload_n 2, 1) := by decide +kernel
theorem own_d6_23 : decode prog_47_method_8_code 23 = .ok (.getfield 12, 3) := by decide +kernel
theorem own_d6_26 : decode prog_47_method_8_code 26 = .ok (.iload_n 3, 1) := by decide +kernel
theorem own_d6_27 : decode prog_47_method_8_code 27 = .ok (.aload_n 0, 1) := by decide +kernel
theorem own_d6_28 : decode prog_47_method_8_code 28 = .ok (.getfield 12, 3) := by decide +kernel
theorem own_d6_31 : decode prog_47_method_8_code 31 = .ok (.iload_n 1, 1) := by decide +kernel
theorem own_d6_32 : decode prog_47_method_8_code 32 = .ok (.baload, 1) := by decide +kernel
theorem own_d6_33 : decode prog_47_method_8_code 33 = .ok (.bastore, 1) := by decide +kernel
theorem own_d6_34 : decode prog_47_method_8_code 34 = .ok (.return_, 1) := by decide +kernel
theorem own_ef_rmCT (m : MethodId) (a1 : Nat) (p2 : Int32) (a3 : Nat) (p4 : Int32) : entryFrame m #[(.ref a1), (.int p2), (.ref a3), (.int p4)] 4 = mkF m 0 #[rv a1, iv p2, rv a3, iv p4] [] := by first | (simp [entryFrame, mkF, argsToLocals, Value.category, maxLocals]; done) | rfl
abbrev own_Q_rmCT (Z : State) (a1 : Nat) (p2 : Int32) (a3 : Nat) (p4 : Int32) (ac : Nat) (tc : Nat) (Cf : Nat → Int32) (Tf : Nat → Int32) (h0 : Heap) (n0 : Nat) (v : Option Value) (h : Heap) (L : List Loc) : Prop := v = none ∧ Fr n0 L ∧ Keep h0 h [tc] ∧ own_Arf Z h tc .byte 3 (fun k => .int ((fun k => if k = p4.toNatClampNeg then (nar .byte (Cf p2.toNatClampNeg)) else Tf k) k))
set_option maxRecDepth 65536 in
set_option maxHeartbeats 40000000 in
theorem rmCT (l : Launch) (Z : State) (a0 : Array Value) (hw : ∀ d ∈ tables_1, d.before a0 Z = true) (ws : List Jvm.Cond) (a1 : Nat) (p2 : Int32) (a3 : Nat) (p4 : Int32) (ac : Nat) (tc : Nat) (Cf : Nat → Int32) (Tf : Nat → Int32) (h0 : Heap) (n0 : Nat) (Z0 : n0 ≤ h0.size) (F_c : Fld Z h0 a1 "com/example/reach2/reach2/model/CodedColumn" "codes" "[B" (.ref ac)) (F_t : Fld Z h0 a3 "com/example/reach2/reach2/model/CodedColumn" "codes" "[B" (.ref tc)) (Ac : own_Arf Z h0 ac .byte 3 (fun k => .int (Cf k))) (At : own_Arf Z h0 tc .byte 3 (fun k => .int (Tf k))) (hp : 0 ≤ p2.toInt ∧ p2.toInt < (3 : Nat)) (hq : 0 ≤ p4.toInt ∧ p4.toInt < (3 : Nat)) (g1 : n0 ≤ tc) :
    MetFree l (⟨"com/example/reach2/reach2/model/CodedColumn", "copyTo", "(ILcom/example/reach2/reach2/model/CodedColumn;I)V"⟩ : MethodName) (head1 (Jvm.Cond.code (⟨"com/example/reach2/reach2/model/CodedColumn", "copyTo", "(ILcom/example/reach2/reach2/model/CodedColumn;I)V"⟩ : MethodName) prog_47_method_8_code 4 none :: ws) ({ frames := 0, cells := 0, slots := 0, locals := 0 } : Room)) (fun a U => a = #[(.ref a1), (.int p2), (.ref a3), (.int p4)] ∧ Z.Warmed39 U.vm ∧ U.heap = h0) (fun _ _ _ _ _ => True) (fun _ U o U' => ∃ v L, o = .returned v ∧ own_Q_rmCT Z a1 p2 a3 p4 ac tc Cf Tf h0 n0 v U'.heap L ∧ FrameEnd U o U' L ({ frames := 0, cells := 0, slots := 0, locals := 0 } : Room).cells ({ frames := 0, cells := 0, slots := 0, locals := 0 } : Room).slots) := by
  refine own_enter (Q := fun v h L => own_Q_rmCT Z a1 p2 a3 p4 ac tc Cf Tf h0 n0 v h L) (F := fun m => mkF m 0 #[rv a1, iv p2, rv a3, iv p4] []) own_pn6 (fun m => own_ef_rmCT m a1 p2 a3 p4) ?_
  intro p e s m below meth c T X hx hby hml hret hlk hnm hown hZ e0
  show own_Goes p e below s _ _ (T.setTop (mkF m 0 #[rv a1, iv p2, rv a3, iv p4] []))
  have N0 := Fr.nil n0
  refine own_st (fun _ k => XS.aloadN X.here hx rfl (hb hby own_d6_0) rfl rfl  k) ?_
  show own_Goes p e below s _ _ (T.setTop (mkF m 1 #[rv a1, iv p2, rv a3, iv p4] [(.ref a1)]))
  obtain ⟨T101, X101, e101, st101⟩ := getF X hx hZ hown (host := "") (Or.inl (hw _ (List.mem_of_getElem? (i := 16) rfl))) Via.refl e0 F_c (g := (mkF m 1 #[rv a1, iv p2, rv a3, iv p4] [(.ref a1)])) rfl rfl (hb hby own_d6_1)
  refine own_st st101 ?_
  show own_Goes p e below s _ _ (T101.setTop (mkF m 4 #[rv a1, iv p2, rv a3, iv p4] [(.ref ac)]))
  refine own_st (fun _ k => XS.ifnonnullYes X101.here hx rfl (pc0 := 4) (pc' := 22) rfl (hb hby own_d6_4) rfl (by decide) (by decide) k) ?_
  show own_Goes p e below s _ _ (T101.setTop (mkF m 22 #[rv a1, iv p2, rv a3, iv p4] []))
  refine own_st (fun _ k => XS.aloadN X101.here hx rfl (hb hby own_d6_22) rfl rfl  k) ?_
  show own_Goes p e below s _ _ (T101.setTop (mkF m 23 #[rv a1, iv p2, rv a3, iv p4] [(.ref a3)]))
  obtain ⟨T102, X102, e102, st102⟩ := getF X101 hx hZ hown (host := "") (Or.inl (hw _ (List.mem_of_getElem? (i := 16) rfl))) Via.refl e101 F_t (g := (mkF m 23 #[rv a1, iv p2, rv a3, iv p4] [(.ref a3)])) rfl rfl (hb hby own_d6_23)
  refine own_st st102 ?_
  show own_Goes p e below s _ _ (T102.setTop (mkF m 26 #[rv a1, iv p2, rv a3, iv p4] [(.ref tc)]))
  refine own_st (fun _ k => XS.iloadN X102.here hx rfl (hb hby own_d6_26) rfl  k) ?_
  show own_Goes p e below s _ _ (T102.setTop (mkF m 27 #[rv a1, iv p2, rv a3, iv p4] [(.int p4), (.ref tc)]))
  refine own_st (fun _ k => XS.aloadN X102.here hx rfl (hb hby own_d6_27) rfl rfl  k) ?_
  show own_Goes p e below s _ _ (T102.setTop (mkF m 28 #[rv a1, iv p2, rv a3, iv p4] [(.ref a1), (.int p4), (.ref tc)]))
  obtain ⟨T103, X103, e103, st103⟩ := getF X102 hx hZ hown (host := "") (Or.inl (hw _ (List.mem_of_getElem? (i := 16) rfl))) Via.refl e102 F_c (g := (mkF m 28 #[rv a1, iv p2, rv a3, iv p4] [(.ref a1), (.int p4), (.ref tc)])) rfl rfl (hb hby own_d6_28)
  refine own_st st103 ?_
  show own_Goes p e below s _ _ (T103.setTop (mkF m 31 #[rv a1, iv p2, rv a3, iv p4] [(.ref ac), (.int p4), (.ref tc)]))
  refine own_st (fun _ k => XS.iloadN X103.here hx rfl (hb hby own_d6_31) rfl  k) ?_
  show own_Goes p e below s _ _ (T103.setTop (mkF m 32 #[rv a1, iv p2, rv a3, iv p4] [(.int p2), (.ref ac), (.int p4), (.ref tc)]))
  refine own_st (fun _ k => own_ldB X103 hx hZ e103 Ac (j := p2) hp (g := (mkF m 32 #[rv a1, iv p2, rv a3, iv p4] [(.int p2), (.ref ac), (.int p4), (.ref tc)])) rfl rfl (hb hby own_d6_32) _ k) ?_
  show own_Goes p e below s _ _ (T103.setTop (mkF m 33 #[rv a1, iv p2, rv a3, iv p4] [(.int (Cf (p2).toNatClampNeg)), (.int p4), (.ref tc)]))
  obtain ⟨T104, h104, X104, e104, W104, A104, st104⟩ := own_stB X103 hx hZ e103 At (j := p4) hq (g := (mkF m 33 #[rv a1, iv p2, rv a3, iv p4] [(.int (Cf (p2).toNatClampNeg)), (.int p4), (.ref tc)])) rfl rfl (hb hby own_d6_33)
  have V104 : own_Arf Z h104 tc .byte 3 (fun k => .int ((fun k => if k = (p4).toNatClampNeg then (nar .byte (Cf (p2).toNatClampNeg)) else Tf k) k)) := A104
  have z104 := W104.size
  have N104 := Fr.snoc X104 N0 (by omega)
  refine own_st st104 ?_
  show own_Goes p e below s _ _ (T104.setTop (mkF m 34 #[rv a1, iv p2, rv a3, iv p4] []))
  exact own_ret0 X104 hx hlk hret (hb hby own_d6_34) (by decide) (by decide) ⟨rfl, N104, by rw [e104]; exact ((Keep.refl h0 [tc]).wr W104 (Or.inl (by simp))), by rw [e104]; exact V104⟩
theorem own_pn7 : plainFor (⟨"com/example/reach2/reach2/model/CodedColumnCopyToPinLaw", "law", "(JJJIII)Z"⟩ : MethodName) = true := by first | exact plainFor_of_name (by simp [plainName, overriddenIn]; done) | decide +kernel
theorem own_pd2 : parseMethodDescriptor "(I)V" = some ⟨[.int], none⟩ := by decide +kernel
theorem own_pd3 : parseMethodDescriptor "(IJ)V" = some ⟨[.int, .long], none⟩ := by decide +kernel
theorem own_pd4 : parseMethodDescriptor "(I)Lcom/example/reach2/reach2/model/CodedColumn;" = some ⟨[.int], some (.object "com/example/reach2/reach2/model/CodedColumn")⟩ := by decide +kernel
theorem own_pd5 : parseMethodDescriptor "(ILcom/example/reach2/reach2/model/CodedColumn;I)V" = some ⟨[.int, (.object "com/example/reach2/reach2/model/CodedColumn"), .int], none⟩ := by decide +kernel
theorem own_pd6 : parseMethodDescriptor "(I)J" = some ⟨[.int], some .long⟩ := by decide +kernel
theorem own_ef_rm0 (m : MethodId) (q0 : Int64) (q1 : Int64) (q2 : Int64) (p3 : Int32) (p4 : Int32) (p5 : Int32) : entryFrame m #[(.long q0), (.long q1), (.long q2), (.int p3), (.int p4), (.int p5)] maxLocals = mkF m 0 #[own_jv q0, .second, own_jv q1, .second, own_jv q2, .second, iv p3, iv p4, iv p5, .unset, .unset, .unset, .unset, .unset, .unset, .unset, .unset] [] := by first | (simp [entryFrame, mkF, argsToLocals, Value.category, maxLocals]; done) | rfl
abbrev own_Q_rm0 (Z : State) (q0 : Int64) (q1 : Int64) (q2 : Int64) (p3 : Int32) (p4 : Int32) (p5 : Int32) (h0 : Heap) (n0 : Nat) (v : Option Value) (h : Heap) (L : List Loc) : Prop := v = some (.int 1) ∧ Fr n0 L
set_option maxRecDepth 65536 in
set_option maxHeartbeats 40000000 in
theorem rm0 (l : Launch) (Z : State) (a0 : Array Value) (hw : ∀ d ∈ tables_1, d.before a0 Z = true) (ws : List Jvm.Cond) (q0 : Int64) (q1 : Int64) (q2 : Int64) (p3 : Int32) (p4 : Int32) (p5 : Int32) (h0 : Heap) (n0 : Nat) (Z0 : n0 ≤ h0.size) (S1 : Sta Z h0 "com/example/reach2/reach2/model/CodedColumn" "LOOKUP_SHIFT" "I" (.int (55 : Int32))) :
    MetFree l x (head1 (Jvm.Cond.code x code maxLocals ret :: ws) room_1) (fun a U => a = #[(.long q0), (.long q1), (.long q2), (.int p3), (.int p4), (.int p5)] ∧ Z.Warmed39 U.vm ∧ U.heap = h0) (fun _ _ _ _ _ => True) (fun _ U o U' => ∃ v L, o = .returned v ∧ own_Q_rm0 Z q0 q1 q2 p3 p4 p5 h0 n0 v U'.heap L ∧ FrameEnd U o U' L room_1.cells room_1.slots) := by
  refine own_enter (Q := fun v h L => own_Q_rm0 Z q0 q1 q2 p3 p4 p5 h0 n0 v h L) (F := fun m => mkF m 0 #[own_jv q0, .second, own_jv q1, .second, own_jv q2, .second, iv p3, iv p4, iv p5, .unset, .unset, .unset, .unset, .unset, .unset, .unset, .unset] []) own_pn7 (fun m => own_ef_rm0 m q0 q1 q2 p3 p4 p5) ?_
  intro p e s m below meth c T X hx hby hml hret hlk hnm hown hZ e0
  show own_Goes p e below s _ _ (T.setTop (mkF m 0 #[own_jv q0, .second, own_jv q1, .second, own_jv q2, .second, iv p3, iv p4, iv p5, .unset, .unset, .unset, .unset, .unset, .unset, .unset, .unset] []))
  have N0 := Fr.nil n0
  refine own_st (fun _ k => XS.iload X.here hx rfl (hb hby at_0) rfl  k) ?_
  show own_Goes p e below s _ _ (T.setTop (mkF m 2 #[own_jv q0, .second, own_jv q1, .second, own_jv q2, .second, iv p3, iv p4, iv p5, .unset, .unset, .unset, .unset, .unset, .unset, .unset, .unset] [(.int p3)]))
  refine own_st (fun _ k => X.ldcInt hx hown (mvT hZ (hw _ (List.mem_of_getElem? (i := 0) rfl))) (g := (mkF m 2 #[own_jv q0, .second, own_jv q1, .second, own_jv q2, .second, iv p3, iv p4, iv p5, .unset, .unset, .unset, .unset, .unset, .unset, .unset, .unset] [(.int p3)])) rfl (hb hby at_2) _ k) ?_
  show own_Goes p e below s _ _ (T.setTop (mkF m 4 #[own_jv q0, .second, own_jv q1, .second, own_jv q2, .second, iv p3, iv p4, iv p5, .unset, .unset, .unset, .unset, .unset, .unset, .unset, .unset] [(.int (2147483647 : Int32)), (.int p3)]))
  refine own_st (fun _ k => XS.iand X.here hx rfl (hb hby at_4) rfl k) ?_
  show own_Goes p e below s _ _ (T.setTop (mkF m 5 #[own_jv q0, .second, own_jv q1, .second, own_jv q2, .second, iv p3, iv p4, iv p5, .unset, .unset, .unset, .unset, .unset, .unset, .unset, .unset] [(.int (p3 &&& (2147483647 : Int32)))]))
  refine own_st (fun _ k => XS.iconst X.here hx rfl (hb hby at_5) k) ?_
  show own_Goes p e below s _ _ (T.setTop (mkF m 6 #[own_jv q0, .second, own_jv q1, .second, own_jv q2, .second, iv p3, iv p4, iv p5, .unset, .unset, .unset, .unset, .unset, .unset, .unset, .unset] [(.int (3 : Int32)), (.int (p3 &&& (2147483647 : Int32)))]))
  refine own_st (fun _ k => iremM X hx rfl (hb hby at_6) rfl (by decide) k) ?_
  show own_Goes p e below s _ _ (T.setTop (mkF m 7 #[own_jv q0, .second, own_jv q1, .second, own_jv q2, .second, iv p3, iv p4, iv p5, .unset, .unset, .unset, .unset, .unset, .unset, .unset, .unset] [(.int ((p3 &&& (2147483647 : Int32)) % (3 : Int32)))]))
  have hfr := own_m3 p3
  generalize ((p3 &&& (2147483647 : Int32)) % (3 : Int32)) = fr at hfr ⊢
  show own_Goes p e below s _ _ (T.setTop (mkF m 7 #[own_jv q0, .second, own_jv q1, .second, own_jv q2, .second, iv p3, iv p4, iv p5, .unset, .unset, .unset, .unset, .unset, .unset, .unset, .unset] [(.int fr)]))
  refine own_st (fun _ k => XS.istore X.here hx rfl (hb hby at_7) rfl (l' := #[own_jv q0, .second, own_jv q1, .second, own_jv q2, .second, iv p3, iv p4, iv p5, iv fr, .unset, .unset, .unset, .unset, .unset, .unset, .unset]) rfl k) ?_
  show own_Goes p e below s _ _ (T.setTop (mkF m 9 #[own_jv q0, .second, own_jv q1, .second, own_jv q2, .second, iv p3, iv p4, iv p5, iv fr, .unset, .unset, .unset, .unset, .unset, .unset, .unset] []))
  refine own_st (fun _ k => XS.iload X.here hx rfl (hb hby at_9) rfl  k) ?_
  show own_Goes p e below s _ _ (T.setTop (mkF m 11 #[own_jv q0, .second, own_jv q1, .second, own_jv q2, .second, iv p3, iv p4, iv p5, iv fr, .unset, .unset, .unset, .unset, .unset, .unset, .unset] [(.int p4)]))
  refine own_st (fun _ k => X.ldcInt hx hown (mvT hZ (hw _ (List.mem_of_getElem? (i := 0) rfl))) (g := (mkF m 11 #[own_jv q0, .second, own_jv q1, .second, own_jv q2, .second, iv p3, iv p4, iv p5, iv fr, .unset, .unset, .unset, .unset, .unset, .unset, .unset] [(.int p4)])) rfl (hb hby at_11) _ k) ?_
  show own_Goes p e below s _ _ (T.setTop (mkF m 13 #[own_jv q0, .second, own_jv q1, .second, own_jv q2, .second, iv p3, iv p4, iv p5, iv fr, .unset, .unset, .unset, .unset, .unset, .unset, .unset] [(.int (2147483647 : Int32)), (.int p4)]))
  refine own_st (fun _ k => XS.iand X.here hx rfl (hb hby at_13) rfl k) ?_
  show own_Goes p e below s _ _ (T.setTop (mkF m 14 #[own_jv q0, .second, own_jv q1, .second, own_jv q2, .second, iv p3, iv p4, iv p5, iv fr, .unset, .unset, .unset, .unset, .unset, .unset, .unset] [(.int (p4 &&& (2147483647 : Int32)))]))
  refine own_st (fun _ k => XS.iconst X.here hx rfl (hb hby at_14) k) ?_
  show own_Goes p e below s _ _ (T.setTop (mkF m 15 #[own_jv q0, .second, own_jv q1, .second, own_jv q2, .second, iv p3, iv p4, iv p5, iv fr, .unset, .unset, .unset, .unset, .unset, .unset, .unset] [(.int (3 : Int32)), (.int (p4 &&& (2147483647 : Int32)))]))
  refine own_st (fun _ k => iremM X hx rfl (hb hby at_15) rfl (by decide) k) ?_
  show own_Goes p e below s _ _ (T.setTop (mkF m 16 #[own_jv q0, .second, own_jv q1, .second, own_jv q2, .second, iv p3, iv p4, iv p5, iv fr, .unset, .unset, .unset, .unset, .unset, .unset, .unset] [(.int ((p4 &&& (2147483647 : Int32)) % (3 : Int32)))]))
  have hto := own_m3 p4
  generalize ((p4 &&& (2147483647 : Int32)) % (3 : Int32)) = to at hto ⊢
  show own_Goes p e below s _ _ (T.setTop (mkF m 16 #[own_jv q0, .second, own_jv q1, .second, own_jv q2, .second, iv p3, iv p4, iv p5, iv fr, .unset, .unset, .unset, .unset, .unset, .unset, .unset] [(.int to)]))
  refine own_st (fun _ k => XS.istore X.here hx rfl (hb hby at_16) rfl (l' := #[own_jv q0, .second, own_jv q1, .second, own_jv q2, .second, iv p3, iv p4, iv p5, iv fr, iv to, .unset, .unset, .unset, .unset, .unset, .unset]) rfl k) ?_
  show own_Goes p e below s _ _ (T.setTop (mkF m 18 #[own_jv q0, .second, own_jv q1, .second, own_jv q2, .second, iv p3, iv p4, iv p5, iv fr, iv to, .unset, .unset, .unset, .unset, .unset, .unset] []))
  refine own_st (fun _ k => XS.iload X.here hx rfl (hb hby at_18) rfl  k) ?_
  show own_Goes p e below s _ _ (T.setTop (mkF m 20 #[own_jv q0, .second, own_jv q1, .second, own_jv q2, .second, iv p3, iv p4, iv p5, iv fr, iv to, .unset, .unset, .unset, .unset, .unset, .unset] [(.int p5)]))
  refine own_st (fun _ k => XS.iconst X.here hx rfl (hb hby at_20) k) ?_
  show own_Goes p e below s _ _ (T.setTop (mkF m 21 #[own_jv q0, .second, own_jv q1, .second, own_jv q2, .second, iv p3, iv p4, iv p5, iv fr, iv to, .unset, .unset, .unset, .unset, .unset, .unset] [(.int (1 : Int32)), (.int p5)]))
  refine own_st (fun _ k => XS.iand X.here hx rfl (hb hby at_21) rfl k) ?_
  show own_Goes p e below s _ _ (T.setTop (mkF m 22 #[own_jv q0, .second, own_jv q1, .second, own_jv q2, .second, iv p3, iv p4, iv p5, iv fr, iv to, .unset, .unset, .unset, .unset, .unset, .unset] [(.int (p5 &&& (1 : Int32)))]))
  by_cases c101 : (p5 &&& (1 : Int32)) = (0 : Int32)
  · have c101i : (p5 &&& (1 : Int32)).toInt = 0 := own_i_eq c101
    refine own_st (fun _ k => XS.ifYes X.here hx rfl (pc0 := 22) (pc' := 29) rfl (hb hby at_22) rfl ((if0 _ _).trans (teq c101).1) (by decide) (by decide) k) ?_
    show own_Goes p e below s _ _ (T.setTop (mkF m 29 #[own_jv q0, .second, own_jv q1, .second, own_jv q2, .second, iv p3, iv p4, iv p5, iv fr, iv to, .unset, .unset, .unset, .unset, .unset, .unset] []))
    refine own_st (fun _ k => XS.iconst X.here hx rfl (hb hby at_29) k) ?_
    show own_Goes p e below s _ _ (T.setTop (mkF m 30 #[own_jv q0, .second, own_jv q1, .second, own_jv q2, .second, iv p3, iv p4, iv p5, iv fr, iv to, .unset, .unset, .unset, .unset, .unset, .unset] [(.int (0 : Int32))]))
    refine own_st (fun _ k => XS.istore X.here hx rfl (hb hby at_30) rfl (l' := #[own_jv q0, .second, own_jv q1, .second, own_jv q2, .second, iv p3, iv p4, iv p5, iv fr, iv to, iv (0 : Int32), .unset, .unset, .unset, .unset, .unset]) rfl k) ?_
    show own_Goes p e below s _ _ (T.setTop (mkF m 32 #[own_jv q0, .second, own_jv q1, .second, own_jv q2, .second, iv p3, iv p4, iv p5, iv fr, iv to, iv (0 : Int32), .unset, .unset, .unset, .unset, .unset] []))
    obtain ⟨T102, h102, X102, e102, E102, A102, D102, -, st102⟩ := newO X hx hZ hown (hw _ (List.mem_of_getElem? (i := 1) rfl)) (hw _ (List.mem_of_getElem? (i := 2) rfl)) (hw _ (List.mem_of_getElem? (i := 3) rfl)) e0 (g := (mkF m 32 #[own_jv q0, .second, own_jv q1, .second, own_jv q2, .second, iv p3, iv p4, iv p5, iv fr, iv to, iv (0 : Int32), .unset, .unset, .unset, .unset, .unset] [])) rfl (hb hby at_32) (by decide) (by decide)
    obtain ⟨b102, g102⟩ : ∃ z, z = h0.size := ⟨_, rfl⟩
    rw [← g102] at A102 D102 st102
    have y102 := own_lt A102.lt
    have z102 := E102.1
    have F102_codes : Fld Z h102 b102 "com/example/reach2/reach2/model/CodedColumn" "codes" "[B" .null := D102 (Or.inl (hw _ (List.mem_of_getElem? (i := 17) rfl))) (ty := (.array .byte)) (by decide)
    have F102_values : Fld Z h102 b102 "com/example/reach2/reach2/model/CodedColumn" "values" "[J" .null := D102 (Or.inl (hw _ (List.mem_of_getElem? (i := 19) rfl))) (ty := (.array .long)) (by decide)
    have F102_lookup : Fld Z h102 b102 "com/example/reach2/reach2/model/CodedColumn" "lookup" "[S" .null := D102 (Or.inl (hw _ (List.mem_of_getElem? (i := 21) rfl))) (ty := (.array .short)) (by decide)
    have F102_distinct : Fld Z h102 b102 "com/example/reach2/reach2/model/CodedColumn" "distinct" "I" (.int (0 : Int32)) := D102 (Or.inl (hw _ (List.mem_of_getElem? (i := 23) rfl))) (ty := .int) (by decide)
    have F102_plain : Fld Z h102 b102 "com/example/reach2/reach2/model/CodedColumn" "plain" "[J" .null := D102 (Or.inl (hw _ (List.mem_of_getElem? (i := 25) rfl))) (ty := (.array .long)) (by decide)
    refine own_st st102 ?_
    show own_Goes p e below s _ _ (T102.setTop (mkF m 35 #[own_jv q0, .second, own_jv q1, .second, own_jv q2, .second, iv p3, iv p4, iv p5, iv fr, iv to, iv (0 : Int32), .unset, .unset, .unset, .unset, .unset] [(.ref b102)]))
    refine own_st (fun _ k => XS.dup X102.here hx rfl (hb hby at_35) rfl rfl k) ?_
    show own_Goes p e below s _ _ (T102.setTop (mkF m 36 #[own_jv q0, .second, own_jv q1, .second, own_jv q2, .second, iv p3, iv p4, iv p5, iv fr, iv to, iv (0 : Int32), .unset, .unset, .unset, .unset, .unset] [(.ref b102), (.ref b102)]))
    refine own_st (fun _ k => XS.iconst X102.here hx rfl (hb hby at_36) k) ?_
    show own_Goes p e below s _ _ (T102.setTop (mkF m 37 #[own_jv q0, .second, own_jv q1, .second, own_jv q2, .second, iv p3, iv p4, iv p5, iv fr, iv to, iv (0 : Int32), .unset, .unset, .unset, .unset, .unset] [(.int (3 : Int32)), (.ref b102), (.ref b102)]))
    obtain ⟨v103, T103, L103, X103, Q103, st103⟩ := own_callI X102 hx hZ (y := (⟨"com/example/reach2/reach2/model/CodedColumn", "<init>", "(I)V"⟩ : MethodName)) hown (hw _ (List.mem_of_getElem? (i := 4) rfl)) (hw _ (List.mem_of_getElem? (i := 5) rfl)) (hw _ (List.mem_of_getElem? (i := 3) rfl)) (hw _ (List.mem_of_getElem? (i := 6) rfl)) rfl (by decide) (W := 1) (rest := [(.ref b102)]) (argsL := [(.int (3 : Int32))]) (a := b102) (rmI1 l Z a0 hw [] b102 _ _ _ _ _  h102 n0 (by omega) A102 F102_codes F102_values F102_lookup F102_distinct F102_plain (by omega) (by omega)) (by decide) (by decide) (by decide) (by decide) e102 own_pd2 rfl (g := (mkF m 37 #[own_jv q0, .second, own_jv q1, .second, own_jv q2, .second, iv p3, iv p4, iv p5, iv fr, iv to, iv (0 : Int32), .unset, .unset, .unset, .unset, .unset] [(.int (3 : Int32)), (.ref b102), (.ref b102)])) rfl (by rw [hml]; rfl) rfl (by show 2 * 0 + _ ≤ _; exact Nat.le_of_eq rfl) (hb hby at_37)
    obtain ⟨ac103, av103, al103, rfl, N103q, K103, g103a, g103b, g103c, g103d, A103, F103_codes, F103_values, F103_lookup, F103_distinct, F103_plain, Vc103, Vv103, Vl103, Yv103, Yl103⟩ := Q103
    have z103 := K103.1
    have N103 := Fr.app N0 N103q
    refine own_st st103 ?_
    show own_Goes p e below s _ _ (T103.setTop (mkF m 40 #[own_jv q0, .second, own_jv q1, .second, own_jv q2, .second, iv p3, iv p4, iv p5, iv fr, iv to, iv (0 : Int32), .unset, .unset, .unset, .unset, .unset] [(.ref b102)]))
    refine own_st (fun _ k => XS.astore X103.here hx rfl (hb hby at_40) rfl rfl (l' := #[own_jv q0, .second, own_jv q1, .second, own_jv q2, .second, iv p3, iv p4, iv p5, iv fr, iv to, iv (0 : Int32), rv b102, .unset, .unset, .unset, .unset]) rfl k) ?_
    show own_Goes p e below s _ _ (T103.setTop (mkF m 42 #[own_jv q0, .second, own_jv q1, .second, own_jv q2, .second, iv p3, iv p4, iv p5, iv fr, iv to, iv (0 : Int32), rv b102, .unset, .unset, .unset, .unset] []))
    refine own_st (fun _ k => XS.aload X103.here hx rfl (hb hby at_42) rfl rfl  k) ?_
    show own_Goes p e below s _ _ (T103.setTop (mkF m 44 #[own_jv q0, .second, own_jv q1, .second, own_jv q2, .second, iv p3, iv p4, iv p5, iv fr, iv to, iv (0 : Int32), rv b102, .unset, .unset, .unset, .unset] [(.ref b102)]))
    refine own_st (fun _ k => XS.iconst X103.here hx rfl (hb hby at_44) k) ?_
    show own_Goes p e below s _ _ (T103.setTop (mkF m 45 #[own_jv q0, .second, own_jv q1, .second, own_jv q2, .second, iv p3, iv p4, iv p5, iv fr, iv to, iv (0 : Int32), rv b102, .unset, .unset, .unset, .unset] [(.int (0 : Int32)), (.ref b102)]))
    refine own_st (fun _ k => XS.lloadN X103.here hx rfl (hb hby at_45) rfl  k) ?_
    show own_Goes p e below s _ _ (T103.setTop (mkF m 46 #[own_jv q0, .second, own_jv q1, .second, own_jv q2, .second, iv p3, iv p4, iv p5, iv fr, iv to, iv (0 : Int32), rv b102, .unset, .unset, .unset, .unset] [(.long q0), (.int (0 : Int32)), (.ref b102)]))
    have ho105 : ([] : List Nat).length ≤ 3 := by decide
    have hd105 : 0 ≤ (0 : Int32).toInt ∧ (0 : Int32).toInt ≤ 100 := by decide
    have f106 := (own_sta_keep (S1.ext E102) K103 (own_pl1 A102))
    obtain ⟨v104, T104, L104, X104, Q104, st104⟩ := own_callV X103 hx hZ (C := "com/example/reach2/reach2/model/CodedColumn") (y := (⟨"com/example/reach2/reach2/model/CodedColumn", "set", "(IJ)V"⟩ : MethodName)) hown (hw _ (List.mem_of_getElem? (i := 26) rfl)) (hw _ (List.mem_of_getElem? (i := 27) rfl)) (hw _ (List.mem_of_getElem? (i := 29) rfl)) (hw _ (List.mem_of_getElem? (i := 28) rfl)) (hw _ (List.mem_of_getElem? (i := 3) rfl)) (hw _ (List.mem_of_getElem? (i := 30) rfl)) (by decide) (W := 0) (rest := []) (argsL := [(.int (0 : Int32)), (.long q0)]) (a := b102) (rmSet l Z a0 hw [] b102 (0 : Int32) q0 ac103 av103 al103 _ _ _ _ ([] : List Nat) T103.heap n0 (by omega) A103 F103_distinct F103_values F103_lookup F103_codes Vv103 Vl103 f106 hd105 ho105 (own_LK0 (0 : Int32) (by decide)) (by omega) (by omega) (by omega) (by omega) (by omega) (by omega) Vc103 (by omega) (by omega) (by omega) (by omega) (by decide)) (by decide) (by decide) (by decide) (by decide) rfl A103 own_pd3 rfl (g := (mkF m 46 #[own_jv q0, .second, own_jv q1, .second, own_jv q2, .second, iv p3, iv p4, iv p5, iv fr, iv to, iv (0 : Int32), rv b102, .unset, .unset, .unset, .unset] [(.long q0), (.int (0 : Int32)), (.ref b102)])) rfl (by rw [hml]; rfl) rfl (by show 2 * 0 + _ ≤ _; exact Nat.le_of_eq rfl) (hb hby at_46)
    obtain ⟨r104, d104, V104, K104f, occ104, rfl, N104q, K104, A104, Fc104, Fd104, Fv104, Fl104, Vc104, Vv104, Vl104, hcp104, hoc104, hlk104, S104⟩ := Q104
    have z104 := K104.1
    obtain ⟨ra104, rb104, rc104, rd104, re104, rf104⟩ := hcp104
    have rn104 := own_nat ra104
    have Vd104 : own_Arf Z T104.heap ac103 .byte 3 (fun k => .int ((fun k => if k = 0 then (nar .byte (r104.toInt8.toInt32)) else (fun _ => (0 : Int32)) k) k)) := Vc104
    have ho104' : occ104.length ≤ 1 := hoc104
    have rd104' : d104.toInt ≤ 1 := rd104
    have rc104' : 0 ≤ d104.toInt := rc104
    have N104 := Fr.app N103 N104q
    refine own_st st104 ?_
    show own_Goes p e below s _ _ (T104.setTop (mkF m 49 #[own_jv q0, .second, own_jv q1, .second, own_jv q2, .second, iv p3, iv p4, iv p5, iv fr, iv to, iv (0 : Int32), rv b102, .unset, .unset, .unset, .unset] []))
    refine own_st (fun _ k => XS.aload X104.here hx rfl (hb hby at_49) rfl rfl  k) ?_
    show own_Goes p e below s _ _ (T104.setTop (mkF m 51 #[own_jv q0, .second, own_jv q1, .second, own_jv q2, .second, iv p3, iv p4, iv p5, iv fr, iv to, iv (0 : Int32), rv b102, .unset, .unset, .unset, .unset] [(.ref b102)]))
    refine own_st (fun _ k => XS.iconst X104.here hx rfl (hb hby at_51) k) ?_
    show own_Goes p e below s _ _ (T104.setTop (mkF m 52 #[own_jv q0, .second, own_jv q1, .second, own_jv q2, .second, iv p3, iv p4, iv p5, iv fr, iv to, iv (0 : Int32), rv b102, .unset, .unset, .unset, .unset] [(.int (1 : Int32)), (.ref b102)]))
    refine own_st (fun _ k => XS.lloadN X104.here hx rfl (hb hby at_52) rfl  k) ?_
    show own_Goes p e below s _ _ (T104.setTop (mkF m 53 #[own_jv q0, .second, own_jv q1, .second, own_jv q2, .second, iv p3, iv p4, iv p5, iv fr, iv to, iv (0 : Int32), rv b102, .unset, .unset, .unset, .unset] [(.long q1), (.int (1 : Int32)), (.ref b102)]))
    have ho108 : occ104.length ≤ 3 := by omega
    have hd108 : 0 ≤ d104.toInt ∧ d104.toInt ≤ 100 := by omega
    obtain ⟨v107, T107, L107, X107, Q107, st107⟩ := own_callV X104 hx hZ (C := "com/example/reach2/reach2/model/CodedColumn") (y := (⟨"com/example/reach2/reach2/model/CodedColumn", "set", "(IJ)V"⟩ : MethodName)) hown (hw _ (List.mem_of_getElem? (i := 26) rfl)) (hw _ (List.mem_of_getElem? (i := 27) rfl)) (hw _ (List.mem_of_getElem? (i := 29) rfl)) (hw _ (List.mem_of_getElem? (i := 28) rfl)) (hw _ (List.mem_of_getElem? (i := 3) rfl)) (hw _ (List.mem_of_getElem? (i := 30) rfl)) (by decide) (W := 0) (rest := []) (argsL := [(.int (1 : Int32)), (.long q1)]) (a := b102) (rmSet l Z a0 hw [] b102 (1 : Int32) q1 ac103 av103 al103 _ _ _ _ occ104 T104.heap n0 (by omega) A104 Fd104 Fv104 Fl104 Fc104 Vv104 Vl104 S104 hd108 ho108 hlk104 (by omega) (by omega) (by omega) (by omega) (by omega) (by omega) Vd104 (by omega) (by omega) (by omega) (by omega) (by decide)) (by decide) (by decide) (by decide) (by decide) rfl A104 own_pd3 rfl (g := (mkF m 53 #[own_jv q0, .second, own_jv q1, .second, own_jv q2, .second, iv p3, iv p4, iv p5, iv fr, iv to, iv (0 : Int32), rv b102, .unset, .unset, .unset, .unset] [(.long q1), (.int (1 : Int32)), (.ref b102)])) rfl (by rw [hml]; rfl) rfl (by show 2 * 0 + _ ≤ _; exact Nat.le_of_eq rfl) (hb hby at_53)
    obtain ⟨r107, d107, V107, K107f, occ107, rfl, N107q, K107, A107, Fc107, Fd107, Fv107, Fl107, Vc107, Vv107, Vl107, hcp107, hoc107, hlk107, S107⟩ := Q107
    have z107 := K107.1
    obtain ⟨ra107, rb107, rc107, rd107, re107, rf107⟩ := hcp107
    have rn107 := own_nat ra107
    have Vd107 : own_Arf Z T107.heap ac103 .byte 3 (fun k => .int ((fun k => if k = 1 then (nar .byte (r107.toInt8.toInt32)) else (fun k => if k = 0 then (nar .byte (r104.toInt8.toInt32)) else (fun _ => (0 : Int32)) k) k) k)) := Vc107
    have N107 := Fr.app N104 N107q
    refine own_st st107 ?_
    show own_Goes p e below s _ _ (T107.setTop (mkF m 56 #[own_jv q0, .second, own_jv q1, .second, own_jv q2, .second, iv p3, iv p4, iv p5, iv fr, iv to, iv (0 : Int32), rv b102, .unset, .unset, .unset, .unset] []))
    refine own_st (fun _ k => XS.aload X107.here hx rfl (hb hby at_56) rfl rfl  k) ?_
    show own_Goes p e below s _ _ (T107.setTop (mkF m 58 #[own_jv q0, .second, own_jv q1, .second, own_jv q2, .second, iv p3, iv p4, iv p5, iv fr, iv to, iv (0 : Int32), rv b102, .unset, .unset, .unset, .unset] [(.ref b102)]))
    refine own_st (fun _ k => XS.iconst X107.here hx rfl (hb hby at_58) k) ?_
    show own_Goes p e below s _ _ (T107.setTop (mkF m 59 #[own_jv q0, .second, own_jv q1, .second, own_jv q2, .second, iv p3, iv p4, iv p5, iv fr, iv to, iv (0 : Int32), rv b102, .unset, .unset, .unset, .unset] [(.int (2 : Int32)), (.ref b102)]))
    refine own_st (fun _ k => XS.lload X107.here hx rfl (hb hby at_59) rfl  k) ?_
    show own_Goes p e below s _ _ (T107.setTop (mkF m 61 #[own_jv q0, .second, own_jv q1, .second, own_jv q2, .second, iv p3, iv p4, iv p5, iv fr, iv to, iv (0 : Int32), rv b102, .unset, .unset, .unset, .unset] [(.long q2), (.int (2 : Int32)), (.ref b102)]))
    have ho110 : occ107.length ≤ 3 := by omega
    have hd110 : 0 ≤ d107.toInt ∧ d107.toInt ≤ 100 := by omega
    obtain ⟨v109, T109, L109, X109, Q109, st109⟩ := own_callV X107 hx hZ (C := "com/example/reach2/reach2/model/CodedColumn") (y := (⟨"com/example/reach2/reach2/model/CodedColumn", "set", "(IJ)V"⟩ : MethodName)) hown (hw _ (List.mem_of_getElem? (i := 26) rfl)) (hw _ (List.mem_of_getElem? (i := 27) rfl)) (hw _ (List.mem_of_getElem? (i := 29) rfl)) (hw _ (List.mem_of_getElem? (i := 28) rfl)) (hw _ (List.mem_of_getElem? (i := 3) rfl)) (hw _ (List.mem_of_getElem? (i := 30) rfl)) (by decide) (W := 0) (rest := []) (argsL := [(.int (2 : Int32)), (.long q2)]) (a := b102) (rmSet l Z a0 hw [] b102 (2 : Int32) q2 ac103 av103 al103 _ _ _ _ occ107 T107.heap n0 (by omega) A107 Fd107 Fv107 Fl107 Fc107 Vv107 Vl107 S107 hd110 ho110 hlk107 (by omega) (by omega) (by omega) (by omega) (by omega) (by omega) Vd107 (by omega) (by omega) (by omega) (by omega) (by decide)) (by decide) (by decide) (by decide) (by decide) rfl A107 own_pd3 rfl (g := (mkF m 61 #[own_jv q0, .second, own_jv q1, .second, own_jv q2, .second, iv p3, iv p4, iv p5, iv fr, iv to, iv (0 : Int32), rv b102, .unset, .unset, .unset, .unset] [(.long q2), (.int (2 : Int32)), (.ref b102)])) rfl (by rw [hml]; rfl) rfl (by show 2 * 0 + _ ≤ _; exact Nat.le_of_eq rfl) (hb hby at_61)
    obtain ⟨r109, d109, V109, K109f, occ109, rfl, N109q, K109, A109, Fc109, Fd109, Fv109, Fl109, Vc109, Vv109, Vl109, hcp109, hoc109, hlk109, S109⟩ := Q109
    have z109 := K109.1
    obtain ⟨ra109, rb109, rc109, rd109, re109, rf109⟩ := hcp109
    have rn109 := own_nat ra109
    have Vd109 : own_Arf Z T109.heap ac103 .byte 3 (fun k => .int ((fun k => if k = 2 then (nar .byte (r109.toInt8.toInt32)) else (fun k => if k = 1 then (nar .byte (r107.toInt8.toInt32)) else (fun k => if k = 0 then (nar .byte (r104.toInt8.toInt32)) else (fun _ => (0 : Int32)) k) k) k) k)) := Vc109
    have N109 := Fr.app N107 N109q
    refine own_st st109 ?_
    show own_Goes p e below s _ _ (T109.setTop (mkF m 64 #[own_jv q0, .second, own_jv q1, .second, own_jv q2, .second, iv p3, iv p4, iv p5, iv fr, iv to, iv (0 : Int32), rv b102, .unset, .unset, .unset, .unset] []))
    refine own_st (fun _ k => XS.iconst X109.here hx rfl (hb hby at_64) k) ?_
    show own_Goes p e below s _ _ (T109.setTop (mkF m 65 #[own_jv q0, .second, own_jv q1, .second, own_jv q2, .second, iv p3, iv p4, iv p5, iv fr, iv to, iv (0 : Int32), rv b102, .unset, .unset, .unset, .unset] [(.int (3 : Int32))]))
    obtain ⟨T111, h111, X111, e111, E111, A111, st111⟩ := own_newP X109 hx hZ (aty := .long) (hw _ (List.mem_of_getElem? (i := 8) rfl)) rfl (g := (mkF m 65 #[own_jv q0, .second, own_jv q1, .second, own_jv q2, .second, iv p3, iv p4, iv p5, iv fr, iv to, iv (0 : Int32), rv b102, .unset, .unset, .unset, .unset] [(.int (3 : Int32))])) rfl (hb hby at_65) rfl (by decide) (cap := 3) (by decide) (by decide) (by decide) (by decide)
    obtain ⟨b111, g111⟩ : ∃ z, z = T109.heap.size := ⟨_, rfl⟩
    rw [← g111] at A111 st111
    have V111 : own_Arf Z h111 b111 .long 3 (fun k => .long ((fun _ => (0 : Int64)) k)) := A111
    have y111 := own_lt V111.lt
    have z111 := E111.1
    refine own_st st111 ?_
    show own_Goes p e below s _ _ (T111.setTop (mkF m 67 #[own_jv q0, .second, own_jv q1, .second, own_jv q2, .second, iv p3, iv p4, iv p5, iv fr, iv to, iv (0 : Int32), rv b102, .unset, .unset, .unset, .unset] [(.ref b111)]))
    refine own_st (fun _ k => XS.dup X111.here hx rfl (hb hby at_67) rfl rfl k) ?_
    show own_Goes p e below s _ _ (T111.setTop (mkF m 68 #[own_jv q0, .second, own_jv q1, .second, own_jv q2, .second, iv p3, iv p4, iv p5, iv fr, iv to, iv (0 : Int32), rv b102, .unset, .unset, .unset, .unset] [(.ref b111), (.ref b111)]))
    refine own_st (fun _ k => XS.iconst X111.here hx rfl (hb hby at_68) k) ?_
    show own_Goes p e below s _ _ (T111.setTop (mkF m 69 #[own_jv q0, .second, own_jv q1, .second, own_jv q2, .second, iv p3, iv p4, iv p5, iv fr, iv to, iv (0 : Int32), rv b102, .unset, .unset, .unset, .unset] [(.int (0 : Int32)), (.ref b111), (.ref b111)]))
    refine own_st (fun _ k => XS.lloadN X111.here hx rfl (hb hby at_69) rfl  k) ?_
    show own_Goes p e below s _ _ (T111.setTop (mkF m 70 #[own_jv q0, .second, own_jv q1, .second, own_jv q2, .second, iv p3, iv p4, iv p5, iv fr, iv to, iv (0 : Int32), rv b102, .unset, .unset, .unset, .unset] [(.long q0), (.int (0 : Int32)), (.ref b111), (.ref b111)]))
    obtain ⟨T112, h112, X112, e112, W112, A112, st112⟩ := own_stJ X111 hx hZ e111 V111 (j := (0 : Int32)) (by decide) (g := (mkF m 70 #[own_jv q0, .second, own_jv q1, .second, own_jv q2, .second, iv p3, iv p4, iv p5, iv fr, iv to, iv (0 : Int32), rv b102, .unset, .unset, .unset, .unset] [(.long q0), (.int (0 : Int32)), (.ref b111), (.ref b111)])) rfl rfl (hb hby at_70)
    have V112 : own_Arf Z h112 b111 .long 3 (fun k => .long ((fun k => if k = 0 then q0 else (fun _ => (0 : Int64)) k) k)) := A112
    have z112 := W112.size
    have N112 := Fr.snoc X112 N109 (by omega)
    refine own_st st112 ?_
    show own_Goes p e below s _ _ (T112.setTop (mkF m 71 #[own_jv q0, .second, own_jv q1, .second, own_jv q2, .second, iv p3, iv p4, iv p5, iv fr, iv to, iv (0 : Int32), rv b102, .unset, .unset, .unset, .unset] [(.ref b111)]))
    refine own_st (fun _ k => XS.dup X112.here hx rfl (hb hby at_71) rfl rfl k) ?_
    show own_Goes p e below s _ _ (T112.setTop (mkF m 72 #[own_jv q0, .second, own_jv q1, .second, own_jv q2, .second, iv p3, iv p4, iv p5, iv fr, iv to, iv (0 : Int32), rv b102, .unset, .unset, .unset, .unset] [(.ref b111), (.ref b111)]))
    refine own_st (fun _ k => XS.iconst X112.here hx rfl (hb hby at_72) k) ?_
    show own_Goes p e below s _ _ (T112.setTop (mkF m 73 #[own_jv q0, .second, own_jv q1, .second, own_jv q2, .second, iv p3, iv p4, iv p5, iv fr, iv to, iv (0 : Int32), rv b102, .unset, .unset, .unset, .unset] [(.int (1 : Int32)), (.ref b111), (.ref b111)]))
    refine own_st (fun _ k => XS.lloadN X112.here hx rfl (hb hby at_73) rfl  k) ?_
    show own_Goes p e below s _ _ (T112.setTop (mkF m 74 #[own_jv q0, .second, own_jv q1, .second, own_jv q2, .second, iv p3, iv p4, iv p5, iv fr, iv to, iv (0 : Int32), rv b102, .unset, .unset, .unset, .unset] [(.long q1), (.int (1 : Int32)), (.ref b111), (.ref b111)]))
    obtain ⟨T113, h113, X113, e113, W113, A113, st113⟩ := own_stJ X112 hx hZ e112 V112 (j := (1 : Int32)) (by decide) (g := (mkF m 74 #[own_jv q0, .second, own_jv q1, .second, own_jv q2, .second, iv p3, iv p4, iv p5, iv fr, iv to, iv (0 : Int32), rv b102, .unset, .unset, .unset, .unset] [(.long q1), (.int (1 : Int32)), (.ref b111), (.ref b111)])) rfl rfl (hb hby at_74)
    have V113 : own_Arf Z h113 b111 .long 3 (fun k => .long ((fun k => if k = 1 then q1 else (fun k => if k = 0 then q0 else (fun _ => (0 : Int64)) k) k) k)) := A113
    have z113 := W113.size
    have N113 := Fr.snoc X113 N112 (by omega)
    refine own_st st113 ?_
    show own_Goes p e below s _ _ (T113.setTop (mkF m 75 #[own_jv q0, .second, own_jv q1, .second, own_jv q2, .second, iv p3, iv p4, iv p5, iv fr, iv to, iv (0 : Int32), rv b102, .unset, .unset, .unset, .unset] [(.ref b111)]))
    refine own_st (fun _ k => XS.dup X113.here hx rfl (hb hby at_75) rfl rfl k) ?_
    show own_Goes p e below s _ _ (T113.setTop (mkF m 76 #[own_jv q0, .second, own_jv q1, .second, own_jv q2, .second, iv p3, iv p4, iv p5, iv fr, iv to, iv (0 : Int32), rv b102, .unset, .unset, .unset, .unset] [(.ref b111), (.ref b111)]))
    refine own_st (fun _ k => XS.iconst X113.here hx rfl (hb hby at_76) k) ?_
    show own_Goes p e below s _ _ (T113.setTop (mkF m 77 #[own_jv q0, .second, own_jv q1, .second, own_jv q2, .second, iv p3, iv p4, iv p5, iv fr, iv to, iv (0 : Int32), rv b102, .unset, .unset, .unset, .unset] [(.int (2 : Int32)), (.ref b111), (.ref b111)]))
    refine own_st (fun _ k => XS.lload X113.here hx rfl (hb hby at_77) rfl  k) ?_
    show own_Goes p e below s _ _ (T113.setTop (mkF m 79 #[own_jv q0, .second, own_jv q1, .second, own_jv q2, .second, iv p3, iv p4, iv p5, iv fr, iv to, iv (0 : Int32), rv b102, .unset, .unset, .unset, .unset] [(.long q2), (.int (2 : Int32)), (.ref b111), (.ref b111)]))
    obtain ⟨T114, h114, X114, e114, W114, A114, st114⟩ := own_stJ X113 hx hZ e113 V113 (j := (2 : Int32)) (by decide) (g := (mkF m 79 #[own_jv q0, .second, own_jv q1, .second, own_jv q2, .second, iv p3, iv p4, iv p5, iv fr, iv to, iv (0 : Int32), rv b102, .unset, .unset, .unset, .unset] [(.long q2), (.int (2 : Int32)), (.ref b111), (.ref b111)])) rfl rfl (hb hby at_79)
    have V114 : own_Arf Z h114 b111 .long 3 (fun k => .long ((fun k => if k = 2 then q2 else (fun k => if k = 1 then q1 else (fun k => if k = 0 then q0 else (fun _ => (0 : Int64)) k) k) k) k)) := A114
    have z114 := W114.size
    have N114 := Fr.snoc X114 N113 (by omega)
    refine own_st st114 ?_
    show own_Goes p e below s _ _ (T114.setTop (mkF m 80 #[own_jv q0, .second, own_jv q1, .second, own_jv q2, .second, iv p3, iv p4, iv p5, iv fr, iv to, iv (0 : Int32), rv b102, .unset, .unset, .unset, .unset] [(.ref b111)]))
    refine own_st (fun _ k => XS.astore X114.here hx rfl (hb hby at_80) rfl rfl (l' := #[own_jv q0, .second, own_jv q1, .second, own_jv q2, .second, iv p3, iv p4, iv p5, iv fr, iv to, iv (0 : Int32), rv b102, rv b111, .unset, .unset, .unset]) rfl k) ?_
    show own_Goes p e below s _ _ (T114.setTop (mkF m 82 #[own_jv q0, .second, own_jv q1, .second, own_jv q2, .second, iv p3, iv p4, iv p5, iv fr, iv to, iv (0 : Int32), rv b102, rv b111, .unset, .unset, .unset] []))
    refine own_st (fun _ k => XS.iload X114.here hx rfl (hb hby at_82) rfl  k) ?_
    show own_Goes p e below s _ _ (T114.setTop (mkF m 84 #[own_jv q0, .second, own_jv q1, .second, own_jv q2, .second, iv p3, iv p4, iv p5, iv fr, iv to, iv (0 : Int32), rv b102, rv b111, .unset, .unset, .unset] [(.int (0 : Int32))]))
    refine own_st (fun _ k => XS.ifYes X114.here hx rfl (pc0 := 84) (pc' := 106) rfl (hb hby at_84) rfl ((if0 _ _).trans (teq (by decide : (0 : Int32) = (0 : Int32))).1) (by decide) (by decide) k) ?_
    show own_Goes p e below s _ _ (T114.setTop (mkF m 106 #[own_jv q0, .second, own_jv q1, .second, own_jv q2, .second, iv p3, iv p4, iv p5, iv fr, iv to, iv (0 : Int32), rv b102, rv b111, .unset, .unset, .unset] []))
    refine own_st (fun _ k => XS.iconst X114.here hx rfl (hb hby at_106) k) ?_
    show own_Goes p e below s _ _ (T114.setTop (mkF m 107 #[own_jv q0, .second, own_jv q1, .second, own_jv q2, .second, iv p3, iv p4, iv p5, iv fr, iv to, iv (0 : Int32), rv b102, rv b111, .unset, .unset, .unset] [(.int (3 : Int32))]))
    obtain ⟨T115, h115, X115, e115, E115, A115, st115⟩ := own_newP X114 hx hZ (aty := .long) (hw _ (List.mem_of_getElem? (i := 8) rfl)) e114 (g := (mkF m 107 #[own_jv q0, .second, own_jv q1, .second, own_jv q2, .second, iv p3, iv p4, iv p5, iv fr, iv to, iv (0 : Int32), rv b102, rv b111, .unset, .unset, .unset] [(.int (3 : Int32))])) rfl (hb hby at_107) rfl (by decide) (cap := 3) (by decide) (by decide) (by decide) (by decide)
    obtain ⟨b115, g115⟩ : ∃ z, z = h114.size := ⟨_, rfl⟩
    rw [← g115] at A115 st115
    have V115 : own_Arf Z h115 b115 .long 3 (fun k => .long ((fun _ => (0 : Int64)) k)) := A115
    have y115 := own_lt V115.lt
    have z115 := E115.1
    refine own_st st115 ?_
    show own_Goes p e below s _ _ (T115.setTop (mkF m 109 #[own_jv q0, .second, own_jv q1, .second, own_jv q2, .second, iv p3, iv p4, iv p5, iv fr, iv to, iv (0 : Int32), rv b102, rv b111, .unset, .unset, .unset] [(.ref b115)]))
    refine own_st (fun _ k => XS.dup X115.here hx rfl (hb hby at_109) rfl rfl k) ?_
    show own_Goes p e below s _ _ (T115.setTop (mkF m 110 #[own_jv q0, .second, own_jv q1, .second, own_jv q2, .second, iv p3, iv p4, iv p5, iv fr, iv to, iv (0 : Int32), rv b102, rv b111, .unset, .unset, .unset] [(.ref b115), (.ref b115)]))
    refine own_st (fun _ k => XS.iconst X115.here hx rfl (hb hby at_110) k) ?_
    show own_Goes p e below s _ _ (T115.setTop (mkF m 111 #[own_jv q0, .second, own_jv q1, .second, own_jv q2, .second, iv p3, iv p4, iv p5, iv fr, iv to, iv (0 : Int32), rv b102, rv b111, .unset, .unset, .unset] [(.int (0 : Int32)), (.ref b115), (.ref b115)]))
    refine own_st (fun _ k => XS.lloadN X115.here hx rfl (hb hby at_111) rfl  k) ?_
    show own_Goes p e below s _ _ (T115.setTop (mkF m 112 #[own_jv q0, .second, own_jv q1, .second, own_jv q2, .second, iv p3, iv p4, iv p5, iv fr, iv to, iv (0 : Int32), rv b102, rv b111, .unset, .unset, .unset] [(.long q0), (.int (0 : Int32)), (.ref b115), (.ref b115)]))
    obtain ⟨T116, h116, X116, e116, W116, A116, st116⟩ := own_stJ X115 hx hZ e115 V115 (j := (0 : Int32)) (by decide) (g := (mkF m 112 #[own_jv q0, .second, own_jv q1, .second, own_jv q2, .second, iv p3, iv p4, iv p5, iv fr, iv to, iv (0 : Int32), rv b102, rv b111, .unset, .unset, .unset] [(.long q0), (.int (0 : Int32)), (.ref b115), (.ref b115)])) rfl rfl (hb hby at_112)
    have V116 : own_Arf Z h116 b115 .long 3 (fun k => .long ((fun k => if k = 0 then q0 else (fun _ => (0 : Int64)) k) k)) := A116
    have z116 := W116.size
    have N116 := Fr.snoc X116 N114 (by omega)
    refine own_st st116 ?_
    show own_Goes p e below s _ _ (T116.setTop (mkF m 113 #[own_jv q0, .second, own_jv q1, .second, own_jv q2, .second, iv p3, iv p4, iv p5, iv fr, iv to, iv (0 : Int32), rv b102, rv b111, .unset, .unset, .unset] [(.ref b115)]))
    refine own_st (fun _ k => XS.dup X116.here hx rfl (hb hby at_113) rfl rfl k) ?_
    show own_Goes p e below s _ _ (T116.setTop (mkF m 114 #[own_jv q0, .second, own_jv q1, .second, own_jv q2, .second, iv p3, iv p4, iv p5, iv fr, iv to, iv (0 : Int32), rv b102, rv b111, .unset, .unset, .unset] [(.ref b115), (.ref b115)]))
    refine own_st (fun _ k => XS.iconst X116.here hx rfl (hb hby at_114) k) ?_
    show own_Goes p e below s _ _ (T116.setTop (mkF m 115 #[own_jv q0, .second, own_jv q1, .second, own_jv q2, .second, iv p3, iv p4, iv p5, iv fr, iv to, iv (0 : Int32), rv b102, rv b111, .unset, .unset, .unset] [(.int (1 : Int32)), (.ref b115), (.ref b115)]))
    refine own_st (fun _ k => XS.lloadN X116.here hx rfl (hb hby at_115) rfl  k) ?_
    show own_Goes p e below s _ _ (T116.setTop (mkF m 116 #[own_jv q0, .second, own_jv q1, .second, own_jv q2, .second, iv p3, iv p4, iv p5, iv fr, iv to, iv (0 : Int32), rv b102, rv b111, .unset, .unset, .unset] [(.long q0), (.int (1 : Int32)), (.ref b115), (.ref b115)]))
    obtain ⟨T117, h117, X117, e117, W117, A117, st117⟩ := own_stJ X116 hx hZ e116 V116 (j := (1 : Int32)) (by decide) (g := (mkF m 116 #[own_jv q0, .second, own_jv q1, .second, own_jv q2, .second, iv p3, iv p4, iv p5, iv fr, iv to, iv (0 : Int32), rv b102, rv b111, .unset, .unset, .unset] [(.long q0), (.int (1 : Int32)), (.ref b115), (.ref b115)])) rfl rfl (hb hby at_116)
    have V117 : own_Arf Z h117 b115 .long 3 (fun k => .long ((fun k => if k = 1 then q0 else (fun k => if k = 0 then q0 else (fun _ => (0 : Int64)) k) k) k)) := A117
    have z117 := W117.size
    have N117 := Fr.snoc X117 N116 (by omega)
    refine own_st st117 ?_
    show own_Goes p e below s _ _ (T117.setTop (mkF m 117 #[own_jv q0, .second, own_jv q1, .second, own_jv q2, .second, iv p3, iv p4, iv p5, iv fr, iv to, iv (0 : Int32), rv b102, rv b111, .unset, .unset, .unset] [(.ref b115)]))
    refine own_st (fun _ k => XS.dup X117.here hx rfl (hb hby at_117) rfl rfl k) ?_
    show own_Goes p e below s _ _ (T117.setTop (mkF m 118 #[own_jv q0, .second, own_jv q1, .second, own_jv q2, .second, iv p3, iv p4, iv p5, iv fr, iv to, iv (0 : Int32), rv b102, rv b111, .unset, .unset, .unset] [(.ref b115), (.ref b115)]))
    refine own_st (fun _ k => XS.iconst X117.here hx rfl (hb hby at_118) k) ?_
    show own_Goes p e below s _ _ (T117.setTop (mkF m 119 #[own_jv q0, .second, own_jv q1, .second, own_jv q2, .second, iv p3, iv p4, iv p5, iv fr, iv to, iv (0 : Int32), rv b102, rv b111, .unset, .unset, .unset] [(.int (2 : Int32)), (.ref b115), (.ref b115)]))
    refine own_st (fun _ k => XS.lloadN X117.here hx rfl (hb hby at_119) rfl  k) ?_
    show own_Goes p e below s _ _ (T117.setTop (mkF m 120 #[own_jv q0, .second, own_jv q1, .second, own_jv q2, .second, iv p3, iv p4, iv p5, iv fr, iv to, iv (0 : Int32), rv b102, rv b111, .unset, .unset, .unset] [(.long q0), (.int (2 : Int32)), (.ref b115), (.ref b115)]))
    obtain ⟨T118, h118, X118, e118, W118, A118, st118⟩ := own_stJ X117 hx hZ e117 V117 (j := (2 : Int32)) (by decide) (g := (mkF m 120 #[own_jv q0, .second, own_jv q1, .second, own_jv q2, .second, iv p3, iv p4, iv p5, iv fr, iv to, iv (0 : Int32), rv b102, rv b111, .unset, .unset, .unset] [(.long q0), (.int (2 : Int32)), (.ref b115), (.ref b115)])) rfl rfl (hb hby at_120)
    have V118 : own_Arf Z h118 b115 .long 3 (fun k => .long ((fun k => if k = 2 then q0 else (fun k => if k = 1 then q0 else (fun k => if k = 0 then q0 else (fun _ => (0 : Int64)) k) k) k) k)) := A118
    have z118 := W118.size
    have N118 := Fr.snoc X118 N117 (by omega)
    refine own_st st118 ?_
    show own_Goes p e below s _ _ (T118.setTop (mkF m 121 #[own_jv q0, .second, own_jv q1, .second, own_jv q2, .second, iv p3, iv p4, iv p5, iv fr, iv to, iv (0 : Int32), rv b102, rv b111, .unset, .unset, .unset] [(.ref b115)]))
    refine own_st (fun _ k => XS.astore X118.here hx rfl (hb hby at_121) rfl rfl (l' := #[own_jv q0, .second, own_jv q1, .second, own_jv q2, .second, iv p3, iv p4, iv p5, iv fr, iv to, iv (0 : Int32), rv b102, rv b111, rv b115, .unset, .unset]) rfl k) ?_
    show own_Goes p e below s _ _ (T118.setTop (mkF m 123 #[own_jv q0, .second, own_jv q1, .second, own_jv q2, .second, iv p3, iv p4, iv p5, iv fr, iv to, iv (0 : Int32), rv b102, rv b111, rv b115, .unset, .unset] []))
    refine own_st (fun _ k => XS.iload X118.here hx rfl (hb hby at_123) rfl  k) ?_
    show own_Goes p e below s _ _ (T118.setTop (mkF m 125 #[own_jv q0, .second, own_jv q1, .second, own_jv q2, .second, iv p3, iv p4, iv p5, iv fr, iv to, iv (0 : Int32), rv b102, rv b111, rv b115, .unset, .unset] [(.int (0 : Int32))]))
    refine own_st (fun _ k => XS.ifYes X118.here hx rfl (pc0 := 125) (pc' := 133) rfl (hb hby at_125) rfl ((if0 _ _).trans (teq (by decide : (0 : Int32) = (0 : Int32))).1) (by decide) (by decide) k) ?_
    show own_Goes p e below s _ _ (T118.setTop (mkF m 133 #[own_jv q0, .second, own_jv q1, .second, own_jv q2, .second, iv p3, iv p4, iv p5, iv fr, iv to, iv (0 : Int32), rv b102, rv b111, rv b115, .unset, .unset] []))
    refine own_st (fun _ k => XS.aload X118.here hx rfl (hb hby at_133) rfl rfl  k) ?_
    show own_Goes p e below s _ _ (T118.setTop (mkF m 135 #[own_jv q0, .second, own_jv q1, .second, own_jv q2, .second, iv p3, iv p4, iv p5, iv fr, iv to, iv (0 : Int32), rv b102, rv b111, rv b115, .unset, .unset] [(.ref b102)]))
    refine own_st (fun _ k => XS.iconst X118.here hx rfl (hb hby at_135) k) ?_
    show own_Goes p e below s _ _ (T118.setTop (mkF m 136 #[own_jv q0, .second, own_jv q1, .second, own_jv q2, .second, iv p3, iv p4, iv p5, iv fr, iv to, iv (0 : Int32), rv b102, rv b111, rv b115, .unset, .unset] [(.int (3 : Int32)), (.ref b102)]))
    have f120 := ((((((((Fc109.ext E111).other W112 (Or.inl (own_ne (by omega)))).other W113 (Or.inl (own_ne (by omega)))).other W114 (Or.inl (own_ne (by omega)))).ext E115).other W116 (Or.inl (own_ne (by omega)))).other W117 (Or.inl (own_ne (by omega)))).other W118 (Or.inl (own_ne (by omega))))
    have f121 := ((((((((Fv109.ext E111).other W112 (Or.inl (own_ne (by omega)))).other W113 (Or.inl (own_ne (by omega)))).other W114 (Or.inl (own_ne (by omega)))).ext E115).other W116 (Or.inl (own_ne (by omega)))).other W117 (Or.inl (own_ne (by omega)))).other W118 (Or.inl (own_ne (by omega))))
    have f122 := ((((((((Fl109.ext E111).other W112 (Or.inl (own_ne (by omega)))).other W113 (Or.inl (own_ne (by omega)))).other W114 (Or.inl (own_ne (by omega)))).ext E115).other W116 (Or.inl (own_ne (by omega)))).other W117 (Or.inl (own_ne (by omega)))).other W118 (Or.inl (own_ne (by omega))))
    have f123 := ((((((((Fd109.ext E111).other W112 (Or.inl (own_ne (by omega)))).other W113 (Or.inl (own_ne (by omega)))).other W114 (Or.inl (own_ne (by omega)))).ext E115).other W116 (Or.inl (own_ne (by omega)))).other W117 (Or.inl (own_ne (by omega)))).other W118 (Or.inl (own_ne (by omega))))
    have f124 := ((((((((Vv109.ext E111).other W112 (own_ne (by omega))).other W113 (own_ne (by omega))).other W114 (own_ne (by omega))).ext E115).other W116 (own_ne (by omega))).other W117 (own_ne (by omega))).other W118 (own_ne (by omega)))
    have f125 := ((((((((Vl109.ext E111).other W112 (own_ne (by omega))).other W113 (own_ne (by omega))).other W114 (own_ne (by omega))).ext E115).other W116 (own_ne (by omega))).other W117 (own_ne (by omega))).other W118 (own_ne (by omega)))
    have f126 := (((((((((((Yv103.keep K104).keep K107).keep K109).ext E111).wr W112).wr W113).wr W114).ext E115).wr W116).wr W117).wr W118)
    have f127 := (((((((((((Yl103.keep K104).keep K107).keep K109).ext E111).wr W112).wr W113).wr W114).ext E115).wr W116).wr W117).wr W118)
    have f128 := ((((((((A109.ext E111).wr W112).wr W113).wr W114).ext E115).wr W116).wr W117).wr W118)
    obtain ⟨v119, T119, L119, X119, Q119, st119⟩ := own_callV X118 hx hZ (C := "com/example/reach2/reach2/model/CodedColumn") (y := (⟨"com/example/reach2/reach2/model/CodedColumn", "emptyLike", "(I)Lcom/example/reach2/reach2/model/CodedColumn;"⟩ : MethodName)) hown (hw _ (List.mem_of_getElem? (i := 48) rfl)) (hw _ (List.mem_of_getElem? (i := 49) rfl)) (hw _ (List.mem_of_getElem? (i := 51) rfl)) (hw _ (List.mem_of_getElem? (i := 50) rfl)) (hw _ (List.mem_of_getElem? (i := 3) rfl)) (hw _ (List.mem_of_getElem? (i := 52) rfl)) (by decide) (W := 0) (rest := []) (argsL := [(.int (3 : Int32))]) (a := b102) (rmEL l Z a0 hw [] b102 _ _ _ _ _ _ occ109 h118 n0 (by omega) f120 f121 f122 f123 f124 f125 f126 f127 (by omega) hlk109) (by decide) (by decide) (by decide) (by decide) e118 f128 own_pd4 rfl (g := (mkF m 136 #[own_jv q0, .second, own_jv q1, .second, own_jv q2, .second, iv p3, iv p4, iv p5, iv fr, iv to, iv (0 : Int32), rv b102, rv b111, rv b115, .unset, .unset] [(.int (3 : Int32)), (.ref b102)])) rfl (by rw [hml]; rfl) rfl (by show 2 * 0 + _ ≤ _; exact Nat.le_of_eq rfl) (hb hby at_136)
    obtain ⟨b119, bc119, bv119, rfl, N119q, K119, ga119, gb119, gc119, gd119, ge119, A119, Fc119, Fv119, Vc119, Vv119⟩ := Q119
    have z119 := K119.1
    have N119 := Fr.app N118 N119q
    refine own_st st119 ?_
    show own_Goes p e below s _ _ (T119.setTop (mkF m 139 #[own_jv q0, .second, own_jv q1, .second, own_jv q2, .second, iv p3, iv p4, iv p5, iv fr, iv to, iv (0 : Int32), rv b102, rv b111, rv b115, .unset, .unset] [(.ref b119)]))
    refine own_st (fun _ k => XS.astore X119.here hx rfl (hb hby at_139) rfl rfl (l' := #[own_jv q0, .second, own_jv q1, .second, own_jv q2, .second, iv p3, iv p4, iv p5, iv fr, iv to, iv (0 : Int32), rv b102, rv b111, rv b115, rv b119, .unset]) rfl k) ?_
    show own_Goes p e below s _ _ (T119.setTop (mkF m 141 #[own_jv q0, .second, own_jv q1, .second, own_jv q2, .second, iv p3, iv p4, iv p5, iv fr, iv to, iv (0 : Int32), rv b102, rv b111, rv b115, rv b119, .unset] []))
    rcases own_3 hfr with rfl | rfl | rfl
    · show own_Goes p e below s _ _ (T119.setTop (mkF m 141 #[own_jv q0, .second, own_jv q1, .second, own_jv q2, .second, iv p3, iv p4, iv p5, iv (0 : Int32), iv to, iv (0 : Int32), rv b102, rv b111, rv b115, rv b119, .unset] []))
      rcases own_3 hto with rfl | rfl | rfl
      · show own_Goes p e below s _ _ (T119.setTop (mkF m 141 #[own_jv q0, .second, own_jv q1, .second, own_jv q2, .second, iv p3, iv p4, iv p5, iv (0 : Int32), iv (0 : Int32), iv (0 : Int32), rv b102, rv b111, rv b115, rv b119, .unset] []))
        refine own_st (fun _ k => XS.aload X119.here hx rfl (hb hby at_141) rfl rfl  k) ?_
        show own_Goes p e below s _ _ (T119.setTop (mkF m 143 #[own_jv q0, .second, own_jv q1, .second, own_jv q2, .second, iv p3, iv p4, iv p5, iv (0 : Int32), iv (0 : Int32), iv (0 : Int32), rv b102, rv b111, rv b115, rv b119, .unset] [(.ref b115)]))
        refine own_st (fun _ k => XS.iload X119.here hx rfl (hb hby at_143) rfl  k) ?_
        show own_Goes p e below s _ _ (T119.setTop (mkF m 145 #[own_jv q0, .second, own_jv q1, .second, own_jv q2, .second, iv p3, iv p4, iv p5, iv (0 : Int32), iv (0 : Int32), iv (0 : Int32), rv b102, rv b111, rv b115, rv b119, .unset] [(.int (0 : Int32)), (.ref b115)]))
        refine own_st (fun _ k => XS.aload X119.here hx rfl (hb hby at_145) rfl rfl  k) ?_
        show own_Goes p e below s _ _ (T119.setTop (mkF m 147 #[own_jv q0, .second, own_jv q1, .second, own_jv q2, .second, iv p3, iv p4, iv p5, iv (0 : Int32), iv (0 : Int32), iv (0 : Int32), rv b102, rv b111, rv b115, rv b119, .unset] [(.ref b111), (.int (0 : Int32)), (.ref b115)]))
        refine own_st (fun _ k => XS.iload X119.here hx rfl (hb hby at_147) rfl  k) ?_
        show own_Goes p e below s _ _ (T119.setTop (mkF m 149 #[own_jv q0, .second, own_jv q1, .second, own_jv q2, .second, iv p3, iv p4, iv p5, iv (0 : Int32), iv (0 : Int32), iv (0 : Int32), rv b102, rv b111, rv b115, rv b119, .unset] [(.int (0 : Int32)), (.ref b111), (.int (0 : Int32)), (.ref b115)]))
        have f129 := (((((V114.ext E115).other W116 (own_ne (by omega))).other W117 (own_ne (by omega))).other W118 (own_ne (by omega))).keep K119 nin0)
        refine own_st (fun _ k => own_ldJ X119 hx hZ rfl f129 (j := (0 : Int32)) (by decide) (g := (mkF m 149 #[own_jv q0, .second, own_jv q1, .second, own_jv q2, .second, iv p3, iv p4, iv p5, iv (0 : Int32), iv (0 : Int32), iv (0 : Int32), rv b102, rv b111, rv b115, rv b119, .unset] [(.int (0 : Int32)), (.ref b111), (.int (0 : Int32)), (.ref b115)])) rfl rfl (hb hby at_149) _ k) ?_
        show own_Goes p e below s _ _ (T119.setTop (mkF m 150 #[own_jv q0, .second, own_jv q1, .second, own_jv q2, .second, iv p3, iv p4, iv p5, iv (0 : Int32), iv (0 : Int32), iv (0 : Int32), rv b102, rv b111, rv b115, rv b119, .unset] [(.long q0), (.int (0 : Int32)), (.ref b115)]))
        have f130 := (V118.keep K119 nin0)
        obtain ⟨T131, h131, X131, e131, W131, A131, st131⟩ := own_stJ X119 hx hZ rfl f130 (j := (0 : Int32)) (by decide) (g := (mkF m 150 #[own_jv q0, .second, own_jv q1, .second, own_jv q2, .second, iv p3, iv p4, iv p5, iv (0 : Int32), iv (0 : Int32), iv (0 : Int32), rv b102, rv b111, rv b115, rv b119, .unset] [(.long q0), (.int (0 : Int32)), (.ref b115)])) rfl rfl (hb hby at_150)
        have V131 : own_Arf Z h131 b115 .long 3 (fun k => .long ((fun k => if k = 0 then q0 else (fun k => if k = 2 then q0 else (fun k => if k = 1 then q0 else (fun k => if k = 0 then q0 else (fun _ => (0 : Int64)) k) k) k) k) k)) := A131
        have z131 := W131.size
        have N131 := Fr.snoc X131 N119 (by omega)
        refine own_st st131 ?_
        show own_Goes p e below s _ _ (T131.setTop (mkF m 151 #[own_jv q0, .second, own_jv q1, .second, own_jv q2, .second, iv p3, iv p4, iv p5, iv (0 : Int32), iv (0 : Int32), iv (0 : Int32), rv b102, rv b111, rv b115, rv b119, .unset] []))
        refine own_st (fun _ k => XS.aload X131.here hx rfl (hb hby at_151) rfl rfl  k) ?_
        show own_Goes p e below s _ _ (T131.setTop (mkF m 153 #[own_jv q0, .second, own_jv q1, .second, own_jv q2, .second, iv p3, iv p4, iv p5, iv (0 : Int32), iv (0 : Int32), iv (0 : Int32), rv b102, rv b111, rv b115, rv b119, .unset] [(.ref b102)]))
        refine own_st (fun _ k => XS.iload X131.here hx rfl (hb hby at_153) rfl  k) ?_
        show own_Goes p e below s _ _ (T131.setTop (mkF m 155 #[own_jv q0, .second, own_jv q1, .second, own_jv q2, .second, iv p3, iv p4, iv p5, iv (0 : Int32), iv (0 : Int32), iv (0 : Int32), rv b102, rv b111, rv b115, rv b119, .unset] [(.int (0 : Int32)), (.ref b102)]))
        refine own_st (fun _ k => XS.aload X131.here hx rfl (hb hby at_155) rfl rfl  k) ?_
        show own_Goes p e below s _ _ (T131.setTop (mkF m 157 #[own_jv q0, .second, own_jv q1, .second, own_jv q2, .second, iv p3, iv p4, iv p5, iv (0 : Int32), iv (0 : Int32), iv (0 : Int32), rv b102, rv b111, rv b115, rv b119, .unset] [(.ref b119), (.int (0 : Int32)), (.ref b102)]))
        refine own_st (fun _ k => XS.iload X131.here hx rfl (hb hby at_157) rfl  k) ?_
        show own_Goes p e below s _ _ (T131.setTop (mkF m 159 #[own_jv q0, .second, own_jv q1, .second, own_jv q2, .second, iv p3, iv p4, iv p5, iv (0 : Int32), iv (0 : Int32), iv (0 : Int32), rv b102, rv b111, rv b115, rv b119, .unset] [(.int (0 : Int32)), (.ref b119), (.int (0 : Int32)), (.ref b102)]))
        have f133 := ((f120.keep K119 nin0).other W131 (Or.inl (own_ne (by omega))))
        have f134 := (Fc119.other W131 (Or.inl (own_ne (by omega))))
        have f135 := ((((((((((Vd109.ext E111).other W112 (own_ne (by omega))).other W113 (own_ne (by omega))).other W114 (own_ne (by omega))).ext E115).other W116 (own_ne (by omega))).other W117 (own_ne (by omega))).other W118 (own_ne (by omega))).keep K119 nin0).other W131 (own_ne (by omega)))
        have f136 := (Vc119.other W131 (own_ne (by omega)))
        have f137 := ((f128.keep K119).wr W131)
        obtain ⟨v132, T132, L132, X132, Q132, st132⟩ := own_callV X131 hx hZ (C := "com/example/reach2/reach2/model/CodedColumn") (y := (⟨"com/example/reach2/reach2/model/CodedColumn", "copyTo", "(ILcom/example/reach2/reach2/model/CodedColumn;I)V"⟩ : MethodName)) hown (hw _ (List.mem_of_getElem? (i := 38) rfl)) (hw _ (List.mem_of_getElem? (i := 39) rfl)) (hw _ (List.mem_of_getElem? (i := 41) rfl)) (hw _ (List.mem_of_getElem? (i := 40) rfl)) (hw _ (List.mem_of_getElem? (i := 3) rfl)) (hw _ (List.mem_of_getElem? (i := 42) rfl)) (by decide) (W := 0) (rest := []) (argsL := [(.int (0 : Int32)), (.ref b119), (.int (0 : Int32))]) (a := b102) (rmCT l Z a0 hw [] b102 (0 : Int32) b119 (0 : Int32) ac103 bc119 _ _ h131 n0 (by omega) f133 f134 f135 f136 (by decide) (by decide) (by omega)) (by decide) (by decide) (by decide) (by decide) e131 f137 own_pd5 rfl (g := (mkF m 159 #[own_jv q0, .second, own_jv q1, .second, own_jv q2, .second, iv p3, iv p4, iv p5, iv (0 : Int32), iv (0 : Int32), iv (0 : Int32), rv b102, rv b111, rv b115, rv b119, .unset] [(.int (0 : Int32)), (.ref b119), (.int (0 : Int32)), (.ref b102)])) rfl (by rw [hml]; rfl) rfl (by show 2 * 0 + _ ≤ _; exact Nat.le_of_eq rfl) (hb hby at_159)
        obtain ⟨rfl, N132q, K132, V132⟩ := Q132
        have z132 := K132.1
        have Vt132 : own_Arf Z T132.heap bc119 .byte 3 (fun k => .int ((fun k => if k = 0 then (nar .byte (nar .byte (r104.toInt8.toInt32))) else (fun _ => (0 : Int32)) k) k)) := V132
        have N132 := Fr.app N131 N132q
        refine own_st st132 ?_
        show own_Goes p e below s _ _ (T132.setTop (mkF m 162 #[own_jv q0, .second, own_jv q1, .second, own_jv q2, .second, iv p3, iv p4, iv p5, iv (0 : Int32), iv (0 : Int32), iv (0 : Int32), rv b102, rv b111, rv b115, rv b119, .unset] []))
        refine own_st (fun _ k => XS.aload X132.here hx rfl (hb hby at_162) rfl rfl  k) ?_
        show own_Goes p e below s _ _ (T132.setTop (mkF m 164 #[own_jv q0, .second, own_jv q1, .second, own_jv q2, .second, iv p3, iv p4, iv p5, iv (0 : Int32), iv (0 : Int32), iv (0 : Int32), rv b102, rv b111, rv b115, rv b119, .unset] [(.ref b119)]))
        refine own_st (fun _ k => XS.iconst X132.here hx rfl (hb hby at_164) k) ?_
        show own_Goes p e below s _ _ (T132.setTop (mkF m 165 #[own_jv q0, .second, own_jv q1, .second, own_jv q2, .second, iv p3, iv p4, iv p5, iv (0 : Int32), iv (0 : Int32), iv (0 : Int32), rv b102, rv b111, rv b115, rv b119, .unset] [(.int (0 : Int32)), (.ref b119)]))
        have f139 := (f134.keep K132 (ninS (own_ne (by omega)) nin0))
        have f140 := ((Fv119.other W131 (Or.inl (own_ne (by omega)))).keep K132 (ninS (own_ne (by omega)) nin0))
        have f141 := ((Vv119.other W131 (own_ne (by omega))).keep K132 (ninS (own_ne (by omega)) nin0))
        have f142 := ((A119.wr W131).keep K132)
        obtain ⟨v138, T138, L138, X138, Q138, st138⟩ := own_callV X132 hx hZ (C := "com/example/reach2/reach2/model/CodedColumn") (y := (⟨"com/example/reach2/reach2/model/CodedColumn", "get", "(I)J"⟩ : MethodName)) hown (hw _ (List.mem_of_getElem? (i := 43) rfl)) (hw _ (List.mem_of_getElem? (i := 44) rfl)) (hw _ (List.mem_of_getElem? (i := 46) rfl)) (hw _ (List.mem_of_getElem? (i := 45) rfl)) (hw _ (List.mem_of_getElem? (i := 3) rfl)) (hw _ (List.mem_of_getElem? (i := 47) rfl)) (by decide) (W := 0) (rest := []) (argsL := [(.int (0 : Int32))]) (a := b119) (rmGet l Z a0 hw [] b119 (0 : Int32) _ _ _ _ T132.heap n0 (by omega) f139 f140 Vt132 f141 (by decide)) (by decide) (by decide) (by decide) (by decide) rfl f142 own_pd6 rfl (g := (mkF m 165 #[own_jv q0, .second, own_jv q1, .second, own_jv q2, .second, iv p3, iv p4, iv p5, iv (0 : Int32), iv (0 : Int32), iv (0 : Int32), rv b102, rv b111, rv b115, rv b119, .unset] [(.int (0 : Int32)), (.ref b119)])) rfl (by rw [hml]; rfl) rfl (by show 2 * 0 + _ ≤ _; exact Nat.le_of_eq rfl) (hb hby at_165)
        obtain ⟨g138, rfl, hg138, N138q, e138⟩ := Q138
        obtain rfl : q0 = g138 := (hg138.trans (own_at2 (by omega) ((rf109 _ (by omega)).trans ((rf107 _ (by omega)).trans re104)))).symm
        have N138 := Fr.app N132 N138q
        refine own_st st138 ?_
        show own_Goes p e below s _ _ (T138.setTop (mkF m 168 #[own_jv q0, .second, own_jv q1, .second, own_jv q2, .second, iv p3, iv p4, iv p5, iv (0 : Int32), iv (0 : Int32), iv (0 : Int32), rv b102, rv b111, rv b115, rv b119, .unset] [(.long q0)]))
        refine own_st (fun _ k => XS.aload X138.here hx rfl (hb hby at_168) rfl rfl  k) ?_
        show own_Goes p e below s _ _ (T138.setTop (mkF m 170 #[own_jv q0, .second, own_jv q1, .second, own_jv q2, .second, iv p3, iv p4, iv p5, iv (0 : Int32), iv (0 : Int32), iv (0 : Int32), rv b102, rv b111, rv b115, rv b119, .unset] [(.ref b115), (.long q0)]))
        refine own_st (fun _ k => XS.iconst X138.here hx rfl (hb hby at_170) k) ?_
        show own_Goes p e below s _ _ (T138.setTop (mkF m 171 #[own_jv q0, .second, own_jv q1, .second, own_jv q2, .second, iv p3, iv p4, iv p5, iv (0 : Int32), iv (0 : Int32), iv (0 : Int32), rv b102, rv b111, rv b115, rv b119, .unset] [(.int (0 : Int32)), (.ref b115), (.long q0)]))
        have f143 := (V131.keep K132 (ninS (own_ne (by omega)) nin0))
        refine own_st (fun _ k => own_ldJ X138 hx hZ e138 f143 (j := (0 : Int32)) (by decide) (g := (mkF m 171 #[own_jv q0, .second, own_jv q1, .second, own_jv q2, .second, iv p3, iv p4, iv p5, iv (0 : Int32), iv (0 : Int32), iv (0 : Int32), rv b102, rv b111, rv b115, rv b119, .unset] [(.int (0 : Int32)), (.ref b115), (.long q0)])) rfl rfl (hb hby at_171) _ k) ?_
        show own_Goes p e below s _ _ (T138.setTop (mkF m 172 #[own_jv q0, .second, own_jv q1, .second, own_jv q2, .second, iv p3, iv p4, iv p5, iv (0 : Int32), iv (0 : Int32), iv (0 : Int32), rv b102, rv b111, rv b115, rv b119, .unset] [(.long q0), (.long q0)]))
        refine own_st (fun _ k => XS.lcmp X138.here hx rfl (hb hby at_172) rfl k) ?_
        show own_Goes p e below s _ _ (T138.setTop (mkF m 173 #[own_jv q0, .second, own_jv q1, .second, own_jv q2, .second, iv p3, iv p4, iv p5, iv (0 : Int32), iv (0 : Int32), iv (0 : Int32), rv b102, rv b111, rv b115, rv b119, .unset] [(.int (lcmpW q0 q0))]))
        refine own_st (fun _ k => XS.ifNo X138.here hx rfl (hb hby at_173) rfl ((if0 _ _).trans (teq ((lw_eq _ _).mpr (rfl : q0 = q0))).2) k) ?_
        show own_Goes p e below s _ _ (T138.setTop (mkF m 176 #[own_jv q0, .second, own_jv q1, .second, own_jv q2, .second, iv p3, iv p4, iv p5, iv (0 : Int32), iv (0 : Int32), iv (0 : Int32), rv b102, rv b111, rv b115, rv b119, .unset] []))
        refine own_st (fun _ k => XS.aload X138.here hx rfl (hb hby at_176) rfl rfl  k) ?_
        show own_Goes p e below s _ _ (T138.setTop (mkF m 178 #[own_jv q0, .second, own_jv q1, .second, own_jv q2, .second, iv p3, iv p4, iv p5, iv (0 : Int32), iv (0 : Int32), iv (0 : Int32), rv b102, rv b111, rv b115, rv b119, .unset] [(.ref b119)]))
        refine own_st (fun _ k => XS.iconst X138.here hx rfl (hb hby at_178) k) ?_
        show own_Goes p e below s _ _ (T138.setTop (mkF m 179 #[own_jv q0, .second, own_jv q1, .second, own_jv q2, .second, iv p3, iv p4, iv p5, iv (0 : Int32), iv (0 : Int32), iv (0 : Int32), rv b102, rv b111, rv b115, rv b119, .unset] [(.int (1 : Int32)), (.ref b119)]))
        obtain ⟨v144, T144, L144, X144, Q144, st144⟩ := own_callV X138 hx hZ (C := "com/example/reach2/reach2/model/CodedColumn") (y := (⟨"com/example/reach2/reach2/model/CodedColumn", "get", "(I)J"⟩ : MethodName)) hown (hw _ (List.mem_of_getElem? (i := 43) rfl)) (hw _ (List.mem_of_getElem? (i := 44) rfl)) (hw _ (List.mem_of_getElem? (i := 46) rfl)) (hw _ (List.mem_of_getElem? (i := 45) rfl)) (hw _ (List.mem_of_getElem? (i := 3) rfl)) (hw _ (List.mem_of_getElem? (i := 47) rfl)) (by decide) (W := 0) (rest := []) (argsL := [(.int (1 : Int32))]) (a := b119) (rmGet l Z a0 hw [] b119 (1 : Int32) _ _ _ _ T132.heap n0 (by omega) f139 f140 Vt132 f141 (by decide)) (by decide) (by decide) (by decide) (by decide) e138 f142 own_pd6 rfl (g := (mkF m 179 #[own_jv q0, .second, own_jv q1, .second, own_jv q2, .second, iv p3, iv p4, iv p5, iv (0 : Int32), iv (0 : Int32), iv (0 : Int32), rv b102, rv b111, rv b115, rv b119, .unset] [(.int (1 : Int32)), (.ref b119)])) rfl (by rw [hml]; rfl) rfl (by show 2 * 0 + _ ≤ _; exact Nat.le_of_eq rfl) (hb hby at_179)
        obtain ⟨g144, rfl, hg144, N144q, e144⟩ := Q144
        obtain rfl : q0 = g144 := (hg144.trans (own_at0 (by omega) ((rf109 _ (by omega)).trans ((rf107 _ (by omega)).trans re104)))).symm
        have N144 := Fr.app N138 N144q
        refine own_st st144 ?_
        show own_Goes p e below s _ _ (T144.setTop (mkF m 182 #[own_jv q0, .second, own_jv q1, .second, own_jv q2, .second, iv p3, iv p4, iv p5, iv (0 : Int32), iv (0 : Int32), iv (0 : Int32), rv b102, rv b111, rv b115, rv b119, .unset] [(.long q0)]))
        refine own_st (fun _ k => XS.aload X144.here hx rfl (hb hby at_182) rfl rfl  k) ?_
        show own_Goes p e below s _ _ (T144.setTop (mkF m 184 #[own_jv q0, .second, own_jv q1, .second, own_jv q2, .second, iv p3, iv p4, iv p5, iv (0 : Int32), iv (0 : Int32), iv (0 : Int32), rv b102, rv b111, rv b115, rv b119, .unset] [(.ref b115), (.long q0)]))
        refine own_st (fun _ k => XS.iconst X144.here hx rfl (hb hby at_184) k) ?_
        show own_Goes p e below s _ _ (T144.setTop (mkF m 185 #[own_jv q0, .second, own_jv q1, .second, own_jv q2, .second, iv p3, iv p4, iv p5, iv (0 : Int32), iv (0 : Int32), iv (0 : Int32), rv b102, rv b111, rv b115, rv b119, .unset] [(.int (1 : Int32)), (.ref b115), (.long q0)]))
        refine own_st (fun _ k => own_ldJ X144 hx hZ e144 f143 (j := (1 : Int32)) (by decide) (g := (mkF m 185 #[own_jv q0, .second, own_jv q1, .second, own_jv q2, .second, iv p3, iv p4, iv p5, iv (0 : Int32), iv (0 : Int32), iv (0 : Int32), rv b102, rv b111, rv b115, rv b119, .unset] [(.int (1 : Int32)), (.ref b115), (.long q0)])) rfl rfl (hb hby at_185) _ k) ?_
        show own_Goes p e below s _ _ (T144.setTop (mkF m 186 #[own_jv q0, .second, own_jv q1, .second, own_jv q2, .second, iv p3, iv p4, iv p5, iv (0 : Int32), iv (0 : Int32), iv (0 : Int32), rv b102, rv b111, rv b115, rv b119, .unset] [(.long q0), (.long q0)]))
        refine own_st (fun _ k => XS.lcmp X144.here hx rfl (hb hby at_186) rfl k) ?_
        show own_Goes p e below s _ _ (T144.setTop (mkF m 187 #[own_jv q0, .second, own_jv q1, .second, own_jv q2, .second, iv p3, iv p4, iv p5, iv (0 : Int32), iv (0 : Int32), iv (0 : Int32), rv b102, rv b111, rv b115, rv b119, .unset] [(.int (lcmpW q0 q0))]))
        refine own_st (fun _ k => XS.ifNo X144.here hx rfl (hb hby at_187) rfl ((if0 _ _).trans (teq ((lw_eq _ _).mpr (rfl : q0 = q0))).2) k) ?_
        show own_Goes p e below s _ _ (T144.setTop (mkF m 190 #[own_jv q0, .second, own_jv q1, .second, own_jv q2, .second, iv p3, iv p4, iv p5, iv (0 : Int32), iv (0 : Int32), iv (0 : Int32), rv b102, rv b111, rv b115, rv b119, .unset] []))
        refine own_st (fun _ k => XS.aload X144.here hx rfl (hb hby at_190) rfl rfl  k) ?_
        show own_Goes p e below s _ _ (T144.setTop (mkF m 192 #[own_jv q0, .second, own_jv q1, .second, own_jv q2, .second, iv p3, iv p4, iv p5, iv (0 : Int32), iv (0 : Int32), iv (0 : Int32), rv b102, rv b111, rv b115, rv b119, .unset] [(.ref b119)]))
        refine own_st (fun _ k => XS.iconst X144.here hx rfl (hb hby at_192) k) ?_
        show own_Goes p e below s _ _ (T144.setTop (mkF m 193 #[own_jv q0, .second, own_jv q1, .second, own_jv q2, .second, iv p3, iv p4, iv p5, iv (0 : Int32), iv (0 : Int32), iv (0 : Int32), rv b102, rv b111, rv b115, rv b119, .unset] [(.int (2 : Int32)), (.ref b119)]))
        obtain ⟨v145, T145, L145, X145, Q145, st145⟩ := own_callV X144 hx hZ (C := "com/example/reach2/reach2/model/CodedColumn") (y := (⟨"com/example/reach2/reach2/model/CodedColumn", "get", "(I)J"⟩ : MethodName)) hown (hw _ (List.mem_of_getElem? (i := 43) rfl)) (hw _ (List.mem_of_getElem? (i := 44) rfl)) (hw _ (List.mem_of_getElem? (i := 46) rfl)) (hw _ (List.mem_of_getElem? (i := 45) rfl)) (hw _ (List.mem_of_getElem? (i := 3) rfl)) (hw _ (List.mem_of_getElem? (i := 47) rfl)) (by decide) (W := 0) (rest := []) (argsL := [(.int (2 : Int32))]) (a := b119) (rmGet l Z a0 hw [] b119 (2 : Int32) _ _ _ _ T132.heap n0 (by omega) f139 f140 Vt132 f141 (by decide)) (by decide) (by decide) (by decide) (by decide) e144 f142 own_pd6 rfl (g := (mkF m 193 #[own_jv q0, .second, own_jv q1, .second, own_jv q2, .second, iv p3, iv p4, iv p5, iv (0 : Int32), iv (0 : Int32), iv (0 : Int32), rv b102, rv b111, rv b115, rv b119, .unset] [(.int (2 : Int32)), (.ref b119)])) rfl (by rw [hml]; rfl) rfl (by show 2 * 0 + _ ≤ _; exact Nat.le_of_eq rfl) (hb hby at_193)
        obtain ⟨g145, rfl, hg145, N145q, e145⟩ := Q145
        obtain rfl : q0 = g145 := (hg145.trans (own_at0 (by omega) ((rf109 _ (by omega)).trans ((rf107 _ (by omega)).trans re104)))).symm
        have N145 := Fr.app N144 N145q
        refine own_st st145 ?_
        show own_Goes p e below s _ _ (T145.setTop (mkF m 196 #[own_jv q0, .second, own_jv q1, .second, own_jv q2, .second, iv p3, iv p4, iv p5, iv (0 : Int32), iv (0 : Int32), iv (0 : Int32), rv b102, rv b111, rv b115, rv b119, .unset] [(.long q0)]))
        refine own_st (fun _ k => XS.aload X145.here hx rfl (hb hby at_196) rfl rfl  k) ?_
        show own_Goes p e below s _ _ (T145.setTop (mkF m 198 #[own_jv q0, .second, own_jv q1, .second, own_jv q2, .second, iv p3, iv p4, iv p5, iv (0 : Int32), iv (0 : Int32), iv (0 : Int32), rv b102, rv b111, rv b115, rv b119, .unset] [(.ref b115), (.long q0)]))
        refine own_st (fun _ k => XS.iconst X145.here hx rfl (hb hby at_198) k) ?_
        show own_Goes p e below s _ _ (T145.setTop (mkF m 199 #[own_jv q0, .second, own_jv q1, .second, own_jv q2, .second, iv p3, iv p4, iv p5, iv (0 : Int32), iv (0 : Int32), iv (0 : Int32), rv b102, rv b111, rv b115, rv b119, .unset] [(.int (2 : Int32)), (.ref b115), (.long q0)]))
        refine own_st (fun _ k => own_ldJ X145 hx hZ e145 f143 (j := (2 : Int32)) (by decide) (g := (mkF m 199 #[own_jv q0, .second, own_jv q1, .second, own_jv q2, .second, iv p3, iv p4, iv p5, iv (0 : Int32), iv (0 : Int32), iv (0 : Int32), rv b102, rv b111, rv b115, rv b119, .unset] [(.int (2 : Int32)), (.ref b115), (.long q0)])) rfl rfl (hb hby at_199) _ k) ?_
        show own_Goes p e below s _ _ (T145.setTop (mkF m 200 #[own_jv q0, .second, own_jv q1, .second, own_jv q2, .second, iv p3, iv p4, iv p5, iv (0 : Int32), iv (0 : Int32), iv (0 : Int32), rv b102, rv b111, rv b115, rv b119, .unset] [(.long q0), (.long q0)]))
        refine own_st (fun _ k => XS.lcmp X145.here hx rfl (hb hby at_200) rfl k) ?_
        show own_Goes p e below s _ _ (T145.setTop (mkF m 201 #[own_jv q0, .second, own_jv q1, .second, own_jv q2, .second, iv p3, iv p4, iv p5, iv (0 : Int32), iv (0 : Int32), iv (0 : Int32), rv b102, rv b111, rv b115, rv b119, .unset] [(.int (lcmpW q0 q0))]))
        refine own_st (fun _ k => XS.ifNo X145.here hx rfl (hb hby at_201) rfl ((if0 _ _).trans (teq ((lw_eq _ _).mpr (rfl : q0 = q0))).2) k) ?_
        show own_Goes p e below s _ _ (T145.setTop (mkF m 204 #[own_jv q0, .second, own_jv q1, .second, own_jv q2, .second, iv p3, iv p4, iv p5, iv (0 : Int32), iv (0 : Int32), iv (0 : Int32), rv b102, rv b111, rv b115, rv b119, .unset] []))
        refine own_st (fun _ k => XS.iconst X145.here hx rfl (hb hby at_204) k) ?_
        show own_Goes p e below s _ _ (T145.setTop (mkF m 205 #[own_jv q0, .second, own_jv q1, .second, own_jv q2, .second, iv p3, iv p4, iv p5, iv (0 : Int32), iv (0 : Int32), iv (0 : Int32), rv b102, rv b111, rv b115, rv b119, .unset] [(.int (1 : Int32))]))
        refine own_st (fun _ k => XS.goto X145.here hx rfl (pc0 := 205) (pc' := 209) rfl (hb hby at_205) (by decide) (by decide) k) ?_
        show own_Goes p e below s _ _ (T145.setTop (mkF m 209 #[own_jv q0, .second, own_jv q1, .second, own_jv q2, .second, iv p3, iv p4, iv p5, iv (0 : Int32), iv (0 : Int32), iv (0 : Int32), rv b102, rv b111, rv b115, rv b119, .unset] [(.int (1 : Int32))]))
        refine own_st (fun _ k => XS.istore X145.here hx rfl (hb hby at_209) rfl (l' := #[own_jv q0, .second, own_jv q1, .second, own_jv q2, .second, iv p3, iv p4, iv p5, iv (0 : Int32), iv (0 : Int32), iv (0 : Int32), rv b102, rv b111, rv b115, rv b119, iv (1 : Int32)]) rfl k) ?_
        show own_Goes p e below s _ _ (T145.setTop (mkF m 211 #[own_jv q0, .second, own_jv q1, .second, own_jv q2, .second, iv p3, iv p4, iv p5, iv (0 : Int32), iv (0 : Int32), iv (0 : Int32), rv b102, rv b111, rv b115, rv b119, iv (1 : Int32)] []))
        refine own_st (fun _ k => XS.iload X145.here hx rfl (hb hby at_211) rfl  k) ?_
        show own_Goes p e below s _ _ (T145.setTop (mkF m 213 #[own_jv q0, .second, own_jv q1, .second, own_jv q2, .second, iv p3, iv p4, iv p5, iv (0 : Int32), iv (0 : Int32), iv (0 : Int32), rv b102, rv b111, rv b115, rv b119, iv (1 : Int32)] [(.int (0 : Int32))]))
        refine own_st (fun _ k => XS.ifNo X145.here hx rfl (hb hby at_213) rfl ((if0 _ _).trans (teq (by decide : (0 : Int32) = (0 : Int32))).2) k) ?_
        show own_Goes p e below s _ _ (T145.setTop (mkF m 216 #[own_jv q0, .second, own_jv q1, .second, own_jv q2, .second, iv p3, iv p4, iv p5, iv (0 : Int32), iv (0 : Int32), iv (0 : Int32), rv b102, rv b111, rv b115, rv b119, iv (1 : Int32)] []))
        refine own_st (fun _ k => XS.iload X145.here hx rfl (hb hby at_216) rfl  k) ?_
        show own_Goes p e below s _ _ (T145.setTop (mkF m 218 #[own_jv q0, .second, own_jv q1, .second, own_jv q2, .second, iv p3, iv p4, iv p5, iv (0 : Int32), iv (0 : Int32), iv (0 : Int32), rv b102, rv b111, rv b115, rv b119, iv (1 : Int32)] [(.int (1 : Int32))]))
        refine own_st (fun _ k => XS.ifNo X145.here hx rfl (hb hby at_218) rfl ((if0 _ _).trans (feq (by decide : ¬ ((1 : Int32) = (0 : Int32)))).1) k) ?_
        show own_Goes p e below s _ _ (T145.setTop (mkF m 221 #[own_jv q0, .second, own_jv q1, .second, own_jv q2, .second, iv p3, iv p4, iv p5, iv (0 : Int32), iv (0 : Int32), iv (0 : Int32), rv b102, rv b111, rv b115, rv b119, iv (1 : Int32)] []))
        refine own_st (fun _ k => XS.aload X145.here hx rfl (hb hby at_221) rfl rfl  k) ?_
        show own_Goes p e below s _ _ (T145.setTop (mkF m 223 #[own_jv q0, .second, own_jv q1, .second, own_jv q2, .second, iv p3, iv p4, iv p5, iv (0 : Int32), iv (0 : Int32), iv (0 : Int32), rv b102, rv b111, rv b115, rv b119, iv (1 : Int32)] [(.ref b102)]))
        refine own_st (fun _ k => XS.iconst X145.here hx rfl (hb hby at_223) k) ?_
        show own_Goes p e below s _ _ (T145.setTop (mkF m 224 #[own_jv q0, .second, own_jv q1, .second, own_jv q2, .second, iv p3, iv p4, iv p5, iv (0 : Int32), iv (0 : Int32), iv (0 : Int32), rv b102, rv b111, rv b115, rv b119, iv (1 : Int32)] [(.int (0 : Int32)), (.ref b102)]))
        have f147 := (f133.keep K132 (ninS (own_ne (by omega)) nin0))
        have f148 := (((f121.keep K119 nin0).other W131 (Or.inl (own_ne (by omega)))).keep K132 (ninS (own_ne (by omega)) nin0))
        have f149 := (f135.keep K132 (ninS (own_ne (by omega)) nin0))
        have f150 := (((f124.keep K119 nin0).other W131 (own_ne (by omega))).keep K132 (ninS (own_ne (by omega)) nin0))
        have f151 := (f137.keep K132)
        obtain ⟨v146, T146, L146, X146, Q146, st146⟩ := own_callV X145 hx hZ (C := "com/example/reach2/reach2/model/CodedColumn") (y := (⟨"com/example/reach2/reach2/model/CodedColumn", "get", "(I)J"⟩ : MethodName)) hown (hw _ (List.mem_of_getElem? (i := 43) rfl)) (hw _ (List.mem_of_getElem? (i := 44) rfl)) (hw _ (List.mem_of_getElem? (i := 46) rfl)) (hw _ (List.mem_of_getElem? (i := 45) rfl)) (hw _ (List.mem_of_getElem? (i := 3) rfl)) (hw _ (List.mem_of_getElem? (i := 47) rfl)) (by decide) (W := 0) (rest := []) (argsL := [(.int (0 : Int32))]) (a := b102) (rmGet l Z a0 hw [] b102 (0 : Int32) _ _ _ _ T132.heap n0 (by omega) f147 f148 f149 f150 (by decide)) (by decide) (by decide) (by decide) (by decide) e145 f151 own_pd6 rfl (g := (mkF m 224 #[own_jv q0, .second, own_jv q1, .second, own_jv q2, .second, iv p3, iv p4, iv p5, iv (0 : Int32), iv (0 : Int32), iv (0 : Int32), rv b102, rv b111, rv b115, rv b119, iv (1 : Int32)] [(.int (0 : Int32)), (.ref b102)])) rfl (by rw [hml]; rfl) rfl (by show 2 * 0 + _ ≤ _; exact Nat.le_of_eq rfl) (hb hby at_224)
        obtain ⟨g146, rfl, hg146, N146q, e146⟩ := Q146
        obtain rfl : q0 = g146 := (hg146.trans (own_at (by omega) ((rf109 _ (by omega)).trans ((rf107 _ (by omega)).trans re104)))).symm
        have N146 := Fr.app N145 N146q
        refine own_st st146 ?_
        show own_Goes p e below s _ _ (T146.setTop (mkF m 227 #[own_jv q0, .second, own_jv q1, .second, own_jv q2, .second, iv p3, iv p4, iv p5, iv (0 : Int32), iv (0 : Int32), iv (0 : Int32), rv b102, rv b111, rv b115, rv b119, iv (1 : Int32)] [(.long q0)]))
        refine own_st (fun _ k => XS.lloadN X146.here hx rfl (hb hby at_227) rfl  k) ?_
        show own_Goes p e below s _ _ (T146.setTop (mkF m 228 #[own_jv q0, .second, own_jv q1, .second, own_jv q2, .second, iv p3, iv p4, iv p5, iv (0 : Int32), iv (0 : Int32), iv (0 : Int32), rv b102, rv b111, rv b115, rv b119, iv (1 : Int32)] [(.long q0), (.long q0)]))
        refine own_st (fun _ k => XS.lcmp X146.here hx rfl (hb hby at_228) rfl k) ?_
        show own_Goes p e below s _ _ (T146.setTop (mkF m 229 #[own_jv q0, .second, own_jv q1, .second, own_jv q2, .second, iv p3, iv p4, iv p5, iv (0 : Int32), iv (0 : Int32), iv (0 : Int32), rv b102, rv b111, rv b115, rv b119, iv (1 : Int32)] [(.int (lcmpW q0 q0))]))
        refine own_st (fun _ k => XS.ifNo X146.here hx rfl (hb hby at_229) rfl ((if0 _ _).trans (teq ((lw_eq _ _).mpr (rfl : q0 = q0))).2) k) ?_
        show own_Goes p e below s _ _ (T146.setTop (mkF m 232 #[own_jv q0, .second, own_jv q1, .second, own_jv q2, .second, iv p3, iv p4, iv p5, iv (0 : Int32), iv (0 : Int32), iv (0 : Int32), rv b102, rv b111, rv b115, rv b119, iv (1 : Int32)] []))
        refine own_st (fun _ k => XS.aload X146.here hx rfl (hb hby at_232) rfl rfl  k) ?_
        show own_Goes p e below s _ _ (T146.setTop (mkF m 234 #[own_jv q0, .second, own_jv q1, .second, own_jv q2, .second, iv p3, iv p4, iv p5, iv (0 : Int32), iv (0 : Int32), iv (0 : Int32), rv b102, rv b111, rv b115, rv b119, iv (1 : Int32)] [(.ref b102)]))
        refine own_st (fun _ k => XS.iconst X146.here hx rfl (hb hby at_234) k) ?_
        show own_Goes p e below s _ _ (T146.setTop (mkF m 235 #[own_jv q0, .second, own_jv q1, .second, own_jv q2, .second, iv p3, iv p4, iv p5, iv (0 : Int32), iv (0 : Int32), iv (0 : Int32), rv b102, rv b111, rv b115, rv b119, iv (1 : Int32)] [(.int (1 : Int32)), (.ref b102)]))
        obtain ⟨v152, T152, L152, X152, Q152, st152⟩ := own_callV X146 hx hZ (C := "com/example/reach2/reach2/model/CodedColumn") (y := (⟨"com/example/reach2/reach2/model/CodedColumn", "get", "(I)J"⟩ : MethodName)) hown (hw _ (List.mem_of_getElem? (i := 43) rfl)) (hw _ (List.mem_of_getElem? (i := 44) rfl)) (hw _ (List.mem_of_getElem? (i := 46) rfl)) (hw _ (List.mem_of_getElem? (i := 45) rfl)) (hw _ (List.mem_of_getElem? (i := 3) rfl)) (hw _ (List.mem_of_getElem? (i := 47) rfl)) (by decide) (W := 0) (rest := []) (argsL := [(.int (1 : Int32))]) (a := b102) (rmGet l Z a0 hw [] b102 (1 : Int32) _ _ _ _ T132.heap n0 (by omega) f147 f148 f149 f150 (by decide)) (by decide) (by decide) (by decide) (by decide) e146 f151 own_pd6 rfl (g := (mkF m 235 #[own_jv q0, .second, own_jv q1, .second, own_jv q2, .second, iv p3, iv p4, iv p5, iv (0 : Int32), iv (0 : Int32), iv (0 : Int32), rv b102, rv b111, rv b115, rv b119, iv (1 : Int32)] [(.int (1 : Int32)), (.ref b102)])) rfl (by rw [hml]; rfl) rfl (by show 2 * 0 + _ ≤ _; exact Nat.le_of_eq rfl) (hb hby at_235)
        obtain ⟨g152, rfl, hg152, N152q, e152⟩ := Q152
        obtain rfl : q1 = g152 := (hg152.trans (own_at (by omega) ((rf109 _ (by omega)).trans re107))).symm
        have N152 := Fr.app N146 N152q
        refine own_st st152 ?_
        show own_Goes p e below s _ _ (T152.setTop (mkF m 238 #[own_jv q0, .second, own_jv q1, .second, own_jv q2, .second, iv p3, iv p4, iv p5, iv (0 : Int32), iv (0 : Int32), iv (0 : Int32), rv b102, rv b111, rv b115, rv b119, iv (1 : Int32)] [(.long q1)]))
        refine own_st (fun _ k => XS.lloadN X152.here hx rfl (hb hby at_238) rfl  k) ?_
        show own_Goes p e below s _ _ (T152.setTop (mkF m 239 #[own_jv q0, .second, own_jv q1, .second, own_jv q2, .second, iv p3, iv p4, iv p5, iv (0 : Int32), iv (0 : Int32), iv (0 : Int32), rv b102, rv b111, rv b115, rv b119, iv (1 : Int32)] [(.long q1), (.long q1)]))
        refine own_st (fun _ k => XS.lcmp X152.here hx rfl (hb hby at_239) rfl k) ?_
        show own_Goes p e below s _ _ (T152.setTop (mkF m 240 #[own_jv q0, .second, own_jv q1, .second, own_jv q2, .second, iv p3, iv p4, iv p5, iv (0 : Int32), iv (0 : Int32), iv (0 : Int32), rv b102, rv b111, rv b115, rv b119, iv (1 : Int32)] [(.int (lcmpW q1 q1))]))
        refine own_st (fun _ k => XS.ifNo X152.here hx rfl (hb hby at_240) rfl ((if0 _ _).trans (teq ((lw_eq _ _).mpr (rfl : q1 = q1))).2) k) ?_
        show own_Goes p e below s _ _ (T152.setTop (mkF m 243 #[own_jv q0, .second, own_jv q1, .second, own_jv q2, .second, iv p3, iv p4, iv p5, iv (0 : Int32), iv (0 : Int32), iv (0 : Int32), rv b102, rv b111, rv b115, rv b119, iv (1 : Int32)] []))
        refine own_st (fun _ k => XS.aload X152.here hx rfl (hb hby at_243) rfl rfl  k) ?_
        show own_Goes p e below s _ _ (T152.setTop (mkF m 245 #[own_jv q0, .second, own_jv q1, .second, own_jv q2, .second, iv p3, iv p4, iv p5, iv (0 : Int32), iv (0 : Int32), iv (0 : Int32), rv b102, rv b111, rv b115, rv b119, iv (1 : Int32)] [(.ref b102)]))
        refine own_st (fun _ k => XS.iconst X152.here hx rfl (hb hby at_245) k) ?_
        show own_Goes p e below s _ _ (T152.setTop (mkF m 246 #[own_jv q0, .second, own_jv q1, .second, own_jv q2, .second, iv p3, iv p4, iv p5, iv (0 : Int32), iv (0 : Int32), iv (0 : Int32), rv b102, rv b111, rv b115, rv b119, iv (1 : Int32)] [(.int (2 : Int32)), (.ref b102)]))
        obtain ⟨v153, T153, L153, X153, Q153, st153⟩ := own_callV X152 hx hZ (C := "com/example/reach2/reach2/model/CodedColumn") (y := (⟨"com/example/reach2/reach2/model/CodedColumn", "get", "(I)J"⟩ : MethodName)) hown (hw _ (List.mem_of_getElem? (i := 43) rfl)) (hw _ (List.mem_of_getElem? (i := 44) rfl)) (hw _ (List.mem_of_getElem? (i := 46) rfl)) (hw _ (List.mem_of_getElem? (i := 45) rfl)) (hw _ (List.mem_of_getElem? (i := 3) rfl)) (hw _ (List.mem_of_getElem? (i := 47) rfl)) (by decide) (W := 0) (rest := []) (argsL := [(.int (2 : Int32))]) (a := b102) (rmGet l Z a0 hw [] b102 (2 : Int32) _ _ _ _ T132.heap n0 (by omega) f147 f148 f149 f150 (by decide)) (by decide) (by decide) (by decide) (by decide) e152 f151 own_pd6 rfl (g := (mkF m 246 #[own_jv q0, .second, own_jv q1, .second, own_jv q2, .second, iv p3, iv p4, iv p5, iv (0 : Int32), iv (0 : Int32), iv (0 : Int32), rv b102, rv b111, rv b115, rv b119, iv (1 : Int32)] [(.int (2 : Int32)), (.ref b102)])) rfl (by rw [hml]; rfl) rfl (by show 2 * 0 + _ ≤ _; exact Nat.le_of_eq rfl) (hb hby at_246)
        obtain ⟨g153, rfl, hg153, N153q, e153⟩ := Q153
        obtain rfl : q2 = g153 := (hg153.trans (own_at (by omega) re109)).symm
        have N153 := Fr.app N152 N153q
        refine own_st st153 ?_
        show own_Goes p e below s _ _ (T153.setTop (mkF m 249 #[own_jv q0, .second, own_jv q1, .second, own_jv q2, .second, iv p3, iv p4, iv p5, iv (0 : Int32), iv (0 : Int32), iv (0 : Int32), rv b102, rv b111, rv b115, rv b119, iv (1 : Int32)] [(.long q2)]))
        refine own_st (fun _ k => XS.lload X153.here hx rfl (hb hby at_249) rfl  k) ?_
        show own_Goes p e below s _ _ (T153.setTop (mkF m 251 #[own_jv q0, .second, own_jv q1, .second, own_jv q2, .second, iv p3, iv p4, iv p5, iv (0 : Int32), iv (0 : Int32), iv (0 : Int32), rv b102, rv b111, rv b115, rv b119, iv (1 : Int32)] [(.long q2), (.long q2)]))
        refine own_st (fun _ k => XS.lcmp X153.here hx rfl (hb hby at_251) rfl k) ?_
        show own_Goes p e below s _ _ (T153.setTop (mkF m 252 #[own_jv q0, .second, own_jv q1, .second, own_jv q2, .second, iv p3, iv p4, iv p5, iv (0 : Int32), iv (0 : Int32), iv (0 : Int32), rv b102, rv b111, rv b115, rv b119, iv (1 : Int32)] [(.int (lcmpW q2 q2))]))
        refine own_st (fun _ k => XS.ifNo X153.here hx rfl (hb hby at_252) rfl ((if0 _ _).trans (teq ((lw_eq _ _).mpr (rfl : q2 = q2))).2) k) ?_
        show own_Goes p e below s _ _ (T153.setTop (mkF m 255 #[own_jv q0, .second, own_jv q1, .second, own_jv q2, .second, iv p3, iv p4, iv p5, iv (0 : Int32), iv (0 : Int32), iv (0 : Int32), rv b102, rv b111, rv b115, rv b119, iv (1 : Int32)] []))
        refine own_st (fun _ k => XS.iconst X153.here hx rfl (hb hby at_255) k) ?_
        show own_Goes p e below s _ _ (T153.setTop (mkF m 256 #[own_jv q0, .second, own_jv q1, .second, own_jv q2, .second, iv p3, iv p4, iv p5, iv (0 : Int32), iv (0 : Int32), iv (0 : Int32), rv b102, rv b111, rv b115, rv b119, iv (1 : Int32)] [(.int (1 : Int32))]))
        refine own_st (fun _ k => XS.goto X153.here hx rfl (pc0 := 256) (pc' := 260) rfl (hb hby at_256) (by decide) (by decide) k) ?_
        show own_Goes p e below s _ _ (T153.setTop (mkF m 260 #[own_jv q0, .second, own_jv q1, .second, own_jv q2, .second, iv p3, iv p4, iv p5, iv (0 : Int32), iv (0 : Int32), iv (0 : Int32), rv b102, rv b111, rv b115, rv b119, iv (1 : Int32)] [(.int (1 : Int32))]))
        refine own_st (fun _ k => XS.istore X153.here hx rfl (hb hby at_260) rfl (l' := #[own_jv q0, .second, own_jv q1, .second, own_jv q2, .second, iv p3, iv p4, iv p5, iv (0 : Int32), iv (0 : Int32), iv (0 : Int32), rv b102, rv b111, rv b115, rv b119, iv (1 : Int32)]) rfl k) ?_
        show own_Goes p e below s _ _ (T153.setTop (mkF m 262 #[own_jv q0, .second, own_jv q1, .second, own_jv q2, .second, iv p3, iv p4, iv p5, iv (0 : Int32), iv (0 : Int32), iv (0 : Int32), rv b102, rv b111, rv b115, rv b119, iv (1 : Int32)] []))
        refine own_st (fun _ k => XS.iload X153.here hx rfl (hb hby at_262) rfl  k) ?_
        show own_Goes p e below s _ _ (T153.setTop (mkF m 264 #[own_jv q0, .second, own_jv q1, .second, own_jv q2, .second, iv p3, iv p4, iv p5, iv (0 : Int32), iv (0 : Int32), iv (0 : Int32), rv b102, rv b111, rv b115, rv b119, iv (1 : Int32)] [(.int (1 : Int32))]))
        exact own_retN X153 hx hlk (1 : Int32) hret (Or.inl rfl) rfl (hb hby at_264) (by decide) (by decide) ⟨rfl, N153⟩
      · show own_Goes p e below s _ _ (T119.setTop (mkF m 141 #[own_jv q0, .second, own_jv q1, .second, own_jv q2, .second, iv p3, iv p4, iv p5, iv (0 : Int32), iv (1 : Int32), iv (0 : Int32), rv b102, rv b111, rv b115, rv b119, .unset] []))
        refine own_st (fun _ k => XS.aload X119.here hx rfl (hb hby at_141) rfl rfl  k) ?_
        show own_Goes p e below s _ _ (T119.setTop (mkF m 143 #[own_jv q0, .second, own_jv q1, .second, own_jv q2, .second, iv p3, iv p4, iv p5, iv (0 : Int32), iv (1 : Int32), iv (0 : Int32), rv b102, rv b111, rv b115, rv b119, .unset] [(.ref b115)]))
        refine own_st (fun _ k => XS.iload X119.here hx rfl (hb hby at_143) rfl  k) ?_
        show own_Goes p e below s _ _ (T119.setTop (mkF m 145 #[own_jv q0, .second, own_jv q1, .second, own_jv q2, .second, iv p3, iv p4, iv p5, iv (0 : Int32), iv (1 : Int32), iv (0 : Int32), rv b102, rv b111, rv b115, rv b119, .unset] [(.int (1 : Int32)), (.ref b115)]))
        refine own_st (fun _ k => XS.aload X119.here hx rfl (hb hby at_145) rfl rfl  k) ?_
        show own_Goes p e below s _ _ (T119.setTop (mkF m 147 #[own_jv q0, .second, own_jv q1, .second, own_jv q2, .second, iv p3, iv p4, iv p5, iv (0 : Int32), iv (1 : Int32), iv (0 : Int32), rv b102, rv b111, rv b115, rv b119, .unset] [(.ref b111), (.int (1 : Int32)), (.ref b115)]))
        refine own_st (fun _ k => XS.iload X119.here hx rfl (hb hby at_147) rfl  k) ?_
        show own_Goes p e below s _ _ (T119.setTop (mkF m 149 #[own_jv q0, .second, own_jv q1, .second, own_jv q2, .second, iv p3, iv p4, iv p5, iv (0 : Int32), iv (1 : Int32), iv (0 : Int32), rv b102, rv b111, rv b115, rv b119, .unset] [(.int (0 : Int32)), (.ref b111), (.int (1 : Int32)), (.ref b115)]))
        have f154 := (((((V114.ext E115).other W116 (own_ne (by omega))).other W117 (own_ne (by omega))).other W118 (own_ne (by omega))).keep K119 nin0)
        refine own_st (fun _ k => own_ldJ X119 hx hZ rfl f154 (j := (0 : Int32)) (by decide) (g := (mkF m 149 #[own_jv q0, .second, own_jv q1, .second, own_jv q2, .second, iv p3, iv p4, iv p5, iv (0 : Int32), iv (1 : Int32), iv (0 : Int32), rv b102, rv b111, rv b115, rv b119, .unset] [(.int (0 : Int32)), (.ref b111), (.int (1 : Int32)), (.ref b115)])) rfl rfl (hb hby at_149) _ k) ?_
        show own_Goes p e below s _ _ (T119.setTop (mkF m 150 #[own_jv q0, .second, own_jv q1, .second, own_jv q2, .second, iv p3, iv p4, iv p5, iv (0 : Int32), iv (1 : Int32), iv (0 : Int32), rv b102, rv b111, rv b115, rv b119, .unset] [(.long q0), (.int (1 : Int32)), (.ref b115)]))
        have f155 := (V118.keep K119 nin0)
        obtain ⟨T156, h156, X156, e156, W156, A156, st156⟩ := own_stJ X119 hx hZ rfl f155 (j := (1 : Int32)) (by decide) (g := (mkF m 150 #[own_jv q0, .second, own_jv q1, .second, own_jv q2, .second, iv p3, iv p4, iv p5, iv (0 : Int32), iv (1 : Int32), iv (0 : Int32), rv b102, rv b111, rv b115, rv b119, .unset] [(.long q0), (.int (1 : Int32)), (.ref b115)])) rfl rfl (hb hby at_150)
        have V156 : own_Arf Z h156 b115 .long 3 (fun k => .long ((fun k => if k = 1 then q0 else (fun k => if k = 2 then q0 else (fun k => if k = 1 then q0 else (fun k => if k = 0 then q0 else (fun _ => (0 : Int64)) k) k) k) k) k)) := A156
        have z156 := W156.size
        have N156 := Fr.snoc X156 N119 (by omega)
        refine own_st st156 ?_
        show own_Goes p e below s _ _ (T156.setTop (mkF m 151 #[own_jv q0, .second, own_jv q1, .second, own_jv q2, .second, iv p3, iv p4, iv p5, iv (0 : Int32), iv (1 : Int32), iv (0 : Int32), rv b102, rv b111, rv b115, rv b119, .unset] []))
        refine own_st (fun _ k => XS.aload X156.here hx rfl (hb hby at_151) rfl rfl  k) ?_
        show own_Goes p e below s _ _ (T156.setTop (mkF m 153 #[own_jv q0, .second, own_jv q1, .second, own_jv q2, .second, iv p3, iv p4, iv p5, iv (0 : Int32), iv (1 : Int32), iv (0 : Int32), rv b102, rv b111, rv b115, rv b119, .unset] [(.ref b102)]))
        refine own_st (fun _ k => XS.iload X156.here hx rfl (hb hby at_153) rfl  k) ?_
        show own_Goes p e below s _ _ (T156.setTop (mkF m 155 #[own_jv q0, .second, own_jv q1, .second, own_jv q2, .second, iv p3, iv p4, iv p5, iv (0 : Int32), iv (1 : Int32), iv (0 : Int32), rv b102, rv b111, rv b115, rv b119, .unset] [(.int (0 : Int32)), (.ref b102)]))
        refine own_st (fun _ k => XS.aload X156.here hx rfl (hb hby at_155) rfl rfl  k) ?_
        show own_Goes p e below s _ _ (T156.setTop (mkF m 157 #[own_jv q0, .second, own_jv q1, .second, own_jv q2, .second, iv p3, iv p4, iv p5, iv (0 : Int32), iv (1 : Int32), iv (0 : Int32), rv b102, rv b111, rv b115, rv b119, .unset] [(.ref b119), (.int (0 : Int32)), (.ref b102)]))
        refine own_st (fun _ k => XS.iload X156.here hx rfl (hb hby at_157) rfl  k) ?_
        show own_Goes p e below s _ _ (T156.setTop (mkF m 159 #[own_jv q0, .second, own_jv q1, .second, own_jv q2, .second, iv p3, iv p4, iv p5, iv (0 : Int32), iv (1 : Int32), iv (0 : Int32), rv b102, rv b111, rv b115, rv b119, .unset] [(.int (1 : Int32)), (.ref b119), (.int (0 : Int32)), (.ref b102)]))
        have f158 := ((f120.keep K119 nin0).other W156 (Or.inl (own_ne (by omega))))
        have f159 := (Fc119.other W156 (Or.inl (own_ne (by omega))))
        have f160 := ((((((((((Vd109.ext E111).other W112 (own_ne (by omega))).other W113 (own_ne (by omega))).other W114 (own_ne (by omega))).ext E115).other W116 (own_ne (by omega))).other W117 (own_ne (by omega))).other W118 (own_ne (by omega))).keep K119 nin0).other W156 (own_ne (by omega)))
        have f161 := (Vc119.other W156 (own_ne (by omega)))
        have f162 := ((f128.keep K119).wr W156)
        obtain ⟨v157, T157, L157, X157, Q157, st157⟩ := own_callV X156 hx hZ (C := "com/example/reach2/reach2/model/CodedColumn") (y := (⟨"com/example/reach2/reach2/model/CodedColumn", "copyTo", "(ILcom/example/reach2/reach2/model/CodedColumn;I)V"⟩ : MethodName)) hown (hw _ (List.mem_of_getElem? (i := 38) rfl)) (hw _ (List.mem_of_getElem? (i := 39) rfl)) (hw _ (List.mem_of_getElem? (i := 41) rfl)) (hw _ (List.mem_of_getElem? (i := 40) rfl)) (hw _ (List.mem_of_getElem? (i := 3) rfl)) (hw _ (List.mem_of_getElem? (i := 42) rfl)) (by decide) (W := 0) (rest := []) (argsL := [(.int (0 : Int32)), (.ref b119), (.int (1 : Int32))]) (a := b102) (rmCT l Z a0 hw [] b102 (0 : Int32) b119 (1 : Int32) ac103 bc119 _ _ h156 n0 (by omega) f158 f159 f160 f161 (by decide) (by decide) (by omega)) (by decide) (by decide) (by decide) (by decide) e156 f162 own_pd5 rfl (g := (mkF m 159 #[own_jv q0, .second, own_jv q1, .second, own_jv q2, .second, iv p3, iv p4, iv p5, iv (0 : Int32), iv (1 : Int32), iv (0 : Int32), rv b102, rv b111, rv b115, rv b119, .unset] [(.int (1 : Int32)), (.ref b119), (.int (0 : Int32)), (.ref b102)])) rfl (by rw [hml]; rfl) rfl (by show 2 * 0 + _ ≤ _; exact Nat.le_of_eq rfl) (hb hby at_159)
        obtain ⟨rfl, N157q, K157, V157⟩ := Q157
        have z157 := K157.1
        have Vt157 : own_Arf Z T157.heap bc119 .byte 3 (fun k => .int ((fun k => if k = 1 then (nar .byte (nar .byte (r104.toInt8.toInt32))) else (fun _ => (0 : Int32)) k) k)) := V157
        have N157 := Fr.app N156 N157q
        refine own_st st157 ?_
        show own_Goes p e below s _ _ (T157.setTop (mkF m 162 #[own_jv q0, .second, own_jv q1, .second, own_jv q2, .second, iv p3, iv p4, iv p5, iv (0 : Int32), iv (1 : Int32), iv (0 : Int32), rv b102, rv b111, rv b115, rv b119, .unset] []))
        refine own_st (fun _ k => XS.aload X157.here hx rfl (hb hby at_162) rfl rfl  k) ?_
        show own_Goes p e below s _ _ (T157.setTop (mkF m 164 #[own_jv q0, .second, own_jv q1, .second, own_jv q2, .second, iv p3, iv p4, iv p5, iv (0 : Int32), iv (1 : Int32), iv (0 : Int32), rv b102, rv b111, rv b115, rv b119, .unset] [(.ref b119)]))
        refine own_st (fun _ k => XS.iconst X157.here hx rfl (hb hby at_164) k) ?_
        show own_Goes p e below s _ _ (T157.setTop (mkF m 165 #[own_jv q0, .second, own_jv q1, .second, own_jv q2, .second, iv p3, iv p4, iv p5, iv (0 : Int32), iv (1 : Int32), iv (0 : Int32), rv b102, rv b111, rv b115, rv b119, .unset] [(.int (0 : Int32)), (.ref b119)]))
        have f164 := (f159.keep K157 (ninS (own_ne (by omega)) nin0))
        have f165 := ((Fv119.other W156 (Or.inl (own_ne (by omega)))).keep K157 (ninS (own_ne (by omega)) nin0))
        have f166 := ((Vv119.other W156 (own_ne (by omega))).keep K157 (ninS (own_ne (by omega)) nin0))
        have f167 := ((A119.wr W156).keep K157)
        obtain ⟨v163, T163, L163, X163, Q163, st163⟩ := own_callV X157 hx hZ (C := "com/example/reach2/reach2/model/CodedColumn") (y := (⟨"com/example/reach2/reach2/model/CodedColumn", "get", "(I)J"⟩ : MethodName)) hown (hw _ (List.mem_of_getElem? (i := 43) rfl)) (hw _ (List.mem_of_getElem? (i := 44) rfl)) (hw _ (List.mem_of_getElem? (i := 46) rfl)) (hw _ (List.mem_of_getElem? (i := 45) rfl)) (hw _ (List.mem_of_getElem? (i := 3) rfl)) (hw _ (List.mem_of_getElem? (i := 47) rfl)) (by decide) (W := 0) (rest := []) (argsL := [(.int (0 : Int32))]) (a := b119) (rmGet l Z a0 hw [] b119 (0 : Int32) _ _ _ _ T157.heap n0 (by omega) f164 f165 Vt157 f166 (by decide)) (by decide) (by decide) (by decide) (by decide) rfl f167 own_pd6 rfl (g := (mkF m 165 #[own_jv q0, .second, own_jv q1, .second, own_jv q2, .second, iv p3, iv p4, iv p5, iv (0 : Int32), iv (1 : Int32), iv (0 : Int32), rv b102, rv b111, rv b115, rv b119, .unset] [(.int (0 : Int32)), (.ref b119)])) rfl (by rw [hml]; rfl) rfl (by show 2 * 0 + _ ≤ _; exact Nat.le_of_eq rfl) (hb hby at_165)
        obtain ⟨g163, rfl, hg163, N163q, e163⟩ := Q163
        obtain rfl : q0 = g163 := (hg163.trans (own_at0 (by omega) ((rf109 _ (by omega)).trans ((rf107 _ (by omega)).trans re104)))).symm
        have N163 := Fr.app N157 N163q
        refine own_st st163 ?_
        show own_Goes p e below s _ _ (T163.setTop (mkF m 168 #[own_jv q0, .second, own_jv q1, .second, own_jv q2, .second, iv p3, iv p4, iv p5, iv (0 : Int32), iv (1 : Int32), iv (0 : Int32), rv b102, rv b111, rv b115, rv b119, .unset] [(.long q0)]))
        refine own_st (fun _ k => XS.aload X163.here hx rfl (hb hby at_168) rfl rfl  k) ?_
        show own_Goes p e below s _ _ (T163.setTop (mkF m 170 #[own_jv q0, .second, own_jv q1, .second, own_jv q2, .second, iv p3, iv p4, iv p5, iv (0 : Int32), iv (1 : Int32), iv (0 : Int32), rv b102, rv b111, rv b115, rv b119, .unset] [(.ref b115), (.long q0)]))
        refine own_st (fun _ k => XS.iconst X163.here hx rfl (hb hby at_170) k) ?_
        show own_Goes p e below s _ _ (T163.setTop (mkF m 171 #[own_jv q0, .second, own_jv q1, .second, own_jv q2, .second, iv p3, iv p4, iv p5, iv (0 : Int32), iv (1 : Int32), iv (0 : Int32), rv b102, rv b111, rv b115, rv b119, .unset] [(.int (0 : Int32)), (.ref b115), (.long q0)]))
        have f168 := (V156.keep K157 (ninS (own_ne (by omega)) nin0))
        refine own_st (fun _ k => own_ldJ X163 hx hZ e163 f168 (j := (0 : Int32)) (by decide) (g := (mkF m 171 #[own_jv q0, .second, own_jv q1, .second, own_jv q2, .second, iv p3, iv p4, iv p5, iv (0 : Int32), iv (1 : Int32), iv (0 : Int32), rv b102, rv b111, rv b115, rv b119, .unset] [(.int (0 : Int32)), (.ref b115), (.long q0)])) rfl rfl (hb hby at_171) _ k) ?_
        show own_Goes p e below s _ _ (T163.setTop (mkF m 172 #[own_jv q0, .second, own_jv q1, .second, own_jv q2, .second, iv p3, iv p4, iv p5, iv (0 : Int32), iv (1 : Int32), iv (0 : Int32), rv b102, rv b111, rv b115, rv b119, .unset] [(.long q0), (.long q0)]))
        refine own_st (fun _ k => XS.lcmp X163.here hx rfl (hb hby at_172) rfl k) ?_
        show own_Goes p e below s _ _ (T163.setTop (mkF m 173 #[own_jv q0, .second, own_jv q1, .second, own_jv q2, .second, iv p3, iv p4, iv p5, iv (0 : Int32), iv (1 : Int32), iv (0 : Int32), rv b102, rv b111, rv b115, rv b119, .unset] [(.int (lcmpW q0 q0))]))
        refine own_st (fun _ k => XS.ifNo X163.here hx rfl (hb hby at_173) rfl ((if0 _ _).trans (teq ((lw_eq _ _).mpr (rfl : q0 = q0))).2) k) ?_
        show own_Goes p e below s _ _ (T163.setTop (mkF m 176 #[own_jv q0, .second, own_jv q1, .second, own_jv q2, .second, iv p3, iv p4, iv p5, iv (0 : Int32), iv (1 : Int32), iv (0 : Int32), rv b102, rv b111, rv b115, rv b119, .unset] []))
        refine own_st (fun _ k => XS.aload X163.here hx rfl (hb hby at_176) rfl rfl  k) ?_
        show own_Goes p e below s _ _ (T163.setTop (mkF m 178 #[own_jv q0, .second, own_jv q1, .second, own_jv q2, .second, iv p3, iv p4, iv p5, iv (0 : Int32), iv (1 : Int32), iv (0 : Int32), rv b102, rv b111, rv b115, rv b119, .unset] [(.ref b119)]))
        refine own_st (fun _ k => XS.iconst X163.here hx rfl (hb hby at_178) k) ?_
        show own_Goes p e below s _ _ (T163.setTop (mkF m 179 #[own_jv q0, .second, own_jv q1, .second, own_jv q2, .second, iv p3, iv p4, iv p5, iv (0 : Int32), iv (1 : Int32), iv (0 : Int32), rv b102, rv b111, rv b115, rv b119, .unset] [(.int (1 : Int32)), (.ref b119)]))
        obtain ⟨v169, T169, L169, X169, Q169, st169⟩ := own_callV X163 hx hZ (C := "com/example/reach2/reach2/model/CodedColumn") (y := (⟨"com/example/reach2/reach2/model/CodedColumn", "get", "(I)J"⟩ : MethodName)) hown (hw _ (List.mem_of_getElem? (i := 43) rfl)) (hw _ (List.mem_of_getElem? (i := 44) rfl)) (hw _ (List.mem_of_getElem? (i := 46) rfl)) (hw _ (List.mem_of_getElem? (i := 45) rfl)) (hw _ (List.mem_of_getElem? (i := 3) rfl)) (hw _ (List.mem_of_getElem? (i := 47) rfl)) (by decide) (W := 0) (rest := []) (argsL := [(.int (1 : Int32))]) (a := b119) (rmGet l Z a0 hw [] b119 (1 : Int32) _ _ _ _ T157.heap n0 (by omega) f164 f165 Vt157 f166 (by decide)) (by decide) (by decide) (by decide) (by decide) e163 f167 own_pd6 rfl (g := (mkF m 179 #[own_jv q0, .second, own_jv q1, .second, own_jv q2, .second, iv p3, iv p4, iv p5, iv (0 : Int32), iv (1 : Int32), iv (0 : Int32), rv b102, rv b111, rv b115, rv b119, .unset] [(.int (1 : Int32)), (.ref b119)])) rfl (by rw [hml]; rfl) rfl (by show 2 * 0 + _ ≤ _; exact Nat.le_of_eq rfl) (hb hby at_179)
        obtain ⟨g169, rfl, hg169, N169q, e169⟩ := Q169
        obtain rfl : q0 = g169 := (hg169.trans (own_at2 (by omega) ((rf109 _ (by omega)).trans ((rf107 _ (by omega)).trans re104)))).symm
        have N169 := Fr.app N163 N169q
        refine own_st st169 ?_
        show own_Goes p e below s _ _ (T169.setTop (mkF m 182 #[own_jv q0, .second, own_jv q1, .second, own_jv q2, .second, iv p3, iv p4, iv p5, iv (0 : Int32), iv (1 : Int32), iv (0 : Int32), rv b102, rv b111, rv b115, rv b119, .unset] [(.long q0)]))
        refine own_st (fun _ k => XS.aload X169.here hx rfl (hb hby at_182) rfl rfl  k) ?_
        show own_Goes p e below s _ _ (T169.setTop (mkF m 184 #[own_jv q0, .second, own_jv q1, .second, own_jv q2, .second, iv p3, iv p4, iv p5, iv (0 : Int32), iv (1 : Int32), iv (0 : Int32), rv b102, rv b111, rv b115, rv b119, .unset] [(.ref b115), (.long q0)]))
        refine own_st (fun _ k => XS.iconst X169.here hx rfl (hb hby at_184) k) ?_
        show own_Goes p e below s _ _ (T169.setTop (mkF m 185 #[own_jv q0, .second, own_jv q1, .second, own_jv q2, .second, iv p3, iv p4, iv p5, iv (0 : Int32), iv (1 : Int32), iv (0 : Int32), rv b102, rv b111, rv b115, rv b119, .unset] [(.int (1 : Int32)), (.ref b115), (.long q0)]))
        refine own_st (fun _ k => own_ldJ X169 hx hZ e169 f168 (j := (1 : Int32)) (by decide) (g := (mkF m 185 #[own_jv q0, .second, own_jv q1, .second, own_jv q2, .second, iv p3, iv p4, iv p5, iv (0 : Int32), iv (1 : Int32), iv (0 : Int32), rv b102, rv b111, rv b115, rv b119, .unset] [(.int (1 : Int32)), (.ref b115), (.long q0)])) rfl rfl (hb hby at_185) _ k) ?_
        show own_Goes p e below s _ _ (T169.setTop (mkF m 186 #[own_jv q0, .second, own_jv q1, .second, own_jv q2, .second, iv p3, iv p4, iv p5, iv (0 : Int32), iv (1 : Int32), iv (0 : Int32), rv b102, rv b111, rv b115, rv b119, .unset] [(.long q0), (.long q0)]))
        refine own_st (fun _ k => XS.lcmp X169.here hx rfl (hb hby at_186) rfl k) ?_
        show own_Goes p e below s _ _ (T169.setTop (mkF m 187 #[own_jv q0, .second, own_jv q1, .second, own_jv q2, .second, iv p3, iv p4, iv p5, iv (0 : Int32), iv (1 : Int32), iv (0 : Int32), rv b102, rv b111, rv b115, rv b119, .unset] [(.int (lcmpW q0 q0))]))
        refine own_st (fun _ k => XS.ifNo X169.here hx rfl (hb hby at_187) rfl ((if0 _ _).trans (teq ((lw_eq _ _).mpr (rfl : q0 = q0))).2) k) ?_
        show own_Goes p e below s _ _ (T169.setTop (mkF m 190 #[own_jv q0, .second, own_jv q1, .second, own_jv q2, .second, iv p3, iv p4, iv p5, iv (0 : Int32), iv (1 : Int32), iv (0 : Int32), rv b102, rv b111, rv b115, rv b119, .unset] []))
        refine own_st (fun _ k => XS.aload X169.here hx rfl (hb hby at_190) rfl rfl  k) ?_
        show own_Goes p e below s _ _ (T169.setTop (mkF m 192 #[own_jv q0, .second, own_jv q1, .second, own_jv q2, .second, iv p3, iv p4, iv p5, iv (0 : Int32), iv (1 : Int32), iv (0 : Int32), rv b102, rv b111, rv b115, rv b119, .unset] [(.ref b119)]))
        refine own_st (fun _ k => XS.iconst X169.here hx rfl (hb hby at_192) k) ?_
        show own_Goes p e below s _ _ (T169.setTop (mkF m 193 #[own_jv q0, .second, own_jv q1, .second, own_jv q2, .second, iv p3, iv p4, iv p5, iv (0 : Int32), iv (1 : Int32), iv (0 : Int32), rv b102, rv b111, rv b115, rv b119, .unset] [(.int (2 : Int32)), (.ref b119)]))
        obtain ⟨v170, T170, L170, X170, Q170, st170⟩ := own_callV X169 hx hZ (C := "com/example/reach2/reach2/model/CodedColumn") (y := (⟨"com/example/reach2/reach2/model/CodedColumn", "get", "(I)J"⟩ : MethodName)) hown (hw _ (List.mem_of_getElem? (i := 43) rfl)) (hw _ (List.mem_of_getElem? (i := 44) rfl)) (hw _ (List.mem_of_getElem? (i := 46) rfl)) (hw _ (List.mem_of_getElem? (i := 45) rfl)) (hw _ (List.mem_of_getElem? (i := 3) rfl)) (hw _ (List.mem_of_getElem? (i := 47) rfl)) (by decide) (W := 0) (rest := []) (argsL := [(.int (2 : Int32))]) (a := b119) (rmGet l Z a0 hw [] b119 (2 : Int32) _ _ _ _ T157.heap n0 (by omega) f164 f165 Vt157 f166 (by decide)) (by decide) (by decide) (by decide) (by decide) e169 f167 own_pd6 rfl (g := (mkF m 193 #[own_jv q0, .second, own_jv q1, .second, own_jv q2, .second, iv p3, iv p4, iv p5, iv (0 : Int32), iv (1 : Int32), iv (0 : Int32), rv b102, rv b111, rv b115, rv b119, .unset] [(.int (2 : Int32)), (.ref b119)])) rfl (by rw [hml]; rfl) rfl (by show 2 * 0 + _ ≤ _; exact Nat.le_of_eq rfl) (hb hby at_193)
        obtain ⟨g170, rfl, hg170, N170q, e170⟩ := Q170
        obtain rfl : q0 = g170 := (hg170.trans (own_at0 (by omega) ((rf109 _ (by omega)).trans ((rf107 _ (by omega)).trans re104)))).symm
        have N170 := Fr.app N169 N170q
        refine own_st st170 ?_
        show own_Goes p e below s _ _ (T170.setTop (mkF m 196 #[own_jv q0, .second, own_jv q1, .second, own_jv q2, .second, iv p3, iv p4, iv p5, iv (0 : Int32), iv (1 : Int32), iv (0 : Int32), rv b102, rv b111, rv b115, rv b119, .unset] [(.long q0)]))
        refine own_st (fun _ k => XS.aload X170.here hx rfl (hb hby at_196) rfl rfl  k) ?_
        show own_Goes p e below s _ _ (T170.setTop (mkF m 198 #[own_jv q0, .second, own_jv q1, .second, own_jv q2, .second, iv p3, iv p4, iv p5, iv (0 : Int32), iv (1 : Int32), iv (0 : Int32), rv b102, rv b111, rv b115, rv b119, .unset] [(.ref b115), (.long q0)]))
        refine own_st (fun _ k => XS.iconst X170.here hx rfl (hb hby at_198) k) ?_
        show own_Goes p e below s _ _ (T170.setTop (mkF m 199 #[own_jv q0, .second, own_jv q1, .second, own_jv q2, .second, iv p3, iv p4, iv p5, iv (0 : Int32), iv (1 : Int32), iv (0 : Int32), rv b102, rv b111, rv b115, rv b119, .unset] [(.int (2 : Int32)), (.ref b115), (.long q0)]))
        refine own_st (fun _ k => own_ldJ X170 hx hZ e170 f168 (j := (2 : Int32)) (by decide) (g := (mkF m 199 #[own_jv q0, .second, own_jv q1, .second, own_jv q2, .second, iv p3, iv p4, iv p5, iv (0 : Int32), iv (1 : Int32), iv (0 : Int32), rv b102, rv b111, rv b115, rv b119, .unset] [(.int (2 : Int32)), (.ref b115), (.long q0)])) rfl rfl (hb hby at_199) _ k) ?_
        show own_Goes p e below s _ _ (T170.setTop (mkF m 200 #[own_jv q0, .second, own_jv q1, .second, own_jv q2, .second, iv p3, iv p4, iv p5, iv (0 : Int32), iv (1 : Int32), iv (0 : Int32), rv b102, rv b111, rv b115, rv b119, .unset] [(.long q0), (.long q0)]))
        refine own_st (fun _ k => XS.lcmp X170.here hx rfl (hb hby at_200) rfl k) ?_
        show own_Goes p e below s _ _ (T170.setTop (mkF m 201 #[own_jv q0, .second, own_jv q1, .second, own_jv q2, .second, iv p3, iv p4, iv p5, iv (0 : Int32), iv (1 : Int32), iv (0 : Int32), rv b102, rv b111, rv b115, rv b119, .unset] [(.int (lcmpW q0 q0))]))
        refine own_st (fun _ k => XS.ifNo X170.here hx rfl (hb hby at_201) rfl ((if0 _ _).trans (teq ((lw_eq _ _).mpr (rfl : q0 = q0))).2) k) ?_
        show own_Goes p e below s _ _ (T170.setTop (mkF m 204 #[own_jv q0, .second, own_jv q1, .second, own_jv q2, .second, iv p3, iv p4, iv p5, iv (0 : Int32), iv (1 : Int32), iv (0 : Int32), rv b102, rv b111, rv b115, rv b119, .unset] []))
        refine own_st (fun _ k => XS.iconst X170.here hx rfl (hb hby at_204) k) ?_
        show own_Goes p e below s _ _ (T170.setTop (mkF m 205 #[own_jv q0, .second, own_jv q1, .second, own_jv q2, .second, iv p3, iv p4, iv p5, iv (0 : Int32), iv (1 : Int32), iv (0 : Int32), rv b102, rv b111, rv b115, rv b119, .unset] [(.int (1 : Int32))]))
        refine own_st (fun _ k => XS.goto X170.here hx rfl (pc0 := 205) (pc' := 209) rfl (hb hby at_205) (by decide) (by decide) k) ?_
        show own_Goes p e below s _ _ (T170.setTop (mkF m 209 #[own_jv q0, .second, own_jv q1, .second, own_jv q2, .second, iv p3, iv p4, iv p5, iv (0 : Int32), iv (1 : Int32), iv (0 : Int32), rv b102, rv b111, rv b115, rv b119, .unset] [(.int (1 : Int32))]))
        refine own_st (fun _ k => XS.istore X170.here hx rfl (hb hby at_209) rfl (l' := #[own_jv q0, .second, own_jv q1, .second, own_jv q2, .second, iv p3, iv p4, iv p5, iv (0 : Int32), iv (1 : Int32), iv (0 : Int32), rv b102, rv b111, rv b115, rv b119, iv (1 : Int32)]) rfl k) ?_
        show own_Goes p e below s _ _ (T170.setTop (mkF m 211 #[own_jv q0, .second, own_jv q1, .second, own_jv q2, .second, iv p3, iv p4, iv p5, iv (0 : Int32), iv (1 : Int32), iv (0 : Int32), rv b102, rv b111, rv b115, rv b119, iv (1 : Int32)] []))
        refine own_st (fun _ k => XS.iload X170.here hx rfl (hb hby at_211) rfl  k) ?_
        show own_Goes p e below s _ _ (T170.setTop (mkF m 213 #[own_jv q0, .second, own_jv q1, .second, own_jv q2, .second, iv p3, iv p4, iv p5, iv (0 : Int32), iv (1 : Int32), iv (0 : Int32), rv b102, rv b111, rv b115, rv b119, iv (1 : Int32)] [(.int (0 : Int32))]))
        refine own_st (fun _ k => XS.ifNo X170.here hx rfl (hb hby at_213) rfl ((if0 _ _).trans (teq (by decide : (0 : Int32) = (0 : Int32))).2) k) ?_
        show own_Goes p e below s _ _ (T170.setTop (mkF m 216 #[own_jv q0, .second, own_jv q1, .second, own_jv q2, .second, iv p3, iv p4, iv p5, iv (0 : Int32), iv (1 : Int32), iv (0 : Int32), rv b102, rv b111, rv b115, rv b119, iv (1 : Int32)] []))
        refine own_st (fun _ k => XS.iload X170.here hx rfl (hb hby at_216) rfl  k) ?_
        show own_Goes p e below s _ _ (T170.setTop (mkF m 218 #[own_jv q0, .second, own_jv q1, .second, own_jv q2, .second, iv p3, iv p4, iv p5, iv (0 : Int32), iv (1 : Int32), iv (0 : Int32), rv b102, rv b111, rv b115, rv b119, iv (1 : Int32)] [(.int (1 : Int32))]))
        refine own_st (fun _ k => XS.ifNo X170.here hx rfl (hb hby at_218) rfl ((if0 _ _).trans (feq (by decide : ¬ ((1 : Int32) = (0 : Int32)))).1) k) ?_
        show own_Goes p e below s _ _ (T170.setTop (mkF m 221 #[own_jv q0, .second, own_jv q1, .second, own_jv q2, .second, iv p3, iv p4, iv p5, iv (0 : Int32), iv (1 : Int32), iv (0 : Int32), rv b102, rv b111, rv b115, rv b119, iv (1 : Int32)] []))
        refine own_st (fun _ k => XS.aload X170.here hx rfl (hb hby at_221) rfl rfl  k) ?_
        show own_Goes p e below s _ _ (T170.setTop (mkF m 223 #[own_jv q0, .second, own_jv q1, .second, own_jv q2, .second, iv p3, iv p4, iv p5, iv (0 : Int32), iv (1 : Int32), iv (0 : Int32), rv b102, rv b111, rv b115, rv b119, iv (1 : Int32)] [(.ref b102)]))
        refine own_st (fun _ k => XS.iconst X170.here hx rfl (hb hby at_223) k) ?_
        show own_Goes p e below s _ _ (T170.setTop (mkF m 224 #[own_jv q0, .second, own_jv q1, .second, own_jv q2, .second, iv p3, iv p4, iv p5, iv (0 : Int32), iv (1 : Int32), iv (0 : Int32), rv b102, rv b111, rv b115, rv b119, iv (1 : Int32)] [(.int (0 : Int32)), (.ref b102)]))
        have f172 := (f158.keep K157 (ninS (own_ne (by omega)) nin0))
        have f173 := (((f121.keep K119 nin0).other W156 (Or.inl (own_ne (by omega)))).keep K157 (ninS (own_ne (by omega)) nin0))
        have f174 := (f160.keep K157 (ninS (own_ne (by omega)) nin0))
        have f175 := (((f124.keep K119 nin0).other W156 (own_ne (by omega))).keep K157 (ninS (own_ne (by omega)) nin0))
        have f176 := (f162.keep K157)
        obtain ⟨v171, T171, L171, X171, Q171, st171⟩ := own_callV X170 hx hZ (C := "com/example/reach2/reach2/model/CodedColumn") (y := (⟨"com/example/reach2/reach2/model/CodedColumn", "get", "(I)J"⟩ : MethodName)) hown (hw _ (List.mem_of_getElem? (i := 43) rfl)) (hw _ (List.mem_of_getElem? (i := 44) rfl)) (hw _ (List.mem_of_getElem? (i := 46) rfl)) (hw _ (List.mem_of_getElem? (i := 45) rfl)) (hw _ (List.mem_of_getElem? (i := 3) rfl)) (hw _ (List.mem_of_getElem? (i := 47) rfl)) (by decide) (W := 0) (rest := []) (argsL := [(.int (0 : Int32))]) (a := b102) (rmGet l Z a0 hw [] b102 (0 : Int32) _ _ _ _ T157.heap n0 (by omega) f172 f173 f174 f175 (by decide)) (by decide) (by decide) (by decide) (by decide) e170 f176 own_pd6 rfl (g := (mkF m 224 #[own_jv q0, .second, own_jv q1, .second, own_jv q2, .second, iv p3, iv p4, iv p5, iv (0 : Int32), iv (1 : Int32), iv (0 : Int32), rv b102, rv b111, rv b115, rv b119, iv (1 : Int32)] [(.int (0 : Int32)), (.ref b102)])) rfl (by rw [hml]; rfl) rfl (by show 2 * 0 + _ ≤ _; exact Nat.le_of_eq rfl) (hb hby at_224)
        obtain ⟨g171, rfl, hg171, N171q, e171⟩ := Q171
        obtain rfl : q0 = g171 := (hg171.trans (own_at (by omega) ((rf109 _ (by omega)).trans ((rf107 _ (by omega)).trans re104)))).symm
        have N171 := Fr.app N170 N171q
        refine own_st st171 ?_
        show own_Goes p e below s _ _ (T171.setTop (mkF m 227 #[own_jv q0, .second, own_jv q1, .second, own_jv q2, .second, iv p3, iv p4, iv p5, iv (0 : Int32), iv (1 : Int32), iv (0 : Int32), rv b102, rv b111, rv b115, rv b119, iv (1 : Int32)] [(.long q0)]))
        refine own_st (fun _ k => XS.lloadN X171.here hx rfl (hb hby at_227) rfl  k) ?_
        show own_Goes p e below s _ _ (T171.setTop (mkF m 228 #[own_jv q0, .second, own_jv q1, .second, own_jv q2, .second, iv p3, iv p4, iv p5, iv (0 : Int32), iv (1 : Int32), iv (0 : Int32), rv b102, rv b111, rv b115, rv b119, iv (1 : Int32)] [(.long q0), (.long q0)]))
        refine own_st (fun _ k => XS.lcmp X171.here hx rfl (hb hby at_228) rfl k) ?_
        show own_Goes p e below s _ _ (T171.setTop (mkF m 229 #[own_jv q0, .second, own_jv q1, .second, own_jv q2, .second, iv p3, iv p4, iv p5, iv (0 : Int32), iv (1 : Int32), iv (0 : Int32), rv b102, rv b111, rv b115, rv b119, iv (1 : Int32)] [(.int (lcmpW q0 q0))]))
        refine own_st (fun _ k => XS.ifNo X171.here hx rfl (hb hby at_229) rfl ((if0 _ _).trans (teq ((lw_eq _ _).mpr (rfl : q0 = q0))).2) k) ?_
        show own_Goes p e below s _ _ (T171.setTop (mkF m 232 #[own_jv q0, .second, own_jv q1, .second, own_jv q2, .second, iv p3, iv p4, iv p5, iv (0 : Int32), iv (1 : Int32), iv (0 : Int32), rv b102, rv b111, rv b115, rv b119, iv (1 : Int32)] []))
        refine own_st (fun _ k => XS.aload X171.here hx rfl (hb hby at_232) rfl rfl  k) ?_
        show own_Goes p e below s _ _ (T171.setTop (mkF m 234 #[own_jv q0, .second, own_jv q1, .second, own_jv q2, .second, iv p3, iv p4, iv p5, iv (0 : Int32), iv (1 : Int32), iv (0 : Int32), rv b102, rv b111, rv b115, rv b119, iv (1 : Int32)] [(.ref b102)]))
        refine own_st (fun _ k => XS.iconst X171.here hx rfl (hb hby at_234) k) ?_
        show own_Goes p e below s _ _ (T171.setTop (mkF m 235 #[own_jv q0, .second, own_jv q1, .second, own_jv q2, .second, iv p3, iv p4, iv p5, iv (0 : Int32), iv (1 : Int32), iv (0 : Int32), rv b102, rv b111, rv b115, rv b119, iv (1 : Int32)] [(.int (1 : Int32)), (.ref b102)]))
        obtain ⟨v177, T177, L177, X177, Q177, st177⟩ := own_callV X171 hx hZ (C := "com/example/reach2/reach2/model/CodedColumn") (y := (⟨"com/example/reach2/reach2/model/CodedColumn", "get", "(I)J"⟩ : MethodName)) hown (hw _ (List.mem_of_getElem? (i := 43) rfl)) (hw _ (List.mem_of_getElem? (i := 44) rfl)) (hw _ (List.mem_of_getElem? (i := 46) rfl)) (hw _ (List.mem_of_getElem? (i := 45) rfl)) (hw _ (List.mem_of_getElem? (i := 3) rfl)) (hw _ (List.mem_of_getElem? (i := 47) rfl)) (by decide) (W := 0) (rest := []) (argsL := [(.int (1 : Int32))]) (a := b102) (rmGet l Z a0 hw [] b102 (1 : Int32) _ _ _ _ T157.heap n0 (by omega) f172 f173 f174 f175 (by decide)) (by decide) (by decide) (by decide) (by decide) e171 f176 own_pd6 rfl (g := (mkF m 235 #[own_jv q0, .second, own_jv q1, .second, own_jv q2, .second, iv p3, iv p4, iv p5, iv (0 : Int32), iv (1 : Int32), iv (0 : Int32), rv b102, rv b111, rv b115, rv b119, iv (1 : Int32)] [(.int (1 : Int32)), (.ref b102)])) rfl (by rw [hml]; rfl) rfl (by show 2 * 0 + _ ≤ _; exact Nat.le_of_eq rfl) (hb hby at_235)
        obtain ⟨g177, rfl, hg177, N177q, e177⟩ := Q177
        obtain rfl : q1 = g177 := (hg177.trans (own_at (by omega) ((rf109 _ (by omega)).trans re107))).symm
        have N177 := Fr.app N171 N177q
        refine own_st st177 ?_
        show own_Goes p e below s _ _ (T177.setTop (mkF m 238 #[own_jv q0, .second, own_jv q1, .second, own_jv q2, .second, iv p3, iv p4, iv p5, iv (0 : Int32), iv (1 : Int32), iv (0 : Int32), rv b102, rv b111, rv b115, rv b119, iv (1 : Int32)] [(.long q1)]))
        refine own_st (fun _ k => XS.lloadN X177.here hx rfl (hb hby at_238) rfl  k) ?_
        show own_Goes p e below s _ _ (T177.setTop (mkF m 239 #[own_jv q0, .second, own_jv q1, .second, own_jv q2, .second, iv p3, iv p4, iv p5, iv (0 : Int32), iv (1 : Int32), iv (0 : Int32), rv b102, rv b111, rv b115, rv b119, iv (1 : Int32)] [(.long q1), (.long q1)]))
        refine own_st (fun _ k => XS.lcmp X177.here hx rfl (hb hby at_239) rfl k) ?_
        show own_Goes p e below s _ _ (T177.setTop (mkF m 240 #[own_jv q0, .second, own_jv q1, .second, own_jv q2, .second, iv p3, iv p4, iv p5, iv (0 : Int32), iv (1 : Int32), iv (0 : Int32), rv b102, rv b111, rv b115, rv b119, iv (1 : Int32)] [(.int (lcmpW q1 q1))]))
        refine own_st (fun _ k => XS.ifNo X177.here hx rfl (hb hby at_240) rfl ((if0 _ _).trans (teq ((lw_eq _ _).mpr (rfl : q1 = q1))).2) k) ?_
        show own_Goes p e below s _ _ (T177.setTop (mkF m 243 #[own_jv q0, .second, own_jv q1, .second, own_jv q2, .second, iv p3, iv p4, iv p5, iv (0 : Int32), iv (1 : Int32), iv (0 : Int32), rv b102, rv b111, rv b115, rv b119, iv (1 : Int32)] []))
        refine own_st (fun _ k => XS.aload X177.here hx rfl (hb hby at_243) rfl rfl  k) ?_
        show own_Goes p e below s _ _ (T177.setTop (mkF m 245 #[own_jv q0, .second, own_jv q1, .second, own_jv q2, .second, iv p3, iv p4, iv p5, iv (0 : Int32), iv (1 : Int32), iv (0 : Int32), rv b102, rv b111, rv b115, rv b119, iv (1 : Int32)] [(.ref b102)]))
        refine own_st (fun _ k => XS.iconst X177.here hx rfl (hb hby at_245) k) ?_
        show own_Goes p e below s _ _ (T177.setTop (mkF m 246 #[own_jv q0, .second, own_jv q1, .second, own_jv q2, .second, iv p3, iv p4, iv p5, iv (0 : Int32), iv (1 : Int32), iv (0 : Int32), rv b102, rv b111, rv b115, rv b119, iv (1 : Int32)] [(.int (2 : Int32)), (.ref b102)]))
        obtain ⟨v178, T178, L178, X178, Q178, st178⟩ := own_callV X177 hx hZ (C := "com/example/reach2/reach2/model/CodedColumn") (y := (⟨"com/example/reach2/reach2/model/CodedColumn", "get", "(I)J"⟩ : MethodName)) hown (hw _ (List.mem_of_getElem? (i := 43) rfl)) (hw _ (List.mem_of_getElem? (i := 44) rfl)) (hw _ (List.mem_of_getElem? (i := 46) rfl)) (hw _ (List.mem_of_getElem? (i := 45) rfl)) (hw _ (List.mem_of_getElem? (i := 3) rfl)) (hw _ (List.mem_of_getElem? (i := 47) rfl)) (by decide) (W := 0) (rest := []) (argsL := [(.int (2 : Int32))]) (a := b102) (rmGet l Z a0 hw [] b102 (2 : Int32) _ _ _ _ T157.heap n0 (by omega) f172 f173 f174 f175 (by decide)) (by decide) (by decide) (by decide) (by decide) e177 f176 own_pd6 rfl (g := (mkF m 246 #[own_jv q0, .second, own_jv q1, .second, own_jv q2, .second, iv p3, iv p4, iv p5, iv (0 : Int32), iv (1 : Int32), iv (0 : Int32), rv b102, rv b111, rv b115, rv b119, iv (1 : Int32)] [(.int (2 : Int32)), (.ref b102)])) rfl (by rw [hml]; rfl) rfl (by show 2 * 0 + _ ≤ _; exact Nat.le_of_eq rfl) (hb hby at_246)
        obtain ⟨g178, rfl, hg178, N178q, e178⟩ := Q178
        obtain rfl : q2 = g178 := (hg178.trans (own_at (by omega) re109)).symm
        have N178 := Fr.app N177 N178q
        refine own_st st178 ?_
        show own_Goes p e below s _ _ (T178.setTop (mkF m 249 #[own_jv q0, .second, own_jv q1, .second, own_jv q2, .second, iv p3, iv p4, iv p5, iv (0 : Int32), iv (1 : Int32), iv (0 : Int32), rv b102, rv b111, rv b115, rv b119, iv (1 : Int32)] [(.long q2)]))
        refine own_st (fun _ k => XS.lload X178.here hx rfl (hb hby at_249) rfl  k) ?_
        show own_Goes p e below s _ _ (T178.setTop (mkF m 251 #[own_jv q0, .second, own_jv q1, .second, own_jv q2, .second, iv p3, iv p4, iv p5, iv (0 : Int32), iv (1 : Int32), iv (0 : Int32), rv b102, rv b111, rv b115, rv b119, iv (1 : Int32)] [(.long q2), (.long q2)]))
        refine own_st (fun _ k => XS.lcmp X178.here hx rfl (hb hby at_251) rfl k) ?_
        show own_Goes p e below s _ _ (T178.setTop (mkF m 252 #[own_jv q0, .second, own_jv q1, .second, own_jv q2, .second, iv p3, iv p4, iv p5, iv (0 : Int32), iv (1 : Int32), iv (0 : Int32), rv b102, rv b111, rv b115, rv b119, iv (1 : Int32)] [(.int (lcmpW q2 q2))]))
        refine own_st (fun _ k => XS.ifNo X178.here hx rfl (hb hby at_252) rfl ((if0 _ _).trans (teq ((lw_eq _ _).mpr (rfl : q2 = q2))).2) k) ?_
        show own_Goes p e below s _ _ (T178.setTop (mkF m 255 #[own_jv q0, .second, own_jv q1, .second, own_jv q2, .second, iv p3, iv p4, iv p5, iv (0 : Int32), iv (1 : Int32), iv (0 : Int32), rv b102, rv b111, rv b115, rv b119, iv (1 : Int32)] []))
        refine own_st (fun _ k => XS.iconst X178.here hx rfl (hb hby at_255) k) ?_
        show own_Goes p e below s _ _ (T178.setTop (mkF m 256 #[own_jv q0, .second, own_jv q1, .second, own_jv q2, .second, iv p3, iv p4, iv p5, iv (0 : Int32), iv (1 : Int32), iv (0 : Int32), rv b102, rv b111, rv b115, rv b119, iv (1 : Int32)] [(.int (1 : Int32))]))
        refine own_st (fun _ k => XS.goto X178.here hx rfl (pc0 := 256) (pc' := 260) rfl (hb hby at_256) (by decide) (by decide) k) ?_
        show own_Goes p e below s _ _ (T178.setTop (mkF m 260 #[own_jv q0, .second, own_jv q1, .second, own_jv q2, .second, iv p3, iv p4, iv p5, iv (0 : Int32), iv (1 : Int32), iv (0 : Int32), rv b102, rv b111, rv b115, rv b119, iv (1 : Int32)] [(.int (1 : Int32))]))
        refine own_st (fun _ k => XS.istore X178.here hx rfl (hb hby at_260) rfl (l' := #[own_jv q0, .second, own_jv q1, .second, own_jv q2, .second, iv p3, iv p4, iv p5, iv (0 : Int32), iv (1 : Int32), iv (0 : Int32), rv b102, rv b111, rv b115, rv b119, iv (1 : Int32)]) rfl k) ?_
        show own_Goes p e below s _ _ (T178.setTop (mkF m 262 #[own_jv q0, .second, own_jv q1, .second, own_jv q2, .second, iv p3, iv p4, iv p5, iv (0 : Int32), iv (1 : Int32), iv (0 : Int32), rv b102, rv b111, rv b115, rv b119, iv (1 : Int32)] []))
        refine own_st (fun _ k => XS.iload X178.here hx rfl (hb hby at_262) rfl  k) ?_
        show own_Goes p e below s _ _ (T178.setTop (mkF m 264 #[own_jv q0, .second, own_jv q1, .second, own_jv q2, .second, iv p3, iv p4, iv p5, iv (0 : Int32), iv (1 : Int32), iv (0 : Int32), rv b102, rv b111, rv b115, rv b119, iv (1 : Int32)] [(.int (1 : Int32))]))
        exact own_retN X178 hx hlk (1 : Int32) hret (Or.inl rfl) rfl (hb hby at_264) (by decide) (by decide) ⟨rfl, N178⟩
      · show own_Goes p e below s _ _ (T119.setTop (mkF m 141 #[own_jv q0, .second, own_jv q1, .second, own_jv q2, .second, iv p3, iv p4, iv p5, iv (0 : Int32), iv (2 : Int32), iv (0 : Int32), rv b102, rv b111, rv b115, rv b119, .unset] []))
        refine own_st (fun _ k => XS.aload X119.here hx rfl (hb hby at_141) rfl rfl  k) ?_
        show own_Goes p e below s _ _ (T119.setTop (mkF m 143 #[own_jv q0, .second, own_jv q1, .second, own_jv q2, .second, iv p3, iv p4, iv p5, iv (0 : Int32), iv (2 : Int32), iv (0 : Int32), rv b102, rv b111, rv b115, rv b119, .unset] [(.ref b115)]))
        refine own_st (fun _ k => XS.iload X119.here hx rfl (hb hby at_143) rfl  k) ?_
        show own_Goes p e below s _ _ (T119.setTop (mkF m 145 #[own_jv q0, .second, own_jv q1, .second, own_jv q2, .second, iv p3, iv p4, iv p5, iv (0 : Int32), iv (2 : Int32), iv (0 : Int32), rv b102, rv b111, rv b115, rv b119, .unset] [(.int (2 : Int32)), (.ref b115)]))
        refine own_st (fun _ k => XS.aload X119.here hx rfl (hb hby at_145) rfl rfl  k) ?_
        show own_Goes p e below s _ _ (T119.setTop (mkF m 147 #[own_jv q0, .second, own_jv q1, .second, own_jv q2, .second, iv p3, iv p4, iv p5, iv (0 : Int32), iv (2 : Int32), iv (0 : Int32), rv b102, rv b111, rv b115, rv b119, .unset] [(.ref b111), (.int (2 : Int32)), (.ref b115)]))
        refine own_st (fun _ k => XS.iload X119.here hx rfl (hb hby at_147) rfl  k) ?_
        show own_Goes p e below s _ _ (T119.setTop (mkF m 149 #[own_jv q0, .second, own_jv q1, .second, own_jv q2, .second, iv p3, iv p4, iv p5, iv (0 : Int32), iv (2 : Int32), iv (0 : Int32), rv b102, rv b111, rv b115, rv b119, .unset] [(.int (0 : Int32)), (.ref b111), (.int (2 : Int32)), (.ref b115)]))
        have f179 := (((((V114.ext E115).other W116 (own_ne (by omega))).other W117 (own_ne (by omega))).other W118 (own_ne (by omega))).keep K119 nin0)
        refine own_st (fun _ k => own_ldJ X119 hx hZ rfl f179 (j := (0 : Int32)) (by decide) (g := (mkF m 149 #[own_jv q0, .second, own_jv q1, .second, own_jv q2, .second, iv p3, iv p4, iv p5, iv (0 : Int32), iv (2 : Int32), iv (0 : Int32), rv b102, rv b111, rv b115, rv b119, .unset] [(.int (0 : Int32)), (.ref b111), (.int (2 : Int32)), (.ref b115)])) rfl rfl (hb hby at_149) _ k) ?_
        show own_Goes p e below s _ _ (T119.setTop (mkF m 150 #[own_jv q0, .second, own_jv q1, .second, own_jv q2, .second, iv p3, iv p4, iv p5, iv (0 : Int32), iv (2 : Int32), iv (0 : Int32), rv b102, rv b111, rv b115, rv b119, .unset] [(.long q0), (.int (2 : Int32)), (.ref b115)]))
        have f180 := (V118.keep K119 nin0)
        obtain ⟨T181, h181, X181, e181, W181, A181, st181⟩ := own_stJ X119 hx hZ rfl f180 (j := (2 : Int32)) (by decide) (g := (mkF m 150 #[own_jv q0, .second, own_jv q1, .second, own_jv q2, .second, iv p3, iv p4, iv p5, iv (0 : Int32), iv (2 : Int32), iv (0 : Int32), rv b102, rv b111, rv b115, rv b119, .unset] [(.long q0), (.int (2 : Int32)), (.ref b115)])) rfl rfl (hb hby at_150)
        have V181 : own_Arf Z h181 b115 .long 3 (fun k => .long ((fun k => if k = 2 then q0 else (fun k => if k = 2 then q0 else (fun k => if k = 1 then q0 else (fun k => if k = 0 then q0 else (fun _ => (0 : Int64)) k) k) k) k) k)) := A181
        have z181 := W181.size
        have N181 := Fr.snoc X181 N119 (by omega)
        refine own_st st181 ?_
        show own_Goes p e below s _ _ (T181.setTop (mkF m 151 #[own_jv q0, .second, own_jv q1, .second, own_jv q2, .second, iv p3, iv p4, iv p5, iv (0 : Int32), iv (2 : Int32), iv (0 : Int32), rv b102, rv b111, rv b115, rv b119, .unset] []))
        refine own_st (fun _ k => XS.aload X181.here hx rfl (hb hby at_151) rfl rfl  k) ?_
        show own_Goes p e below s _ _ (T181.setTop (mkF m 153 #[own_jv q0, .second, own_jv q1, .second, own_jv q2, .second, iv p3, iv p4, iv p5, iv (0 : Int32), iv (2 : Int32), iv (0 : Int32), rv b102, rv b111, rv b115, rv b119, .unset] [(.ref b102)]))
        refine own_st (fun _ k => XS.iload X181.here hx rfl (hb hby at_153) rfl  k) ?_
        show own_Goes p e below s _ _ (T181.setTop (mkF m 155 #[own_jv q0, .second, own_jv q1, .second, own_jv q2, .second, iv p3, iv p4, iv p5, iv (0 : Int32), iv (2 : Int32), iv (0 : Int32), rv b102, rv b111, rv b115, rv b119, .unset] [(.int (0 : Int32)), (.ref b102)]))
        refine own_st (fun _ k => XS.aload X181.here hx rfl (hb hby at_155) rfl rfl  k) ?_
        show own_Goes p e below s _ _ (T181.setTop (mkF m 157 #[own_jv q0, .second, own_jv q1, .second, own_jv q2, .second, iv p3, iv p4, iv p5, iv (0 : Int32), iv (2 : Int32), iv (0 : Int32), rv b102, rv b111, rv b115, rv b119, .unset] [(.ref b119), (.int (0 : Int32)), (.ref b102)]))
        refine own_st (fun _ k => XS.iload X181.here hx rfl (hb hby at_157) rfl  k) ?_
        show own_Goes p e below s _ _ (T181.setTop (mkF m 159 #[own_jv q0, .second, own_jv q1, .second, own_jv q2, .second, iv p3, iv p4, iv p5, iv (0 : Int32), iv (2 : Int32), iv (0 : Int32), rv b102, rv b111, rv b115, rv b119, .unset] [(.int (2 : Int32)), (.ref b119), (.int (0 : Int32)), (.ref b102)]))
        have f183 := ((f120.keep K119 nin0).other W181 (Or.inl (own_ne (by omega))))
        have f184 := (Fc119.other W181 (Or.inl (own_ne (by omega))))
        have f185 := ((((((((((Vd109.ext E111).other W112 (own_ne (by omega))).other W113 (own_ne (by omega))).other W114 (own_ne (by omega))).ext E115).other W116 (own_ne (by omega))).other W117 (own_ne (by omega))).other W118 (own_ne (by omega))).keep K119 nin0).other W181 (own_ne (by omega)))
        have f186 := (Vc119.other W181 (own_ne (by omega)))
        have f187 := ((f128.keep K119).wr W181)
        obtain ⟨v182, T182, L182, X182, Q182, st182⟩ := own_callV X181 hx hZ (C := "com/example/reach2/reach2/model/CodedColumn") (y := (⟨"com/example/reach2/reach2/model/CodedColumn", "copyTo", "(ILcom/example/reach2/reach2/model/CodedColumn;I)V"⟩ : MethodName)) hown (hw _ (List.mem_of_getElem? (i := 38) rfl)) (hw _ (List.mem_of_getElem? (i := 39) rfl)) (hw _ (List.mem_of_getElem? (i := 41) rfl)) (hw _ (List.mem_of_getElem? (i := 40) rfl)) (hw _ (List.mem_of_getElem? (i := 3) rfl)) (hw _ (List.mem_of_getElem? (i := 42) rfl)) (by decide) (W := 0) (rest := []) (argsL := [(.int (0 : Int32)), (.ref b119), (.int (2 : Int32))]) (a := b102) (rmCT l Z a0 hw [] b102 (0 : Int32) b119 (2 : Int32) ac103 bc119 _ _ h181 n0 (by omega) f183 f184 f185 f186 (by decide) (by decide) (by omega)) (by decide) (by decide) (by decide) (by decide) e181 f187 own_pd5 rfl (g := (mkF m 159 #[own_jv q0, .second, own_jv q1, .second, own_jv q2, .second, iv p3, iv p4, iv p5, iv (0 : Int32), iv (2 : Int32), iv (0 : Int32), rv b102, rv b111, rv b115, rv b119, .unset] [(.int (2 : Int32)), (.ref b119), (.int (0 : Int32)), (.ref b102)])) rfl (by rw [hml]; rfl) rfl (by show 2 * 0 + _ ≤ _; exact Nat.le_of_eq rfl) (hb hby at_159)
        obtain ⟨rfl, N182q, K182, V182⟩ := Q182
        have z182 := K182.1
        have Vt182 : own_Arf Z T182.heap bc119 .byte 3 (fun k => .int ((fun k => if k = 2 then (nar .byte (nar .byte (r104.toInt8.toInt32))) else (fun _ => (0 : Int32)) k) k)) := V182
        have N182 := Fr.app N181 N182q
        refine own_st st182 ?_
        show own_Goes p e below s _ _ (T182.setTop (mkF m 162 #[own_jv q0, .second, own_jv q1, .second, own_jv q2, .second, iv p3, iv p4, iv p5, iv (0 : Int32), iv (2 : Int32), iv (0 : Int32), rv b102, rv b111, rv b115, rv b119, .unset] []))
        refine own_st (fun _ k => XS.aload X182.here hx rfl (hb hby at_162) rfl rfl  k) ?_
        show own_Goes p e below s _ _ (T182.setTop (mkF m 164 #[own_jv q0, .second, own_jv q1, .second, own_jv q2, .second, iv p3, iv p4, iv p5, iv (0 : Int32), iv (2 : Int32), iv (0 : Int32), rv b102, rv b111, rv b115, rv b119, .unset] [(.ref b119)]))
        refine own_st (fun _ k => XS.iconst X182.here hx rfl (hb hby at_164) k) ?_
        show own_Goes p e below s _ _ (T182.setTop (mkF m 165 #[own_jv q0, .second, own_jv q1, .second, own_jv q2, .second, iv p3, iv p4, iv p5, iv (0 : Int32), iv (2 : Int32), iv (0 : Int32), rv b102, rv b111, rv b115, rv b119, .unset] [(.int (0 : Int32)), (.ref b119)]))
        have f189 := (f184.keep K182 (ninS (own_ne (by omega)) nin0))
        have f190 := ((Fv119.other W181 (Or.inl (own_ne (by omega)))).keep K182 (ninS (own_ne (by omega)) nin0))
        have f191 := ((Vv119.other W181 (own_ne (by omega))).keep K182 (ninS (own_ne (by omega)) nin0))
        have f192 := ((A119.wr W181).keep K182)
        obtain ⟨v188, T188, L188, X188, Q188, st188⟩ := own_callV X182 hx hZ (C := "com/example/reach2/reach2/model/CodedColumn") (y := (⟨"com/example/reach2/reach2/model/CodedColumn", "get", "(I)J"⟩ : MethodName)) hown (hw _ (List.mem_of_getElem? (i := 43) rfl)) (hw _ (List.mem_of_getElem? (i := 44) rfl)) (hw _ (List.mem_of_getElem? (i := 46) rfl)) (hw _ (List.mem_of_getElem? (i := 45) rfl)) (hw _ (List.mem_of_getElem? (i := 3) rfl)) (hw _ (List.mem_of_getElem? (i := 47) rfl)) (by decide) (W := 0) (rest := []) (argsL := [(.int (0 : Int32))]) (a := b119) (rmGet l Z a0 hw [] b119 (0 : Int32) _ _ _ _ T182.heap n0 (by omega) f189 f190 Vt182 f191 (by decide)) (by decide) (by decide) (by decide) (by decide) rfl f192 own_pd6 rfl (g := (mkF m 165 #[own_jv q0, .second, own_jv q1, .second, own_jv q2, .second, iv p3, iv p4, iv p5, iv (0 : Int32), iv (2 : Int32), iv (0 : Int32), rv b102, rv b111, rv b115, rv b119, .unset] [(.int (0 : Int32)), (.ref b119)])) rfl (by rw [hml]; rfl) rfl (by show 2 * 0 + _ ≤ _; exact Nat.le_of_eq rfl) (hb hby at_165)
        obtain ⟨g188, rfl, hg188, N188q, e188⟩ := Q188
        obtain rfl : q0 = g188 := (hg188.trans (own_at0 (by omega) ((rf109 _ (by omega)).trans ((rf107 _ (by omega)).trans re104)))).symm
        have N188 := Fr.app N182 N188q
        refine own_st st188 ?_
        show own_Goes p e below s _ _ (T188.setTop (mkF m 168 #[own_jv q0, .second, own_jv q1, .second, own_jv q2, .second, iv p3, iv p4, iv p5, iv (0 : Int32), iv (2 : Int32), iv (0 : Int32), rv b102, rv b111, rv b115, rv b119, .unset] [(.long q0)]))
        refine own_st (fun _ k => XS.aload X188.here hx rfl (hb hby at_168) rfl rfl  k) ?_
        show own_Goes p e below s _ _ (T188.setTop (mkF m 170 #[own_jv q0, .second, own_jv q1, .second, own_jv q2, .second, iv p3, iv p4, iv p5, iv (0 : Int32), iv (2 : Int32), iv (0 : Int32), rv b102, rv b111, rv b115, rv b119, .unset] [(.ref b115), (.long q0)]))
        refine own_st (fun _ k => XS.iconst X188.here hx rfl (hb hby at_170) k) ?_
        show own_Goes p e below s _ _ (T188.setTop (mkF m 171 #[own_jv q0, .second, own_jv q1, .second, own_jv q2, .second, iv p3, iv p4, iv p5, iv (0 : Int32), iv (2 : Int32), iv (0 : Int32), rv b102, rv b111, rv b115, rv b119, .unset] [(.int (0 : Int32)), (.ref b115), (.long q0)]))
        have f193 := (V181.keep K182 (ninS (own_ne (by omega)) nin0))
        refine own_st (fun _ k => own_ldJ X188 hx hZ e188 f193 (j := (0 : Int32)) (by decide) (g := (mkF m 171 #[own_jv q0, .second, own_jv q1, .second, own_jv q2, .second, iv p3, iv p4, iv p5, iv (0 : Int32), iv (2 : Int32), iv (0 : Int32), rv b102, rv b111, rv b115, rv b119, .unset] [(.int (0 : Int32)), (.ref b115), (.long q0)])) rfl rfl (hb hby at_171) _ k) ?_
        show own_Goes p e below s _ _ (T188.setTop (mkF m 172 #[own_jv q0, .second, own_jv q1, .second, own_jv q2, .second, iv p3, iv p4, iv p5, iv (0 : Int32), iv (2 : Int32), iv (0 : Int32), rv b102, rv b111, rv b115, rv b119, .unset] [(.long q0), (.long q0)]))
        refine own_st (fun _ k => XS.lcmp X188.here hx rfl (hb hby at_172) rfl k) ?_
        show own_Goes p e below s _ _ (T188.setTop (mkF m 173 #[own_jv q0, .second, own_jv q1, .second, own_jv q2, .second, iv p3, iv p4, iv p5, iv (0 : Int32), iv (2 : Int32), iv (0 : Int32), rv b102, rv b111, rv b115, rv b119, .unset] [(.int (lcmpW q0 q0))]))
        refine own_st (fun _ k => XS.ifNo X188.here hx rfl (hb hby at_173) rfl ((if0 _ _).trans (teq ((lw_eq _ _).mpr (rfl : q0 = q0))).2) k) ?_
        show own_Goes p e below s _ _ (T188.setTop (mkF m 176 #[own_jv q0, .second, own_jv q1, .second, own_jv q2, .second, iv p3, iv p4, iv p5, iv (0 : Int32), iv (2 : Int32), iv (0 : Int32), rv b102, rv b111, rv b115, rv b119, .unset] []))
        refine own_st (fun _ k => XS.aload X188.here hx rfl (hb hby at_176) rfl rfl  k) ?_
        show own_Goes p e below s _ _ (T188.setTop (mkF m 178 #[own_jv q0, .second, own_jv q1, .second, own_jv q2, .second, iv p3, iv p4, iv p5, iv (0 : Int32), iv (2 : Int32), iv (0 : Int32), rv b102, rv b111, rv b115, rv b119, .unset] [(.ref b119)]))
        refine own_st (fun _ k => XS.iconst X188.here hx rfl (hb hby at_178) k) ?_
        show own_Goes p e below s _ _ (T188.setTop (mkF m 179 #[own_jv q0, .second, own_jv q1, .second, own_jv q2, .second, iv p3, iv p4, iv p5, iv (0 : Int32), iv (2 : Int32), iv (0 : Int32), rv b102, rv b111, rv b115, rv b119, .unset] [(.int (1 : Int32)), (.ref b119)]))
        obtain ⟨v194, T194, L194, X194, Q194, st194⟩ := own_callV X188 hx hZ (C := "com/example/reach2/reach2/model/CodedColumn") (y := (⟨"com/example/reach2/reach2/model/CodedColumn", "get", "(I)J"⟩ : MethodName)) hown (hw _ (List.mem_of_getElem? (i := 43) rfl)) (hw _ (List.mem_of_getElem? (i := 44) rfl)) (hw _ (List.mem_of_getElem? (i := 46) rfl)) (hw _ (List.mem_of_getElem? (i := 45) rfl)) (hw _ (List.mem_of_getElem? (i := 3) rfl)) (hw _ (List.mem_of_getElem? (i := 47) rfl)) (by decide) (W := 0) (rest := []) (argsL := [(.int (1 : Int32))]) (a := b119) (rmGet l Z a0 hw [] b119 (1 : Int32) _ _ _ _ T182.heap n0 (by omega) f189 f190 Vt182 f191 (by decide)) (by decide) (by decide) (by decide) (by decide) e188 f192 own_pd6 rfl (g := (mkF m 179 #[own_jv q0, .second, own_jv q1, .second, own_jv q2, .second, iv p3, iv p4, iv p5, iv (0 : Int32), iv (2 : Int32), iv (0 : Int32), rv b102, rv b111, rv b115, rv b119, .unset] [(.int (1 : Int32)), (.ref b119)])) rfl (by rw [hml]; rfl) rfl (by show 2 * 0 + _ ≤ _; exact Nat.le_of_eq rfl) (hb hby at_179)
        obtain ⟨g194, rfl, hg194, N194q, e194⟩ := Q194
        obtain rfl : q0 = g194 := (hg194.trans (own_at0 (by omega) ((rf109 _ (by omega)).trans ((rf107 _ (by omega)).trans re104)))).symm
        have N194 := Fr.app N188 N194q
        refine own_st st194 ?_
        show own_Goes p e below s _ _ (T194.setTop (mkF m 182 #[own_jv q0, .second, own_jv q1, .second, own_jv q2, .second, iv p3, iv p4, iv p5, iv (0 : Int32), iv (2 : Int32), iv (0 : Int32), rv b102, rv b111, rv b115, rv b119, .unset] [(.long q0)]))
        refine own_st (fun _ k => XS.aload X194.here hx rfl (hb hby at_182) rfl rfl  k) ?_
        show own_Goes p e below s _ _ (T194.setTop (mkF m 184 #[own_jv q0, .second, own_jv q1, .second, own_jv q2, .second, iv p3, iv p4, iv p5, iv (0 : Int32), iv (2 : Int32), iv (0 : Int32), rv b102, rv b111, rv b115, rv b119, .unset] [(.ref b115), (.long q0)]))
        refine own_st (fun _ k => XS.iconst X194.here hx rfl (hb hby at_184) k) ?_
        show own_Goes p e below s _ _ (T194.setTop (mkF m 185 #[own_jv q0, .second, own_jv q1, .second, own_jv q2, .second, iv p3, iv p4, iv p5, iv (0 : Int32), iv (2 : Int32), iv (0 : Int32), rv b102, rv b111, rv b115, rv b119, .unset] [(.int (1 : Int32)), (.ref b115), (.long q0)]))
        refine own_st (fun _ k => own_ldJ X194 hx hZ e194 f193 (j := (1 : Int32)) (by decide) (g := (mkF m 185 #[own_jv q0, .second, own_jv q1, .second, own_jv q2, .second, iv p3, iv p4, iv p5, iv (0 : Int32), iv (2 : Int32), iv (0 : Int32), rv b102, rv b111, rv b115, rv b119, .unset] [(.int (1 : Int32)), (.ref b115), (.long q0)])) rfl rfl (hb hby at_185) _ k) ?_
        show own_Goes p e below s _ _ (T194.setTop (mkF m 186 #[own_jv q0, .second, own_jv q1, .second, own_jv q2, .second, iv p3, iv p4, iv p5, iv (0 : Int32), iv (2 : Int32), iv (0 : Int32), rv b102, rv b111, rv b115, rv b119, .unset] [(.long q0), (.long q0)]))
        refine own_st (fun _ k => XS.lcmp X194.here hx rfl (hb hby at_186) rfl k) ?_
        show own_Goes p e below s _ _ (T194.setTop (mkF m 187 #[own_jv q0, .second, own_jv q1, .second, own_jv q2, .second, iv p3, iv p4, iv p5, iv (0 : Int32), iv (2 : Int32), iv (0 : Int32), rv b102, rv b111, rv b115, rv b119, .unset] [(.int (lcmpW q0 q0))]))
        refine own_st (fun _ k => XS.ifNo X194.here hx rfl (hb hby at_187) rfl ((if0 _ _).trans (teq ((lw_eq _ _).mpr (rfl : q0 = q0))).2) k) ?_
        show own_Goes p e below s _ _ (T194.setTop (mkF m 190 #[own_jv q0, .second, own_jv q1, .second, own_jv q2, .second, iv p3, iv p4, iv p5, iv (0 : Int32), iv (2 : Int32), iv (0 : Int32), rv b102, rv b111, rv b115, rv b119, .unset] []))
        refine own_st (fun _ k => XS.aload X194.here hx rfl (hb hby at_190) rfl rfl  k) ?_
        show own_Goes p e below s _ _ (T194.setTop (mkF m 192 #[own_jv q0, .second, own_jv q1, .second, own_jv q2, .second, iv p3, iv p4, iv p5, iv (0 : Int32), iv (2 : Int32), iv (0 : Int32), rv b102, rv b111, rv b115, rv b119, .unset] [(.ref b119)]))
        refine own_st (fun _ k => XS.iconst X194.here hx rfl (hb hby at_192) k) ?_
        show own_Goes p e below s _ _ (T194.setTop (mkF m 193 #[own_jv q0, .second, own_jv q1, .second, own_jv q2, .second, iv p3, iv p4, iv p5, iv (0 : Int32), iv (2 : Int32), iv (0 : Int32), rv b102, rv b111, rv b115, rv b119, .unset] [(.int (2 : Int32)), (.ref b119)]))
        obtain ⟨v195, T195, L195, X195, Q195, st195⟩ := own_callV X194 hx hZ (C := "com/example/reach2/reach2/model/CodedColumn") (y := (⟨"com/example/reach2/reach2/model/CodedColumn", "get", "(I)J"⟩ : MethodName)) hown (hw _ (List.mem_of_getElem? (i := 43) rfl)) (hw _ (List.mem_of_getElem? (i := 44) rfl)) (hw _ (List.mem_of_getElem? (i := 46) rfl)) (hw _ (List.mem_of_getElem? (i := 45) rfl)) (hw _ (List.mem_of_getElem? (i := 3) rfl)) (hw _ (List.mem_of_getElem? (i := 47) rfl)) (by decide) (W := 0) (rest := []) (argsL := [(.int (2 : Int32))]) (a := b119) (rmGet l Z a0 hw [] b119 (2 : Int32) _ _ _ _ T182.heap n0 (by omega) f189 f190 Vt182 f191 (by decide)) (by decide) (by decide) (by decide) (by decide) e194 f192 own_pd6 rfl (g := (mkF m 193 #[own_jv q0, .second, own_jv q1, .second, own_jv q2, .second, iv p3, iv p4, iv p5, iv (0 : Int32), iv (2 : Int32), iv (0 : Int32), rv b102, rv b111, rv b115, rv b119, .unset] [(.int (2 : Int32)), (.ref b119)])) rfl (by rw [hml]; rfl) rfl (by show 2 * 0 + _ ≤ _; exact Nat.le_of_eq rfl) (hb hby at_193)
        obtain ⟨g195, rfl, hg195, N195q, e195⟩ := Q195
        obtain rfl : q0 = g195 := (hg195.trans (own_at2 (by omega) ((rf109 _ (by omega)).trans ((rf107 _ (by omega)).trans re104)))).symm
        have N195 := Fr.app N194 N195q
        refine own_st st195 ?_
        show own_Goes p e below s _ _ (T195.setTop (mkF m 196 #[own_jv q0, .second, own_jv q1, .second, own_jv q2, .second, iv p3, iv p4, iv p5, iv (0 : Int32), iv (2 : Int32), iv (0 : Int32), rv b102, rv b111, rv b115, rv b119, .unset] [(.long q0)]))
        refine own_st (fun _ k => XS.aload X195.here hx rfl (hb hby at_196) rfl rfl  k) ?_
        show own_Goes p e below s _ _ (T195.setTop (mkF m 198 #[own_jv q0, .second, own_jv q1, .second, own_jv q2, .second, iv p3, iv p4, iv p5, iv (0 : Int32), iv (2 : Int32), iv (0 : Int32), rv b102, rv b111, rv b115, rv b119, .unset] [(.ref b115), (.long q0)]))
        refine own_st (fun _ k => XS.iconst X195.here hx rfl (hb hby at_198) k) ?_
        show own_Goes p e below s _ _ (T195.setTop (mkF m 199 #[own_jv q0, .second, own_jv q1, .second, own_jv q2, .second, iv p3, iv p4, iv p5, iv (0 : Int32), iv (2 : Int32), iv (0 : Int32), rv b102, rv b111, rv b115, rv b119, .unset] [(.int (2 : Int32)), (.ref b115), (.long q0)]))
        refine own_st (fun _ k => own_ldJ X195 hx hZ e195 f193 (j := (2 : Int32)) (by decide) (g := (mkF m 199 #[own_jv q0, .second, own_jv q1, .second, own_jv q2, .second, iv p3, iv p4, iv p5, iv (0 : Int32), iv (2 : Int32), iv (0 : Int32), rv b102, rv b111, rv b115, rv b119, .unset] [(.int (2 : Int32)), (.ref b115), (.long q0)])) rfl rfl (hb hby at_199) _ k) ?_
        show own_Goes p e below s _ _ (T195.setTop (mkF m 200 #[own_jv q0, .second, own_jv q1, .second, own_jv q2, .second, iv p3, iv p4, iv p5, iv (0 : Int32), iv (2 : Int32), iv (0 : Int32), rv b102, rv b111, rv b115, rv b119, .unset] [(.long q0), (.long q0)]))
        refine own_st (fun _ k => XS.lcmp X195.here hx rfl (hb hby at_200) rfl k) ?_
        show own_Goes p e below s _ _ (T195.setTop (mkF m 201 #[own_jv q0, .second, own_jv q1, .second, own_jv q2, .second, iv p3, iv p4, iv p5, iv (0 : Int32), iv (2 : Int32), iv (0 : Int32), rv b102, rv b111, rv b115, rv b119, .unset] [(.int (lcmpW q0 q0))]))
        refine own_st (fun _ k => XS.ifNo X195.here hx rfl (hb hby at_201) rfl ((if0 _ _).trans (teq ((lw_eq _ _).mpr (rfl : q0 = q0))).2) k) ?_
        show own_Goes p e below s _ _ (T195.setTop (mkF m 204 #[own_jv q0, .second, own_jv q1, .second, own_jv q2, .second, iv p3, iv p4, iv p5, iv (0 : Int32), iv (2 : Int32), iv (0 : Int32), rv b102, rv b111, rv b115, rv b119, .unset] []))
        refine own_st (fun _ k => XS.iconst X195.here hx rfl (hb hby at_204) k) ?_
        show own_Goes p e below s _ _ (T195.setTop (mkF m 205 #[own_jv q0, .second, own_jv q1, .second, own_jv q2, .second, iv p3, iv p4, iv p5, iv (0 : Int32), iv (2 : Int32), iv (0 : Int32), rv b102, rv b111, rv b115, rv b119, .unset] [(.int (1 : Int32))]))
        refine own_st (fun _ k => XS.goto X195.here hx rfl (pc0 := 205) (pc' := 209) rfl (hb hby at_205) (by decide) (by decide) k) ?_
        show own_Goes p e below s _ _ (T195.setTop (mkF m 209 #[own_jv q0, .second, own_jv q1, .second, own_jv q2, .second, iv p3, iv p4, iv p5, iv (0 : Int32), iv (2 : Int32), iv (0 : Int32), rv b102, rv b111, rv b115, rv b119, .unset] [(.int (1 : Int32))]))
        refine own_st (fun _ k => XS.istore X195.here hx rfl (hb hby at_209) rfl (l' := #[own_jv q0, .second, own_jv q1, .second, own_jv q2, .second, iv p3, iv p4, iv p5, iv (0 : Int32), iv (2 : Int32), iv (0 : Int32), rv b102, rv b111, rv b115, rv b119, iv (1 : Int32)]) rfl k) ?_
        show own_Goes p e below s _ _ (T195.setTop (mkF m 211 #[own_jv q0, .second, own_jv q1, .second, own_jv q2, .second, iv p3, iv p4, iv p5, iv (0 : Int32), iv (2 : Int32), iv (0 : Int32), rv b102, rv b111, rv b115, rv b119, iv (1 : Int32)] []))
        refine own_st (fun _ k => XS.iload X195.here hx rfl (hb hby at_211) rfl  k) ?_
        show own_Goes p e below s _ _ (T195.setTop (mkF m 213 #[own_jv q0, .second, own_jv q1, .second, own_jv q2, .second, iv p3, iv p4, iv p5, iv (0 : Int32), iv (2 : Int32), iv (0 : Int32), rv b102, rv b111, rv b115, rv b119, iv (1 : Int32)] [(.int (0 : Int32))]))
        refine own_st (fun _ k => XS.ifNo X195.here hx rfl (hb hby at_213) rfl ((if0 _ _).trans (teq (by decide : (0 : Int32) = (0 : Int32))).2) k) ?_
        show own_Goes p e below s _ _ (T195.setTop (mkF m 216 #[own_jv q0, .second, own_jv q1, .second, own_jv q2, .second, iv p3, iv p4, iv p5, iv (0 : Int32), iv (2 : Int32), iv (0 : Int32), rv b102, rv b111, rv b115, rv b119, iv (1 : Int32)] []))
        refine own_st (fun _ k => XS.iload X195.here hx rfl (hb hby at_216) rfl  k) ?_
        show own_Goes p e below s _ _ (T195.setTop (mkF m 218 #[own_jv q0, .second, own_jv q1, .second, own_jv q2, .second, iv p3, iv p4, iv p5, iv (0 : Int32), iv (2 : Int32), iv (0 : Int32), rv b102, rv b111, rv b115, rv b119, iv (1 : Int32)] [(.int (1 : Int32))]))
        refine own_st (fun _ k => XS.ifNo X195.here hx rfl (hb hby at_218) rfl ((if0 _ _).trans (feq (by decide : ¬ ((1 : Int32) = (0 : Int32)))).1) k) ?_
        show own_Goes p e below s _ _ (T195.setTop (mkF m 221 #[own_jv q0, .second, own_jv q1, .second, own_jv q2, .second, iv p3, iv p4, iv p5, iv (0 : Int32), iv (2 : Int32), iv (0 : Int32), rv b102, rv b111, rv b115, rv b119, iv (1 : Int32)] []))
        refine own_st (fun _ k => XS.aload X195.here hx rfl (hb hby at_221) rfl rfl  k) ?_
        show own_Goes p e below s _ _ (T195.setTop (mkF m 223 #[own_jv q0, .second, own_jv q1, .second, own_jv q2, .second, iv p3, iv p4, iv p5, iv (0 : Int32), iv (2 : Int32), iv (0 : Int32), rv b102, rv b111, rv b115, rv b119, iv (1 : Int32)] [(.ref b102)]))
        refine own_st (fun _ k => XS.iconst X195.here hx rfl (hb hby at_223) k) ?_
        show own_Goes p e below s _ _ (T195.setTop (mkF m 224 #[own_jv q0, .second, own_jv q1, .second, own_jv q2, .second, iv p3, iv p4, iv p5, iv (0 : Int32), iv (2 : Int32), iv (0 : Int32), rv b102, rv b111, rv b115, rv b119, iv (1 : Int32)] [(.int (0 : Int32)), (.ref b102)]))
        have f197 := (f183.keep K182 (ninS (own_ne (by omega)) nin0))
        have f198 := (((f121.keep K119 nin0).other W181 (Or.inl (own_ne (by omega)))).keep K182 (ninS (own_ne (by omega)) nin0))
        have f199 := (f185.keep K182 (ninS (own_ne (by omega)) nin0))
        have f200 := (((f124.keep K119 nin0).other W181 (own_ne (by omega))).keep K182 (ninS (own_ne (by omega)) nin0))
        have f201 := (f187.keep K182)
        obtain ⟨v196, T196, L196, X196, Q196, st196⟩ := own_callV X195 hx hZ (C := "com/example/reach2/reach2/model/CodedColumn") (y := (⟨"com/example/reach2/reach2/model/CodedColumn", "get", "(I)J"⟩ : MethodName)) hown (hw _ (List.mem_of_getElem? (i := 43) rfl)) (hw _ (List.mem_of_getElem? (i := 44) rfl)) (hw _ (List.mem_of_getElem? (i := 46) rfl)) (hw _ (List.mem_of_getElem? (i := 45) rfl)) (hw _ (List.mem_of_getElem? (i := 3) rfl)) (hw _ (List.mem_of_getElem? (i := 47) rfl)) (by decide) (W := 0) (rest := []) (argsL := [(.int (0 : Int32))]) (a := b102) (rmGet l Z a0 hw [] b102 (0 : Int32) _ _ _ _ T182.heap n0 (by omega) f197 f198 f199 f200 (by decide)) (by decide) (by decide) (by decide) (by decide) e195 f201 own_pd6 rfl (g := (mkF m 224 #[own_jv q0, .second, own_jv q1, .second, own_jv q2, .second, iv p3, iv p4, iv p5, iv (0 : Int32), iv (2 : Int32), iv (0 : Int32), rv b102, rv b111, rv b115, rv b119, iv (1 : Int32)] [(.int (0 : Int32)), (.ref b102)])) rfl (by rw [hml]; rfl) rfl (by show 2 * 0 + _ ≤ _; exact Nat.le_of_eq rfl) (hb hby at_224)
        obtain ⟨g196, rfl, hg196, N196q, e196⟩ := Q196
        obtain rfl : q0 = g196 := (hg196.trans (own_at (by omega) ((rf109 _ (by omega)).trans ((rf107 _ (by omega)).trans re104)))).symm
        have N196 := Fr.app N195 N196q
        refine own_st st196 ?_
        show own_Goes p e below s _ _ (T196.setTop (mkF m 227 #[own_jv q0, .second, own_jv q1, .second, own_jv q2, .second, iv p3, iv p4, iv p5, iv (0 : Int32), iv (2 : Int32), iv (0 : Int32), rv b102, rv b111, rv b115, rv b119, iv (1 : Int32)] [(.long q0)]))
        refine own_st (fun _ k => XS.lloadN X196.here hx rfl (hb hby at_227) rfl  k) ?_
        show own_Goes p e below s _ _ (T196.setTop (mkF m 228 #[own_jv q0, .second, own_jv q1, .second, own_jv q2, .second, iv p3, iv p4, iv p5, iv (0 : Int32), iv (2 : Int32), iv (0 : Int32), rv b102, rv b111, rv b115, rv b119, iv (1 : Int32)] [(.long q0), (.long q0)]))
        refine own_st (fun _ k => XS.lcmp X196.here hx rfl (hb hby at_228) rfl k) ?_
        show own_Goes p e below s _ _ (T196.setTop (mkF m 229 #[own_jv q0, .second, own_jv q1, .second, own_jv q2, .second, iv p3, iv p4, iv p5, iv (0 : Int32), iv (2 : Int32), iv (0 : Int32), rv b102, rv b111, rv b115, rv b119, iv (1 : Int32)] [(.int (lcmpW q0 q0))]))
        refine own_st (fun _ k => XS.ifNo X196.here hx rfl (hb hby at_229) rfl ((if0 _ _).trans (teq ((lw_eq _ _).mpr (rfl : q0 = q0))).2) k) ?_
        show own_Goes p e below s _ _ (T196.setTop (mkF m 232 #[own_jv q0, .second, own_jv q1, .second, own_jv q2, .second, iv p3, iv p4, iv p5, iv (0 : Int32), iv (2 : Int32), iv (0 : Int32), rv b102, rv b111, rv b115, rv b119, iv (1 : Int32)] []))
        refine own_st (fun _ k => XS.aload X196.here hx rfl (hb hby at_232) rfl rfl  k) ?_
        show own_Goes p e below s _ _ (T196.setTop (mkF m 234 #[own_jv q0, .second, own_jv q1, .second, own_jv q2, .second, iv p3, iv p4, iv p5, iv (0 : Int32), iv (2 : Int32), iv (0 : Int32), rv b102, rv b111, rv b115, rv b119, iv (1 : Int32)] [(.ref b102)]))
        refine own_st (fun _ k => XS.iconst X196.here hx rfl (hb hby at_234) k) ?_
        show own_Goes p e below s _ _ (T196.setTop (mkF m 235 #[own_jv q0, .second, own_jv q1, .second, own_jv q2, .second, iv p3, iv p4, iv p5, iv (0 : Int32), iv (2 : Int32), iv (0 : Int32), rv b102, rv b111, rv b115, rv b119, iv (1 : Int32)] [(.int (1 : Int32)), (.ref b102)]))
        obtain ⟨v202, T202, L202, X202, Q202, st202⟩ := own_callV X196 hx hZ (C := "com/example/reach2/reach2/model/CodedColumn") (y := (⟨"com/example/reach2/reach2/model/CodedColumn", "get", "(I)J"⟩ : MethodName)) hown (hw _ (List.mem_of_getElem? (i := 43) rfl)) (hw _ (List.mem_of_getElem? (i := 44) rfl)) (hw _ (List.mem_of_getElem? (i := 46) rfl)) (hw _ (List.mem_of_getElem? (i := 45) rfl)) (hw _ (List.mem_of_getElem? (i := 3) rfl)) (hw _ (List.mem_of_getElem? (i := 47) rfl)) (by decide) (W := 0) (rest := []) (argsL := [(.int (1 : Int32))]) (a := b102) (rmGet l Z a0 hw [] b102 (1 : Int32) _ _ _ _ T182.heap n0 (by omega) f197 f198 f199 f200 (by decide)) (by decide) (by decide) (by decide) (by decide) e196 f201 own_pd6 rfl (g := (mkF m 235 #[own_jv q0, .second, own_jv q1, .second, own_jv q2, .second, iv p3, iv p4, iv p5, iv (0 : Int32), iv (2 : Int32), iv (0 : Int32), rv b102, rv b111, rv b115, rv b119, iv (1 : Int32)] [(.int (1 : Int32)), (.ref b102)])) rfl (by rw [hml]; rfl) rfl (by show 2 * 0 + _ ≤ _; exact Nat.le_of_eq rfl) (hb hby at_235)
        obtain ⟨g202, rfl, hg202, N202q, e202⟩ := Q202
        obtain rfl : q1 = g202 := (hg202.trans (own_at (by omega) ((rf109 _ (by omega)).trans re107))).symm
        have N202 := Fr.app N196 N202q
        refine own_st st202 ?_
        show own_Goes p e below s _ _ (T202.setTop (mkF m 238 #[own_jv q0, .second, own_jv q1, .second, own_jv q2, .second, iv p3, iv p4, iv p5, iv (0 : Int32), iv (2 : Int32), iv (0 : Int32), rv b102, rv b111, rv b115, rv b119, iv (1 : Int32)] [(.long q1)]))
        refine own_st (fun _ k => XS.lloadN X202.here hx rfl (hb hby at_238) rfl  k) ?_
        show own_Goes p e below s _ _ (T202.setTop (mkF m 239 #[own_jv q0, .second, own_jv q1, .second, own_jv q2, .second, iv p3, iv p4, iv p5, iv (0 : Int32), iv (2 : Int32), iv (0 : Int32), rv b102, rv b111, rv b115, rv b119, iv (1 : Int32)] [(.long q1), (.long q1)]))
        refine own_st (fun _ k => XS.lcmp X202.here hx rfl (hb hby at_239) rfl k) ?_
        show own_Goes p e below s _ _ (T202.setTop (mkF m 240 #[own_jv q0, .second, own_jv q1, .second, own_jv q2, .second, iv p3, iv p4, iv p5, iv (0 : Int32), iv (2 : Int32), iv (0 : Int32), rv b102, rv b111, rv b115, rv b119, iv (1 : Int32)] [(.int (lcmpW q1 q1))]))
        refine own_st (fun _ k => XS.ifNo X202.here hx rfl (hb hby at_240) rfl ((if0 _ _).trans (teq ((lw_eq _ _).mpr (rfl : q1 = q1))).2) k) ?_
        show own_Goes p e below s _ _ (T202.setTop (mkF m 243 #[own_jv q0, .second, own_jv q1, .second, own_jv q2, .second, iv p3, iv p4, iv p5, iv (0 : Int32), iv (2 : Int32), iv (0 : Int32), rv b102, rv b111, rv b115, rv b119, iv (1 : Int32)] []))
        refine own_st (fun _ k => XS.aload X202.here hx rfl (hb hby at_243) rfl rfl  k) ?_
        show own_Goes p e below s _ _ (T202.setTop (mkF m 245 #[own_jv q0, .second, own_jv q1, .second, own_jv q2, .second, iv p3, iv p4, iv p5, iv (0 : Int32), iv (2 : Int32), iv (0 : Int32), rv b102, rv b111, rv b115, rv b119, iv (1 : Int32)] [(.ref b102)]))
        refine own_st (fun _ k => XS.iconst X202.here hx rfl (hb hby at_245) k) ?_
        show own_Goes p e below s _ _ (T202.setTop (mkF m 246 #[own_jv q0, .second, own_jv q1, .second, own_jv q2, .second, iv p3, iv p4, iv p5, iv (0 : Int32), iv (2 : Int32), iv (0 : Int32), rv b102, rv b111, rv b115, rv b119, iv (1 : Int32)] [(.int (2 : Int32)), (.ref b102)]))
        obtain ⟨v203, T203, L203, X203, Q203, st203⟩ := own_callV X202 hx hZ (C := "com/example/reach2/reach2/model/CodedColumn") (y := (⟨"com/example/reach2/reach2/model/CodedColumn", "get", "(I)J"⟩ : MethodName)) hown (hw _ (List.mem_of_getElem? (i := 43) rfl)) (hw _ (List.mem_of_getElem? (i := 44) rfl)) (hw _ (List.mem_of_getElem? (i := 46) rfl)) (hw _ (List.mem_of_getElem? (i := 45) rfl)) (hw _ (List.mem_of_getElem? (i := 3) rfl)) (hw _ (List.mem_of_getElem? (i := 47) rfl)) (by decide) (W := 0) (rest := []) (argsL := [(.int (2 : Int32))]) (a := b102) (rmGet l Z a0 hw [] b102 (2 : Int32) _ _ _ _ T182.heap n0 (by omega) f197 f198 f199 f200 (by decide)) (by decide) (by decide) (by decide) (by decide) e202 f201 own_pd6 rfl (g := (mkF m 246 #[own_jv q0, .second, own_jv q1, .second, own_jv q2, .second, iv p3, iv p4, iv p5, iv (0 : Int32), iv (2 : Int32), iv (0 : Int32), rv b102, rv b111, rv b115, rv b119, iv (1 : Int32)] [(.int (2 : Int32)), (.ref b102)])) rfl (by rw [hml]; rfl) rfl (by show 2 * 0 + _ ≤ _; exact Nat.le_of_eq rfl) (hb hby at_246)
        obtain ⟨g203, rfl, hg203, N203q, e203⟩ := Q203
        obtain rfl : q2 = g203 := (hg203.trans (own_at (by omega) re109)).symm
        have N203 := Fr.app N202 N203q
        refine own_st st203 ?_
        show own_Goes p e below s _ _ (T203.setTop (mkF m 249 #[own_jv q0, .second, own_jv q1, .second, own_jv q2, .second, iv p3, iv p4, iv p5, iv (0 : Int32), iv (2 : Int32), iv (0 : Int32), rv b102, rv b111, rv b115, rv b119, iv (1 : Int32)] [(.long q2)]))
        refine own_st (fun _ k => XS.lload X203.here hx rfl (hb hby at_249) rfl  k) ?_
        show own_Goes p e below s _ _ (T203.setTop (mkF m 251 #[own_jv q0, .second, own_jv q1, .second, own_jv q2, .second, iv p3, iv p4, iv p5, iv (0 : Int32), iv (2 : Int32), iv (0 : Int32), rv b102, rv b111, rv b115, rv b119, iv (1 : Int32)] [(.long q2), (.long q2)]))
        refine own_st (fun _ k => XS.lcmp X203.here hx rfl (hb hby at_251) rfl k) ?_
        show own_Goes p e below s _ _ (T203.setTop (mkF m 252 #[own_jv q0, .second, own_jv q1, .second, own_jv q2, .second, iv p3, iv p4, iv p5, iv (0 : Int32), iv (2 : Int32), iv (0 : Int32), rv b102, rv b111, rv b115, rv b119, iv (1 : Int32)] [(.int (lcmpW q2 q2))]))
        refine own_st (fun _ k => XS.ifNo X203.here hx rfl (hb hby at_252) rfl ((if0 _ _).trans (teq ((lw_eq _ _).mpr (rfl : q2 = q2))).2) k) ?_
        show own_Goes p e below s _ _ (T203.setTop (mkF m 255 #[own_jv q0, .second, own_jv q1, .second, own_jv q2, .second, iv p3, iv p4, iv p5, iv (0 : Int32), iv (2 : Int32), iv (0 : Int32), rv b102, rv b111, rv b115, rv b119, iv (1 : Int32)] []))
        refine own_st (fun _ k => XS.iconst X203.here hx rfl (hb hby at_255) k) ?_
        show own_Goes p e below s _ _ (T203.setTop (mkF m 256 #[own_jv q0, .second, own_jv q1, .second, own_jv q2, .second, iv p3, iv p4, iv p5, iv (0 : Int32), iv (2 : Int32), iv (0 : Int32), rv b102, rv b111, rv b115, rv b119, iv (1 : Int32)] [(.int (1 : Int32))]))
        refine own_st (fun _ k => XS.goto X203.here hx rfl (pc0 := 256) (pc' := 260) rfl (hb hby at_256) (by decide) (by decide) k) ?_
        show own_Goes p e below s _ _ (T203.setTop (mkF m 260 #[own_jv q0, .second, own_jv q1, .second, own_jv q2, .second, iv p3, iv p4, iv p5, iv (0 : Int32), iv (2 : Int32), iv (0 : Int32), rv b102, rv b111, rv b115, rv b119, iv (1 : Int32)] [(.int (1 : Int32))]))
        refine own_st (fun _ k => XS.istore X203.here hx rfl (hb hby at_260) rfl (l' := #[own_jv q0, .second, own_jv q1, .second, own_jv q2, .second, iv p3, iv p4, iv p5, iv (0 : Int32), iv (2 : Int32), iv (0 : Int32), rv b102, rv b111, rv b115, rv b119, iv (1 : Int32)]) rfl k) ?_
        show own_Goes p e below s _ _ (T203.setTop (mkF m 262 #[own_jv q0, .second, own_jv q1, .second, own_jv q2, .second, iv p3, iv p4, iv p5, iv (0 : Int32), iv (2 : Int32), iv (0 : Int32), rv b102, rv b111, rv b115, rv b119, iv (1 : Int32)] []))
        refine own_st (fun _ k => XS.iload X203.here hx rfl (hb hby at_262) rfl  k) ?_
        show own_Goes p e below s _ _ (T203.setTop (mkF m 264 #[own_jv q0, .second, own_jv q1, .second, own_jv q2, .second, iv p3, iv p4, iv p5, iv (0 : Int32), iv (2 : Int32), iv (0 : Int32), rv b102, rv b111, rv b115, rv b119, iv (1 : Int32)] [(.int (1 : Int32))]))
        exact own_retN X203 hx hlk (1 : Int32) hret (Or.inl rfl) rfl (hb hby at_264) (by decide) (by decide) ⟨rfl, N203⟩
    · show own_Goes p e below s _ _ (T119.setTop (mkF m 141 #[own_jv q0, .second, own_jv q1, .second, own_jv q2, .second, iv p3, iv p4, iv p5, iv (1 : Int32), iv to, iv (0 : Int32), rv b102, rv b111, rv b115, rv b119, .unset] []))
      rcases own_3 hto with rfl | rfl | rfl
      · show own_Goes p e below s _ _ (T119.setTop (mkF m 141 #[own_jv q0, .second, own_jv q1, .second, own_jv q2, .second, iv p3, iv p4, iv p5, iv (1 : Int32), iv (0 : Int32), iv (0 : Int32), rv b102, rv b111, rv b115, rv b119, .unset] []))
        refine own_st (fun _ k => XS.aload X119.here hx rfl (hb hby at_141) rfl rfl  k) ?_
        show own_Goes p e below s _ _ (T119.setTop (mkF m 143 #[own_jv q0, .second, own_jv q1, .second, own_jv q2, .second, iv p3, iv p4, iv p5, iv (1 : Int32), iv (0 : Int32), iv (0 : Int32), rv b102, rv b111, rv b115, rv b119, .unset] [(.ref b115)]))
        refine own_st (fun _ k => XS.iload X119.here hx rfl (hb hby at_143) rfl  k) ?_
        show own_Goes p e below s _ _ (T119.setTop (mkF m 145 #[own_jv q0, .second, own_jv q1, .second, own_jv q2, .second, iv p3, iv p4, iv p5, iv (1 : Int32), iv (0 : Int32), iv (0 : Int32), rv b102, rv b111, rv b115, rv b119, .unset] [(.int (0 : Int32)), (.ref b115)]))
        refine own_st (fun _ k => XS.aload X119.here hx rfl (hb hby at_145) rfl rfl  k) ?_
        show own_Goes p e below s _ _ (T119.setTop (mkF m 147 #[own_jv q0, .second, own_jv q1, .second, own_jv q2, .second, iv p3, iv p4, iv p5, iv (1 : Int32), iv (0 : Int32), iv (0 : Int32), rv b102, rv b111, rv b115, rv b119, .unset] [(.ref b111), (.int (0 : Int32)), (.ref b115)]))
        refine own_st (fun _ k => XS.iload X119.here hx rfl (hb hby at_147) rfl  k) ?_
        show own_Goes p e below s _ _ (T119.setTop (mkF m 149 #[own_jv q0, .second, own_jv q1, .second, own_jv q2, .second, iv p3, iv p4, iv p5, iv (1 : Int32), iv (0 : Int32), iv (0 : Int32), rv b102, rv b111, rv b115, rv b119, .unset] [(.int (1 : Int32)), (.ref b111), (.int (0 : Int32)), (.ref b115)]))
        have f204 := (((((V114.ext E115).other W116 (own_ne (by omega))).other W117 (own_ne (by omega))).other W118 (own_ne (by omega))).keep K119 nin0)
        refine own_st (fun _ k => own_ldJ X119 hx hZ rfl f204 (j := (1 : Int32)) (by decide) (g := (mkF m 149 #[own_jv q0, .second, own_jv q1, .second, own_jv q2, .second, iv p3, iv p4, iv p5, iv (1 : Int32), iv (0 : Int32), iv (0 : Int32), rv b102, rv b111, rv b115, rv b119, .unset] [(.int (1 : Int32)), (.ref b111), (.int (0 : Int32)), (.ref b115)])) rfl rfl (hb hby at_149) _ k) ?_
        show own_Goes p e below s _ _ (T119.setTop (mkF m 150 #[own_jv q0, .second, own_jv q1, .second, own_jv q2, .second, iv p3, iv p4, iv p5, iv (1 : Int32), iv (0 : Int32), iv (0 : Int32), rv b102, rv b111, rv b115, rv b119, .unset] [(.long q1), (.int (0 : Int32)), (.ref b115)]))
        have f205 := (V118.keep K119 nin0)
        obtain ⟨T206, h206, X206, e206, W206, A206, st206⟩ := own_stJ X119 hx hZ rfl f205 (j := (0 : Int32)) (by decide) (g := (mkF m 150 #[own_jv q0, .second, own_jv q1, .second, own_jv q2, .second, iv p3, iv p4, iv p5, iv (1 : Int32), iv (0 : Int32), iv (0 : Int32), rv b102, rv b111, rv b115, rv b119, .unset] [(.long q1), (.int (0 : Int32)), (.ref b115)])) rfl rfl (hb hby at_150)
        have V206 : own_Arf Z h206 b115 .long 3 (fun k => .long ((fun k => if k = 0 then q1 else (fun k => if k = 2 then q0 else (fun k => if k = 1 then q0 else (fun k => if k = 0 then q0 else (fun _ => (0 : Int64)) k) k) k) k) k)) := A206
        have z206 := W206.size
        have N206 := Fr.snoc X206 N119 (by omega)
        refine own_st st206 ?_
        show own_Goes p e below s _ _ (T206.setTop (mkF m 151 #[own_jv q0, .second, own_jv q1, .second, own_jv q2, .second, iv p3, iv p4, iv p5, iv (1 : Int32), iv (0 : Int32), iv (0 : Int32), rv b102, rv b111, rv b115, rv b119, .unset] []))
        refine own_st (fun _ k => XS.aload X206.here hx rfl (hb hby at_151) rfl rfl  k) ?_
        show own_Goes p e below s _ _ (T206.setTop (mkF m 153 #[own_jv q0, .second, own_jv q1, .second, own_jv q2, .second, iv p3, iv p4, iv p5, iv (1 : Int32), iv (0 : Int32), iv (0 : Int32), rv b102, rv b111, rv b115, rv b119, .unset] [(.ref b102)]))
        refine own_st (fun _ k => XS.iload X206.here hx rfl (hb hby at_153) rfl  k) ?_
        show own_Goes p e below s _ _ (T206.setTop (mkF m 155 #[own_jv q0, .second, own_jv q1, .second, own_jv q2, .second, iv p3, iv p4, iv p5, iv (1 : Int32), iv (0 : Int32), iv (0 : Int32), rv b102, rv b111, rv b115, rv b119, .unset] [(.int (1 : Int32)), (.ref b102)]))
        refine own_st (fun _ k => XS.aload X206.here hx rfl (hb hby at_155) rfl rfl  k) ?_
        show own_Goes p e below s _ _ (T206.setTop (mkF m 157 #[own_jv q0, .second, own_jv q1, .second, own_jv q2, .second, iv p3, iv p4, iv p5, iv (1 : Int32), iv (0 : Int32), iv (0 : Int32), rv b102, rv b111, rv b115, rv b119, .unset] [(.ref b119), (.int (1 : Int32)), (.ref b102)]))
        refine own_st (fun _ k => XS.iload X206.here hx rfl (hb hby at_157) rfl  k) ?_
        show own_Goes p e below s _ _ (T206.setTop (mkF m 159 #[own_jv q0, .second, own_jv q1, .second, own_jv q2, .second, iv p3, iv p4, iv p5, iv (1 : Int32), iv (0 : Int32), iv (0 : Int32), rv b102, rv b111, rv b115, rv b119, .unset] [(.int (0 : Int32)), (.ref b119), (.int (1 : Int32)), (.ref b102)]))
        have f208 := ((f120.keep K119 nin0).other W206 (Or.inl (own_ne (by omega))))
        have f209 := (Fc119.other W206 (Or.inl (own_ne (by omega))))
        have f210 := ((((((((((Vd109.ext E111).other W112 (own_ne (by omega))).other W113 (own_ne (by omega))).other W114 (own_ne (by omega))).ext E115).other W116 (own_ne (by omega))).other W117 (own_ne (by omega))).other W118 (own_ne (by omega))).keep K119 nin0).other W206 (own_ne (by omega)))
        have f211 := (Vc119.other W206 (own_ne (by omega)))
        have f212 := ((f128.keep K119).wr W206)
        obtain ⟨v207, T207, L207, X207, Q207, st207⟩ := own_callV X206 hx hZ (C := "com/example/reach2/reach2/model/CodedColumn") (y := (⟨"com/example/reach2/reach2/model/CodedColumn", "copyTo", "(ILcom/example/reach2/reach2/model/CodedColumn;I)V"⟩ : MethodName)) hown (hw _ (List.mem_of_getElem? (i := 38) rfl)) (hw _ (List.mem_of_getElem? (i := 39) rfl)) (hw _ (List.mem_of_getElem? (i := 41) rfl)) (hw _ (List.mem_of_getElem? (i := 40) rfl)) (hw _ (List.mem_of_getElem? (i := 3) rfl)) (hw _ (List.mem_of_getElem? (i := 42) rfl)) (by decide) (W := 0) (rest := []) (argsL := [(.int (1 : Int32)), (.ref b119), (.int (0 : Int32))]) (a := b102) (rmCT l Z a0 hw [] b102 (1 : Int32) b119 (0 : Int32) ac103 bc119 _ _ h206 n0 (by omega) f208 f209 f210 f211 (by decide) (by decide) (by omega)) (by decide) (by decide) (by decide) (by decide) e206 f212 own_pd5 rfl (g := (mkF m 159 #[own_jv q0, .second, own_jv q1, .second, own_jv q2, .second, iv p3, iv p4, iv p5, iv (1 : Int32), iv (0 : Int32), iv (0 : Int32), rv b102, rv b111, rv b115, rv b119, .unset] [(.int (0 : Int32)), (.ref b119), (.int (1 : Int32)), (.ref b102)])) rfl (by rw [hml]; rfl) rfl (by show 2 * 0 + _ ≤ _; exact Nat.le_of_eq rfl) (hb hby at_159)
        obtain ⟨rfl, N207q, K207, V207⟩ := Q207
        have z207 := K207.1
        have Vt207 : own_Arf Z T207.heap bc119 .byte 3 (fun k => .int ((fun k => if k = 0 then (nar .byte (nar .byte (r107.toInt8.toInt32))) else (fun _ => (0 : Int32)) k) k)) := V207
        have N207 := Fr.app N206 N207q
        refine own_st st207 ?_
        show own_Goes p e below s _ _ (T207.setTop (mkF m 162 #[own_jv q0, .second, own_jv q1, .second, own_jv q2, .second, iv p3, iv p4, iv p5, iv (1 : Int32), iv (0 : Int32), iv (0 : Int32), rv b102, rv b111, rv b115, rv b119, .unset] []))
        refine own_st (fun _ k => XS.aload X207.here hx rfl (hb hby at_162) rfl rfl  k) ?_
        show own_Goes p e below s _ _ (T207.setTop (mkF m 164 #[own_jv q0, .second, own_jv q1, .second, own_jv q2, .second, iv p3, iv p4, iv p5, iv (1 : Int32), iv (0 : Int32), iv (0 : Int32), rv b102, rv b111, rv b115, rv b119, .unset] [(.ref b119)]))
        refine own_st (fun _ k => XS.iconst X207.here hx rfl (hb hby at_164) k) ?_
        show own_Goes p e below s _ _ (T207.setTop (mkF m 165 #[own_jv q0, .second, own_jv q1, .second, own_jv q2, .second, iv p3, iv p4, iv p5, iv (1 : Int32), iv (0 : Int32), iv (0 : Int32), rv b102, rv b111, rv b115, rv b119, .unset] [(.int (0 : Int32)), (.ref b119)]))
        have f214 := (f209.keep K207 (ninS (own_ne (by omega)) nin0))
        have f215 := ((Fv119.other W206 (Or.inl (own_ne (by omega)))).keep K207 (ninS (own_ne (by omega)) nin0))
        have f216 := ((Vv119.other W206 (own_ne (by omega))).keep K207 (ninS (own_ne (by omega)) nin0))
        have f217 := ((A119.wr W206).keep K207)
        obtain ⟨v213, T213, L213, X213, Q213, st213⟩ := own_callV X207 hx hZ (C := "com/example/reach2/reach2/model/CodedColumn") (y := (⟨"com/example/reach2/reach2/model/CodedColumn", "get", "(I)J"⟩ : MethodName)) hown (hw _ (List.mem_of_getElem? (i := 43) rfl)) (hw _ (List.mem_of_getElem? (i := 44) rfl)) (hw _ (List.mem_of_getElem? (i := 46) rfl)) (hw _ (List.mem_of_getElem? (i := 45) rfl)) (hw _ (List.mem_of_getElem? (i := 3) rfl)) (hw _ (List.mem_of_getElem? (i := 47) rfl)) (by decide) (W := 0) (rest := []) (argsL := [(.int (0 : Int32))]) (a := b119) (rmGet l Z a0 hw [] b119 (0 : Int32) _ _ _ _ T207.heap n0 (by omega) f214 f215 Vt207 f216 (by decide)) (by decide) (by decide) (by decide) (by decide) rfl f217 own_pd6 rfl (g := (mkF m 165 #[own_jv q0, .second, own_jv q1, .second, own_jv q2, .second, iv p3, iv p4, iv p5, iv (1 : Int32), iv (0 : Int32), iv (0 : Int32), rv b102, rv b111, rv b115, rv b119, .unset] [(.int (0 : Int32)), (.ref b119)])) rfl (by rw [hml]; rfl) rfl (by show 2 * 0 + _ ≤ _; exact Nat.le_of_eq rfl) (hb hby at_165)
        obtain ⟨g213, rfl, hg213, N213q, e213⟩ := Q213
        obtain rfl : q1 = g213 := (hg213.trans (own_at2 (by omega) ((rf109 _ (by omega)).trans re107))).symm
        have N213 := Fr.app N207 N213q
        refine own_st st213 ?_
        show own_Goes p e below s _ _ (T213.setTop (mkF m 168 #[own_jv q0, .second, own_jv q1, .second, own_jv q2, .second, iv p3, iv p4, iv p5, iv (1 : Int32), iv (0 : Int32), iv (0 : Int32), rv b102, rv b111, rv b115, rv b119, .unset] [(.long q1)]))
        refine own_st (fun _ k => XS.aload X213.here hx rfl (hb hby at_168) rfl rfl  k) ?_
        show own_Goes p e below s _ _ (T213.setTop (mkF m 170 #[own_jv q0, .second, own_jv q1, .second, own_jv q2, .second, iv p3, iv p4, iv p5, iv (1 : Int32), iv (0 : Int32), iv (0 : Int32), rv b102, rv b111, rv b115, rv b119, .unset] [(.ref b115), (.long q1)]))
        refine own_st (fun _ k => XS.iconst X213.here hx rfl (hb hby at_170) k) ?_
        show own_Goes p e below s _ _ (T213.setTop (mkF m 171 #[own_jv q0, .second, own_jv q1, .second, own_jv q2, .second, iv p3, iv p4, iv p5, iv (1 : Int32), iv (0 : Int32), iv (0 : Int32), rv b102, rv b111, rv b115, rv b119, .unset] [(.int (0 : Int32)), (.ref b115), (.long q1)]))
        have f218 := (V206.keep K207 (ninS (own_ne (by omega)) nin0))
        refine own_st (fun _ k => own_ldJ X213 hx hZ e213 f218 (j := (0 : Int32)) (by decide) (g := (mkF m 171 #[own_jv q0, .second, own_jv q1, .second, own_jv q2, .second, iv p3, iv p4, iv p5, iv (1 : Int32), iv (0 : Int32), iv (0 : Int32), rv b102, rv b111, rv b115, rv b119, .unset] [(.int (0 : Int32)), (.ref b115), (.long q1)])) rfl rfl (hb hby at_171) _ k) ?_
        show own_Goes p e below s _ _ (T213.setTop (mkF m 172 #[own_jv q0, .second, own_jv q1, .second, own_jv q2, .second, iv p3, iv p4, iv p5, iv (1 : Int32), iv (0 : Int32), iv (0 : Int32), rv b102, rv b111, rv b115, rv b119, .unset] [(.long q1), (.long q1)]))
        refine own_st (fun _ k => XS.lcmp X213.here hx rfl (hb hby at_172) rfl k) ?_
        show own_Goes p e below s _ _ (T213.setTop (mkF m 173 #[own_jv q0, .second, own_jv q1, .second, own_jv q2, .second, iv p3, iv p4, iv p5, iv (1 : Int32), iv (0 : Int32), iv (0 : Int32), rv b102, rv b111, rv b115, rv b119, .unset] [(.int (lcmpW q1 q1))]))
        refine own_st (fun _ k => XS.ifNo X213.here hx rfl (hb hby at_173) rfl ((if0 _ _).trans (teq ((lw_eq _ _).mpr (rfl : q1 = q1))).2) k) ?_
        show own_Goes p e below s _ _ (T213.setTop (mkF m 176 #[own_jv q0, .second, own_jv q1, .second, own_jv q2, .second, iv p3, iv p4, iv p5, iv (1 : Int32), iv (0 : Int32), iv (0 : Int32), rv b102, rv b111, rv b115, rv b119, .unset] []))
        refine own_st (fun _ k => XS.aload X213.here hx rfl (hb hby at_176) rfl rfl  k) ?_
        show own_Goes p e below s _ _ (T213.setTop (mkF m 178 #[own_jv q0, .second, own_jv q1, .second, own_jv q2, .second, iv p3, iv p4, iv p5, iv (1 : Int32), iv (0 : Int32), iv (0 : Int32), rv b102, rv b111, rv b115, rv b119, .unset] [(.ref b119)]))
        refine own_st (fun _ k => XS.iconst X213.here hx rfl (hb hby at_178) k) ?_
        show own_Goes p e below s _ _ (T213.setTop (mkF m 179 #[own_jv q0, .second, own_jv q1, .second, own_jv q2, .second, iv p3, iv p4, iv p5, iv (1 : Int32), iv (0 : Int32), iv (0 : Int32), rv b102, rv b111, rv b115, rv b119, .unset] [(.int (1 : Int32)), (.ref b119)]))
        obtain ⟨v219, T219, L219, X219, Q219, st219⟩ := own_callV X213 hx hZ (C := "com/example/reach2/reach2/model/CodedColumn") (y := (⟨"com/example/reach2/reach2/model/CodedColumn", "get", "(I)J"⟩ : MethodName)) hown (hw _ (List.mem_of_getElem? (i := 43) rfl)) (hw _ (List.mem_of_getElem? (i := 44) rfl)) (hw _ (List.mem_of_getElem? (i := 46) rfl)) (hw _ (List.mem_of_getElem? (i := 45) rfl)) (hw _ (List.mem_of_getElem? (i := 3) rfl)) (hw _ (List.mem_of_getElem? (i := 47) rfl)) (by decide) (W := 0) (rest := []) (argsL := [(.int (1 : Int32))]) (a := b119) (rmGet l Z a0 hw [] b119 (1 : Int32) _ _ _ _ T207.heap n0 (by omega) f214 f215 Vt207 f216 (by decide)) (by decide) (by decide) (by decide) (by decide) e213 f217 own_pd6 rfl (g := (mkF m 179 #[own_jv q0, .second, own_jv q1, .second, own_jv q2, .second, iv p3, iv p4, iv p5, iv (1 : Int32), iv (0 : Int32), iv (0 : Int32), rv b102, rv b111, rv b115, rv b119, .unset] [(.int (1 : Int32)), (.ref b119)])) rfl (by rw [hml]; rfl) rfl (by show 2 * 0 + _ ≤ _; exact Nat.le_of_eq rfl) (hb hby at_179)
        obtain ⟨g219, rfl, hg219, N219q, e219⟩ := Q219
        obtain rfl : q0 = g219 := (hg219.trans (own_at0 (by omega) ((rf109 _ (by omega)).trans ((rf107 _ (by omega)).trans re104)))).symm
        have N219 := Fr.app N213 N219q
        refine own_st st219 ?_
        show own_Goes p e below s _ _ (T219.setTop (mkF m 182 #[own_jv q0, .second, own_jv q1, .second, own_jv q2, .second, iv p3, iv p4, iv p5, iv (1 : Int32), iv (0 : Int32), iv (0 : Int32), rv b102, rv b111, rv b115, rv b119, .unset] [(.long q0)]))
        refine own_st (fun _ k => XS.aload X219.here hx rfl (hb hby at_182) rfl rfl  k) ?_
        show own_Goes p e below s _ _ (T219.setTop (mkF m 184 #[own_jv q0, .second, own_jv q1, .second, own_jv q2, .second, iv p3, iv p4, iv p5, iv (1 : Int32), iv (0 : Int32), iv (0 : Int32), rv b102, rv b111, rv b115, rv b119, .unset] [(.ref b115), (.long q0)]))
        refine own_st (fun _ k => XS.iconst X219.here hx rfl (hb hby at_184) k) ?_
        show own_Goes p e below s _ _ (T219.setTop (mkF m 185 #[own_jv q0, .second, own_jv q1, .second, own_jv q2, .second, iv p3, iv p4, iv p5, iv (1 : Int32), iv (0 : Int32), iv (0 : Int32), rv b102, rv b111, rv b115, rv b119, .unset] [(.int (1 : Int32)), (.ref b115), (.long q0)]))
        refine own_st (fun _ k => own_ldJ X219 hx hZ e219 f218 (j := (1 : Int32)) (by decide) (g := (mkF m 185 #[own_jv q0, .second, own_jv q1, .second, own_jv q2, .second, iv p3, iv p4, iv p5, iv (1 : Int32), iv (0 : Int32), iv (0 : Int32), rv b102, rv b111, rv b115, rv b119, .unset] [(.int (1 : Int32)), (.ref b115), (.long q0)])) rfl rfl (hb hby at_185) _ k) ?_
        show own_Goes p e below s _ _ (T219.setTop (mkF m 186 #[own_jv q0, .second, own_jv q1, .second, own_jv q2, .second, iv p3, iv p4, iv p5, iv (1 : Int32), iv (0 : Int32), iv (0 : Int32), rv b102, rv b111, rv b115, rv b119, .unset] [(.long q0), (.long q0)]))
        refine own_st (fun _ k => XS.lcmp X219.here hx rfl (hb hby at_186) rfl k) ?_
        show own_Goes p e below s _ _ (T219.setTop (mkF m 187 #[own_jv q0, .second, own_jv q1, .second, own_jv q2, .second, iv p3, iv p4, iv p5, iv (1 : Int32), iv (0 : Int32), iv (0 : Int32), rv b102, rv b111, rv b115, rv b119, .unset] [(.int (lcmpW q0 q0))]))
        refine own_st (fun _ k => XS.ifNo X219.here hx rfl (hb hby at_187) rfl ((if0 _ _).trans (teq ((lw_eq _ _).mpr (rfl : q0 = q0))).2) k) ?_
        show own_Goes p e below s _ _ (T219.setTop (mkF m 190 #[own_jv q0, .second, own_jv q1, .second, own_jv q2, .second, iv p3, iv p4, iv p5, iv (1 : Int32), iv (0 : Int32), iv (0 : Int32), rv b102, rv b111, rv b115, rv b119, .unset] []))
        refine own_st (fun _ k => XS.aload X219.here hx rfl (hb hby at_190) rfl rfl  k) ?_
        show own_Goes p e below s _ _ (T219.setTop (mkF m 192 #[own_jv q0, .second, own_jv q1, .second, own_jv q2, .second, iv p3, iv p4, iv p5, iv (1 : Int32), iv (0 : Int32), iv (0 : Int32), rv b102, rv b111, rv b115, rv b119, .unset] [(.ref b119)]))
        refine own_st (fun _ k => XS.iconst X219.here hx rfl (hb hby at_192) k) ?_
        show own_Goes p e below s _ _ (T219.setTop (mkF m 193 #[own_jv q0, .second, own_jv q1, .second, own_jv q2, .second, iv p3, iv p4, iv p5, iv (1 : Int32), iv (0 : Int32), iv (0 : Int32), rv b102, rv b111, rv b115, rv b119, .unset] [(.int (2 : Int32)), (.ref b119)]))
        obtain ⟨v220, T220, L220, X220, Q220, st220⟩ := own_callV X219 hx hZ (C := "com/example/reach2/reach2/model/CodedColumn") (y := (⟨"com/example/reach2/reach2/model/CodedColumn", "get", "(I)J"⟩ : MethodName)) hown (hw _ (List.mem_of_getElem? (i := 43) rfl)) (hw _ (List.mem_of_getElem? (i := 44) rfl)) (hw _ (List.mem_of_getElem? (i := 46) rfl)) (hw _ (List.mem_of_getElem? (i := 45) rfl)) (hw _ (List.mem_of_getElem? (i := 3) rfl)) (hw _ (List.mem_of_getElem? (i := 47) rfl)) (by decide) (W := 0) (rest := []) (argsL := [(.int (2 : Int32))]) (a := b119) (rmGet l Z a0 hw [] b119 (2 : Int32) _ _ _ _ T207.heap n0 (by omega) f214 f215 Vt207 f216 (by decide)) (by decide) (by decide) (by decide) (by decide) e219 f217 own_pd6 rfl (g := (mkF m 193 #[own_jv q0, .second, own_jv q1, .second, own_jv q2, .second, iv p3, iv p4, iv p5, iv (1 : Int32), iv (0 : Int32), iv (0 : Int32), rv b102, rv b111, rv b115, rv b119, .unset] [(.int (2 : Int32)), (.ref b119)])) rfl (by rw [hml]; rfl) rfl (by show 2 * 0 + _ ≤ _; exact Nat.le_of_eq rfl) (hb hby at_193)
        obtain ⟨g220, rfl, hg220, N220q, e220⟩ := Q220
        obtain rfl : q0 = g220 := (hg220.trans (own_at0 (by omega) ((rf109 _ (by omega)).trans ((rf107 _ (by omega)).trans re104)))).symm
        have N220 := Fr.app N219 N220q
        refine own_st st220 ?_
        show own_Goes p e below s _ _ (T220.setTop (mkF m 196 #[own_jv q0, .second, own_jv q1, .second, own_jv q2, .second, iv p3, iv p4, iv p5, iv (1 : Int32), iv (0 : Int32), iv (0 : Int32), rv b102, rv b111, rv b115, rv b119, .unset] [(.long q0)]))
        refine own_st (fun _ k => XS.aload X220.here hx rfl (hb hby at_196) rfl rfl  k) ?_
        show own_Goes p e below s _ _ (T220.setTop (mkF m 198 #[own_jv q0, .second, own_jv q1, .second, own_jv q2, .second, iv p3, iv p4, iv p5, iv (1 : Int32), iv (0 : Int32), iv (0 : Int32), rv b102, rv b111, rv b115, rv b119, .unset] [(.ref b115), (.long q0)]))
        refine own_st (fun _ k => XS.iconst X220.here hx rfl (hb hby at_198) k) ?_
        show own_Goes p e below s _ _ (T220.setTop (mkF m 199 #[own_jv q0, .second, own_jv q1, .second, own_jv q2, .second, iv p3, iv p4, iv p5, iv (1 : Int32), iv (0 : Int32), iv (0 : Int32), rv b102, rv b111, rv b115, rv b119, .unset] [(.int (2 : Int32)), (.ref b115), (.long q0)]))
        refine own_st (fun _ k => own_ldJ X220 hx hZ e220 f218 (j := (2 : Int32)) (by decide) (g := (mkF m 199 #[own_jv q0, .second, own_jv q1, .second, own_jv q2, .second, iv p3, iv p4, iv p5, iv (1 : Int32), iv (0 : Int32), iv (0 : Int32), rv b102, rv b111, rv b115, rv b119, .unset] [(.int (2 : Int32)), (.ref b115), (.long q0)])) rfl rfl (hb hby at_199) _ k) ?_
        show own_Goes p e below s _ _ (T220.setTop (mkF m 200 #[own_jv q0, .second, own_jv q1, .second, own_jv q2, .second, iv p3, iv p4, iv p5, iv (1 : Int32), iv (0 : Int32), iv (0 : Int32), rv b102, rv b111, rv b115, rv b119, .unset] [(.long q0), (.long q0)]))
        refine own_st (fun _ k => XS.lcmp X220.here hx rfl (hb hby at_200) rfl k) ?_
        show own_Goes p e below s _ _ (T220.setTop (mkF m 201 #[own_jv q0, .second, own_jv q1, .second, own_jv q2, .second, iv p3, iv p4, iv p5, iv (1 : Int32), iv (0 : Int32), iv (0 : Int32), rv b102, rv b111, rv b115, rv b119, .unset] [(.int (lcmpW q0 q0))]))
        refine own_st (fun _ k => XS.ifNo X220.here hx rfl (hb hby at_201) rfl ((if0 _ _).trans (teq ((lw_eq _ _).mpr (rfl : q0 = q0))).2) k) ?_
        show own_Goes p e below s _ _ (T220.setTop (mkF m 204 #[own_jv q0, .second, own_jv q1, .second, own_jv q2, .second, iv p3, iv p4, iv p5, iv (1 : Int32), iv (0 : Int32), iv (0 : Int32), rv b102, rv b111, rv b115, rv b119, .unset] []))
        refine own_st (fun _ k => XS.iconst X220.here hx rfl (hb hby at_204) k) ?_
        show own_Goes p e below s _ _ (T220.setTop (mkF m 205 #[own_jv q0, .second, own_jv q1, .second, own_jv q2, .second, iv p3, iv p4, iv p5, iv (1 : Int32), iv (0 : Int32), iv (0 : Int32), rv b102, rv b111, rv b115, rv b119, .unset] [(.int (1 : Int32))]))
        refine own_st (fun _ k => XS.goto X220.here hx rfl (pc0 := 205) (pc' := 209) rfl (hb hby at_205) (by decide) (by decide) k) ?_
        show own_Goes p e below s _ _ (T220.setTop (mkF m 209 #[own_jv q0, .second, own_jv q1, .second, own_jv q2, .second, iv p3, iv p4, iv p5, iv (1 : Int32), iv (0 : Int32), iv (0 : Int32), rv b102, rv b111, rv b115, rv b119, .unset] [(.int (1 : Int32))]))
        refine own_st (fun _ k => XS.istore X220.here hx rfl (hb hby at_209) rfl (l' := #[own_jv q0, .second, own_jv q1, .second, own_jv q2, .second, iv p3, iv p4, iv p5, iv (1 : Int32), iv (0 : Int32), iv (0 : Int32), rv b102, rv b111, rv b115, rv b119, iv (1 : Int32)]) rfl k) ?_
        show own_Goes p e below s _ _ (T220.setTop (mkF m 211 #[own_jv q0, .second, own_jv q1, .second, own_jv q2, .second, iv p3, iv p4, iv p5, iv (1 : Int32), iv (0 : Int32), iv (0 : Int32), rv b102, rv b111, rv b115, rv b119, iv (1 : Int32)] []))
        refine own_st (fun _ k => XS.iload X220.here hx rfl (hb hby at_211) rfl  k) ?_
        show own_Goes p e below s _ _ (T220.setTop (mkF m 213 #[own_jv q0, .second, own_jv q1, .second, own_jv q2, .second, iv p3, iv p4, iv p5, iv (1 : Int32), iv (0 : Int32), iv (0 : Int32), rv b102, rv b111, rv b115, rv b119, iv (1 : Int32)] [(.int (0 : Int32))]))
        refine own_st (fun _ k => XS.ifNo X220.here hx rfl (hb hby at_213) rfl ((if0 _ _).trans (teq (by decide : (0 : Int32) = (0 : Int32))).2) k) ?_
        show own_Goes p e below s _ _ (T220.setTop (mkF m 216 #[own_jv q0, .second, own_jv q1, .second, own_jv q2, .second, iv p3, iv p4, iv p5, iv (1 : Int32), iv (0 : Int32), iv (0 : Int32), rv b102, rv b111, rv b115, rv b119, iv (1 : Int32)] []))
        refine own_st (fun _ k => XS.iload X220.here hx rfl (hb hby at_216) rfl  k) ?_
        show own_Goes p e below s _ _ (T220.setTop (mkF m 218 #[own_jv q0, .second, own_jv q1, .second, own_jv q2, .second, iv p3, iv p4, iv p5, iv (1 : Int32), iv (0 : Int32), iv (0 : Int32), rv b102, rv b111, rv b115, rv b119, iv (1 : Int32)] [(.int (1 : Int32))]))
        refine own_st (fun _ k => XS.ifNo X220.here hx rfl (hb hby at_218) rfl ((if0 _ _).trans (feq (by decide : ¬ ((1 : Int32) = (0 : Int32)))).1) k) ?_
        show own_Goes p e below s _ _ (T220.setTop (mkF m 221 #[own_jv q0, .second, own_jv q1, .second, own_jv q2, .second, iv p3, iv p4, iv p5, iv (1 : Int32), iv (0 : Int32), iv (0 : Int32), rv b102, rv b111, rv b115, rv b119, iv (1 : Int32)] []))
        refine own_st (fun _ k => XS.aload X220.here hx rfl (hb hby at_221) rfl rfl  k) ?_
        show own_Goes p e below s _ _ (T220.setTop (mkF m 223 #[own_jv q0, .second, own_jv q1, .second, own_jv q2, .second, iv p3, iv p4, iv p5, iv (1 : Int32), iv (0 : Int32), iv (0 : Int32), rv b102, rv b111, rv b115, rv b119, iv (1 : Int32)] [(.ref b102)]))
        refine own_st (fun _ k => XS.iconst X220.here hx rfl (hb hby at_223) k) ?_
        show own_Goes p e below s _ _ (T220.setTop (mkF m 224 #[own_jv q0, .second, own_jv q1, .second, own_jv q2, .second, iv p3, iv p4, iv p5, iv (1 : Int32), iv (0 : Int32), iv (0 : Int32), rv b102, rv b111, rv b115, rv b119, iv (1 : Int32)] [(.int (0 : Int32)), (.ref b102)]))
        have f222 := (f208.keep K207 (ninS (own_ne (by omega)) nin0))
        have f223 := (((f121.keep K119 nin0).other W206 (Or.inl (own_ne (by omega)))).keep K207 (ninS (own_ne (by omega)) nin0))
        have f224 := (f210.keep K207 (ninS (own_ne (by omega)) nin0))
        have f225 := (((f124.keep K119 nin0).other W206 (own_ne (by omega))).keep K207 (ninS (own_ne (by omega)) nin0))
        have f226 := (f212.keep K207)
        obtain ⟨v221, T221, L221, X221, Q221, st221⟩ := own_callV X220 hx hZ (C := "com/example/reach2/reach2/model/CodedColumn") (y := (⟨"com/example/reach2/reach2/model/CodedColumn", "get", "(I)J"⟩ : MethodName)) hown (hw _ (List.mem_of_getElem? (i := 43) rfl)) (hw _ (List.mem_of_getElem? (i := 44) rfl)) (hw _ (List.mem_of_getElem? (i := 46) rfl)) (hw _ (List.mem_of_getElem? (i := 45) rfl)) (hw _ (List.mem_of_getElem? (i := 3) rfl)) (hw _ (List.mem_of_getElem? (i := 47) rfl)) (by decide) (W := 0) (rest := []) (argsL := [(.int (0 : Int32))]) (a := b102) (rmGet l Z a0 hw [] b102 (0 : Int32) _ _ _ _ T207.heap n0 (by omega) f222 f223 f224 f225 (by decide)) (by decide) (by decide) (by decide) (by decide) e220 f226 own_pd6 rfl (g := (mkF m 224 #[own_jv q0, .second, own_jv q1, .second, own_jv q2, .second, iv p3, iv p4, iv p5, iv (1 : Int32), iv (0 : Int32), iv (0 : Int32), rv b102, rv b111, rv b115, rv b119, iv (1 : Int32)] [(.int (0 : Int32)), (.ref b102)])) rfl (by rw [hml]; rfl) rfl (by show 2 * 0 + _ ≤ _; exact Nat.le_of_eq rfl) (hb hby at_224)
        obtain ⟨g221, rfl, hg221, N221q, e221⟩ := Q221
        obtain rfl : q0 = g221 := (hg221.trans (own_at (by omega) ((rf109 _ (by omega)).trans ((rf107 _ (by omega)).trans re104)))).symm
        have N221 := Fr.app N220 N221q
        refine own_st st221 ?_
        show own_Goes p e below s _ _ (T221.setTop (mkF m 227 #[own_jv q0, .second, own_jv q1, .second, own_jv q2, .second, iv p3, iv p4, iv p5, iv (1 : Int32), iv (0 : Int32), iv (0 : Int32), rv b102, rv b111, rv b115, rv b119, iv (1 : Int32)] [(.long q0)]))
        refine own_st (fun _ k => XS.lloadN X221.here hx rfl (hb hby at_227) rfl  k) ?_
        show own_Goes p e below s _ _ (T221.setTop (mkF m 228 #[own_jv q0, .second, own_jv q1, .second, own_jv q2, .second, iv p3, iv p4, iv p5, iv (1 : Int32), iv (0 : Int32), iv (0 : Int32), rv b102, rv b111, rv b115, rv b119, iv (1 : Int32)] [(.long q0), (.long q0)]))
        refine own_st (fun _ k => XS.lcmp X221.here hx rfl (hb hby at_228) rfl k) ?_
        show own_Goes p e below s _ _ (T221.setTop (mkF m 229 #[own_jv q0, .second, own_jv q1, .second, own_jv q2, .second, iv p3, iv p4, iv p5, iv (1 : Int32), iv (0 : Int32), iv (0 : Int32), rv b102, rv b111, rv b115, rv b119, iv (1 : Int32)] [(.int (lcmpW q0 q0))]))
        refine own_st (fun _ k => XS.ifNo X221.here hx rfl (hb hby at_229) rfl ((if0 _ _).trans (teq ((lw_eq _ _).mpr (rfl : q0 = q0))).2) k) ?_
        show own_Goes p e below s _ _ (T221.setTop (mkF m 232 #[own_jv q0, .second, own_jv q1, .second, own_jv q2, .second, iv p3, iv p4, iv p5, iv (1 : Int32), iv (0 : Int32), iv (0 : Int32), rv b102, rv b111, rv b115, rv b119, iv (1 : Int32)] []))
        refine own_st (fun _ k => XS.aload X221.here hx rfl (hb hby at_232) rfl rfl  k) ?_
        show own_Goes p e below s _ _ (T221.setTop (mkF m 234 #[own_jv q0, .second, own_jv q1, .second, own_jv q2, .second, iv p3, iv p4, iv p5, iv (1 : Int32), iv (0 : Int32), iv (0 : Int32), rv b102, rv b111, rv b115, rv b119, iv (1 : Int32)] [(.ref b102)]))
        refine own_st (fun _ k => XS.iconst X221.here hx rfl (hb hby at_234) k) ?_
        show own_Goes p e below s _ _ (T221.setTop (mkF m 235 #[own_jv q0, .second, own_jv q1, .second, own_jv q2, .second, iv p3, iv p4, iv p5, iv (1 : Int32), iv (0 : Int32), iv (0 : Int32), rv b102, rv b111, rv b115, rv b119, iv (1 : Int32)] [(.int (1 : Int32)), (.ref b102)]))
        obtain ⟨v227, T227, L227, X227, Q227, st227⟩ := own_callV X221 hx hZ (C := "com/example/reach2/reach2/model/CodedColumn") (y := (⟨"com/example/reach2/reach2/model/CodedColumn", "get", "(I)J"⟩ : MethodName)) hown (hw _ (List.mem_of_getElem? (i := 43) rfl)) (hw _ (List.mem_of_getElem? (i := 44) rfl)) (hw _ (List.mem_of_getElem? (i := 46) rfl)) (hw _ (List.mem_of_getElem? (i := 45) rfl)) (hw _ (List.mem_of_getElem? (i := 3) rfl)) (hw _ (List.mem_of_getElem? (i := 47) rfl)) (by decide) (W := 0) (rest := []) (argsL := [(.int (1 : Int32))]) (a := b102) (rmGet l Z a0 hw [] b102 (1 : Int32) _ _ _ _ T207.heap n0 (by omega) f222 f223 f224 f225 (by decide)) (by decide) (by decide) (by decide) (by decide) e221 f226 own_pd6 rfl (g := (mkF m 235 #[own_jv q0, .second, own_jv q1, .second, own_jv q2, .second, iv p3, iv p4, iv p5, iv (1 : Int32), iv (0 : Int32), iv (0 : Int32), rv b102, rv b111, rv b115, rv b119, iv (1 : Int32)] [(.int (1 : Int32)), (.ref b102)])) rfl (by rw [hml]; rfl) rfl (by show 2 * 0 + _ ≤ _; exact Nat.le_of_eq rfl) (hb hby at_235)
        obtain ⟨g227, rfl, hg227, N227q, e227⟩ := Q227
        obtain rfl : q1 = g227 := (hg227.trans (own_at (by omega) ((rf109 _ (by omega)).trans re107))).symm
        have N227 := Fr.app N221 N227q
        refine own_st st227 ?_
        show own_Goes p e below s _ _ (T227.setTop (mkF m 238 #[own_jv q0, .second, own_jv q1, .second, own_jv q2, .second, iv p3, iv p4, iv p5, iv (1 : Int32), iv (0 : Int32), iv (0 : Int32), rv b102, rv b111, rv b115, rv b119, iv (1 : Int32)] [(.long q1)]))
        refine own_st (fun _ k => XS.lloadN X227.here hx rfl (hb hby at_238) rfl  k) ?_
        show own_Goes p e below s _ _ (T227.setTop (mkF m 239 #[own_jv q0, .second, own_jv q1, .second, own_jv q2, .second, iv p3, iv p4, iv p5, iv (1 : Int32), iv (0 : Int32), iv (0 : Int32), rv b102, rv b111, rv b115, rv b119, iv (1 : Int32)] [(.long q1), (.long q1)]))
        refine own_st (fun _ k => XS.lcmp X227.here hx rfl (hb hby at_239) rfl k) ?_
        show own_Goes p e below s _ _ (T227.setTop (mkF m 240 #[own_jv q0, .second, own_jv q1, .second, own_jv q2, .second, iv p3, iv p4, iv p5, iv (1 : Int32), iv (0 : Int32), iv (0 : Int32), rv b102, rv b111, rv b115, rv b119, iv (1 : Int32)] [(.int (lcmpW q1 q1))]))
        refine own_st (fun _ k => XS.ifNo X227.here hx rfl (hb hby at_240) rfl ((if0 _ _).trans (teq ((lw_eq _ _).mpr (rfl : q1 = q1))).2) k) ?_
        show own_Goes p e below s _ _ (T227.setTop (mkF m 243 #[own_jv q0, .second, own_jv q1, .second, own_jv q2, .second, iv p3, iv p4, iv p5, iv (1 : Int32), iv (0 : Int32), iv (0 : Int32), rv b102, rv b111, rv b115, rv b119, iv (1 : Int32)] []))
        refine own_st (fun _ k => XS.aload X227.here hx rfl (hb hby at_243) rfl rfl  k) ?_
        show own_Goes p e below s _ _ (T227.setTop (mkF m 245 #[own_jv q0, .second, own_jv q1, .second, own_jv q2, .second, iv p3, iv p4, iv p5, iv (1 : Int32), iv (0 : Int32), iv (0 : Int32), rv b102, rv b111, rv b115, rv b119, iv (1 : Int32)] [(.ref b102)]))
        refine own_st (fun _ k => XS.iconst X227.here hx rfl (hb hby at_245) k) ?_
        show own_Goes p e below s _ _ (T227.setTop (mkF m 246 #[own_jv q0, .second, own_jv q1, .second, own_jv q2, .second, iv p3, iv p4, iv p5, iv (1 : Int32), iv (0 : Int32), iv (0 : Int32), rv b102, rv b111, rv b115, rv b119, iv (1 : Int32)] [(.int (2 : Int32)), (.ref b102)]))
        obtain ⟨v228, T228, L228, X228, Q228, st228⟩ := own_callV X227 hx hZ (C := "com/example/reach2/reach2/model/CodedColumn") (y := (⟨"com/example/reach2/reach2/model/CodedColumn", "get", "(I)J"⟩ : MethodName)) hown (hw _ (List.mem_of_getElem? (i := 43) rfl)) (hw _ (List.mem_of_getElem? (i := 44) rfl)) (hw _ (List.mem_of_getElem? (i := 46) rfl)) (hw _ (List.mem_of_getElem? (i := 45) rfl)) (hw _ (List.mem_of_getElem? (i := 3) rfl)) (hw _ (List.mem_of_getElem? (i := 47) rfl)) (by decide) (W := 0) (rest := []) (argsL := [(.int (2 : Int32))]) (a := b102) (rmGet l Z a0 hw [] b102 (2 : Int32) _ _ _ _ T207.heap n0 (by omega) f222 f223 f224 f225 (by decide)) (by decide) (by decide) (by decide) (by decide) e227 f226 own_pd6 rfl (g := (mkF m 246 #[own_jv q0, .second, own_jv q1, .second, own_jv q2, .second, iv p3, iv p4, iv p5, iv (1 : Int32), iv (0 : Int32), iv (0 : Int32), rv b102, rv b111, rv b115, rv b119, iv (1 : Int32)] [(.int (2 : Int32)), (.ref b102)])) rfl (by rw [hml]; rfl) rfl (by show 2 * 0 + _ ≤ _; exact Nat.le_of_eq rfl) (hb hby at_246)
        obtain ⟨g228, rfl, hg228, N228q, e228⟩ := Q228
        obtain rfl : q2 = g228 := (hg228.trans (own_at (by omega) re109)).symm
        have N228 := Fr.app N227 N228q
        refine own_st st228 ?_
        show own_Goes p e below s _ _ (T228.setTop (mkF m 249 #[own_jv q0, .second, own_jv q1, .second, own_jv q2, .second, iv p3, iv p4, iv p5, iv (1 : Int32), iv (0 : Int32), iv (0 : Int32), rv b102, rv b111, rv b115, rv b119, iv (1 : Int32)] [(.long q2)]))
        refine own_st (fun _ k => XS.lload X228.here hx rfl (hb hby at_249) rfl  k) ?_
        show own_Goes p e below s _ _ (T228.setTop (mkF m 251 #[own_jv q0, .second, own_jv q1, .second, own_jv q2, .second, iv p3, iv p4, iv p5, iv (1 : Int32), iv (0 : Int32), iv (0 : Int32), rv b102, rv b111, rv b115, rv b119, iv (1 : Int32)] [(.long q2), (.long q2)]))
        refine own_st (fun _ k => XS.lcmp X228.here hx rfl (hb hby at_251) rfl k) ?_
        show own_Goes p e below s _ _ (T228.setTop (mkF m 252 #[own_jv q0, .second, own_jv q1, .second, own_jv q2, .second, iv p3, iv p4, iv p5, iv (1 : Int32), iv (0 : Int32), iv (0 : Int32), rv b102, rv b111, rv b115, rv b119, iv (1 : Int32)] [(.int (lcmpW q2 q2))]))
        refine own_st (fun _ k => XS.ifNo X228.here hx rfl (hb hby at_252) rfl ((if0 _ _).trans (teq ((lw_eq _ _).mpr (rfl : q2 = q2))).2) k) ?_
        show own_Goes p e below s _ _ (T228.setTop (mkF m 255 #[own_jv q0, .second, own_jv q1, .second, own_jv q2, .second, iv p3, iv p4, iv p5, iv (1 : Int32), iv (0 : Int32), iv (0 : Int32), rv b102, rv b111, rv b115, rv b119, iv (1 : Int32)] []))
        refine own_st (fun _ k => XS.iconst X228.here hx rfl (hb hby at_255) k) ?_
        show own_Goes p e below s _ _ (T228.setTop (mkF m 256 #[own_jv q0, .second, own_jv q1, .second, own_jv q2, .second, iv p3, iv p4, iv p5, iv (1 : Int32), iv (0 : Int32), iv (0 : Int32), rv b102, rv b111, rv b115, rv b119, iv (1 : Int32)] [(.int (1 : Int32))]))
        refine own_st (fun _ k => XS.goto X228.here hx rfl (pc0 := 256) (pc' := 260) rfl (hb hby at_256) (by decide) (by decide) k) ?_
        show own_Goes p e below s _ _ (T228.setTop (mkF m 260 #[own_jv q0, .second, own_jv q1, .second, own_jv q2, .second, iv p3, iv p4, iv p5, iv (1 : Int32), iv (0 : Int32), iv (0 : Int32), rv b102, rv b111, rv b115, rv b119, iv (1 : Int32)] [(.int (1 : Int32))]))
        refine own_st (fun _ k => XS.istore X228.here hx rfl (hb hby at_260) rfl (l' := #[own_jv q0, .second, own_jv q1, .second, own_jv q2, .second, iv p3, iv p4, iv p5, iv (1 : Int32), iv (0 : Int32), iv (0 : Int32), rv b102, rv b111, rv b115, rv b119, iv (1 : Int32)]) rfl k) ?_
        show own_Goes p e below s _ _ (T228.setTop (mkF m 262 #[own_jv q0, .second, own_jv q1, .second, own_jv q2, .second, iv p3, iv p4, iv p5, iv (1 : Int32), iv (0 : Int32), iv (0 : Int32), rv b102, rv b111, rv b115, rv b119, iv (1 : Int32)] []))
        refine own_st (fun _ k => XS.iload X228.here hx rfl (hb hby at_262) rfl  k) ?_
        show own_Goes p e below s _ _ (T228.setTop (mkF m 264 #[own_jv q0, .second, own_jv q1, .second, own_jv q2, .second, iv p3, iv p4, iv p5, iv (1 : Int32), iv (0 : Int32), iv (0 : Int32), rv b102, rv b111, rv b115, rv b119, iv (1 : Int32)] [(.int (1 : Int32))]))
        exact own_retN X228 hx hlk (1 : Int32) hret (Or.inl rfl) rfl (hb hby at_264) (by decide) (by decide) ⟨rfl, N228⟩
      · show own_Goes p e below s _ _ (T119.setTop (mkF m 141 #[own_jv q0, .second, own_jv q1, .second, own_jv q2, .second, iv p3, iv p4, iv p5, iv (1 : Int32), iv (1 : Int32), iv (0 : Int32), rv b102, rv b111, rv b115, rv b119, .unset] []))
        refine own_st (fun _ k => XS.aload X119.here hx rfl (hb hby at_141) rfl rfl  k) ?_
        show own_Goes p e below s _ _ (T119.setTop (mkF m 143 #[own_jv q0, .second, own_jv q1, .second, own_jv q2, .second, iv p3, iv p4, iv p5, iv (1 : Int32), iv (1 : Int32), iv (0 : Int32), rv b102, rv b111, rv b115, rv b119, .unset] [(.ref b115)]))
        refine own_st (fun _ k => XS.iload X119.here hx rfl (hb hby at_143) rfl  k) ?_
        show own_Goes p e below s _ _ (T119.setTop (mkF m 145 #[own_jv q0, .second, own_jv q1, .second, own_jv q2, .second, iv p3, iv p4, iv p5, iv (1 : Int32), iv (1 : Int32), iv (0 : Int32), rv b102, rv b111, rv b115, rv b119, .unset] [(.int (1 : Int32)), (.ref b115)]))
        refine own_st (fun _ k => XS.aload X119.here hx rfl (hb hby at_145) rfl rfl  k) ?_
        show own_Goes p e below s _ _ (T119.setTop (mkF m 147 #[own_jv q0, .second, own_jv q1, .second, own_jv q2, .second, iv p3, iv p4, iv p5, iv (1 : Int32), iv (1 : Int32), iv (0 : Int32), rv b102, rv b111, rv b115, rv b119, .unset] [(.ref b111), (.int (1 : Int32)), (.ref b115)]))
        refine own_st (fun _ k => XS.iload X119.here hx rfl (hb hby at_147) rfl  k) ?_
        show own_Goes p e below s _ _ (T119.setTop (mkF m 149 #[own_jv q0, .second, own_jv q1, .second, own_jv q2, .second, iv p3, iv p4, iv p5, iv (1 : Int32), iv (1 : Int32), iv (0 : Int32), rv b102, rv b111, rv b115, rv b119, .unset] [(.int (1 : Int32)), (.ref b111), (.int (1 : Int32)), (.ref b115)]))
        have f229 := (((((V114.ext E115).other W116 (own_ne (by omega))).other W117 (own_ne (by omega))).other W118 (own_ne (by omega))).keep K119 nin0)
        refine own_st (fun _ k => own_ldJ X119 hx hZ rfl f229 (j := (1 : Int32)) (by decide) (g := (mkF m 149 #[own_jv q0, .second, own_jv q1, .second, own_jv q2, .second, iv p3, iv p4, iv p5, iv (1 : Int32), iv (1 : Int32), iv (0 : Int32), rv b102, rv b111, rv b115, rv b119, .unset] [(.int (1 : Int32)), (.ref b111), (.int (1 : Int32)), (.ref b115)])) rfl rfl (hb hby at_149) _ k) ?_
        show own_Goes p e below s _ _ (T119.setTop (mkF m 150 #[own_jv q0, .second, own_jv q1, .second, own_jv q2, .second, iv p3, iv p4, iv p5, iv (1 : Int32), iv (1 : Int32), iv (0 : Int32), rv b102, rv b111, rv b115, rv b119, .unset] [(.long q1), (.int (1 : Int32)), (.ref b115)]))
        have f230 := (V118.keep K119 nin0)
        obtain ⟨T231, h231, X231, e231, W231, A231, st231⟩ := own_stJ X119 hx hZ rfl f230 (j := (1 : Int32)) (by decide) (g := (mkF m 150 #[own_jv q0, .second, own_jv q1, .second, own_jv q2, .second, iv p3, iv p4, iv p5, iv (1 : Int32), iv (1 : Int32), iv (0 : Int32), rv b102, rv b111, rv b115, rv b119, .unset] [(.long q1), (.int (1 : Int32)), (.ref b115)])) rfl rfl (hb hby at_150)
        have V231 : own_Arf Z h231 b115 .long 3 (fun k => .long ((fun k => if k = 1 then q1 else (fun k => if k = 2 then q0 else (fun k => if k = 1 then q0 else (fun k => if k = 0 then q0 else (fun _ => (0 : Int64)) k) k) k) k) k)) := A231
        have z231 := W231.size
        have N231 := Fr.snoc X231 N119 (by omega)
        refine own_st st231 ?_
        show own_Goes p e below s _ _ (T231.setTop (mkF m 151 #[own_jv q0, .second, own_jv q1, .second, own_jv q2, .second, iv p3, iv p4, iv p5, iv (1 : Int32), iv (1 : Int32), iv (0 : Int32), rv b102, rv b111, rv b115, rv b119, .unset] []))
        refine own_st (fun _ k => XS.aload X231.here hx rfl (hb hby at_151) rfl rfl  k) ?_
        show own_Goes p e below s _ _ (T231.setTop (mkF m 153 #[own_jv q0, .second, own_jv q1, .second, own_jv q2, .second, iv p3, iv p4, iv p5, iv (1 : Int32), iv (1 : Int32), iv (0 : Int32), rv b102, rv b111, rv b115, rv b119, .unset] [(.ref b102)]))
        refine own_st (fun _ k => XS.iload X231.here hx rfl (hb hby at_153) rfl  k) ?_
        show own_Goes p e below s _ _ (T231.setTop (mkF m 155 #[own_jv q0, .second, own_jv q1, .second, own_jv q2, .second, iv p3, iv p4, iv p5, iv (1 : Int32), iv (1 : Int32), iv (0 : Int32), rv b102, rv b111, rv b115, rv b119, .unset] [(.int (1 : Int32)), (.ref b102)]))
        refine own_st (fun _ k => XS.aload X231.here hx rfl (hb hby at_155) rfl rfl  k) ?_
        show own_Goes p e below s _ _ (T231.setTop (mkF m 157 #[own_jv q0, .second, own_jv q1, .second, own_jv q2, .second, iv p3, iv p4, iv p5, iv (1 : Int32), iv (1 : Int32), iv (0 : Int32), rv b102, rv b111, rv b115, rv b119, .unset] [(.ref b119), (.int (1 : Int32)), (.ref b102)]))
        refine own_st (fun _ k => XS.iload X231.here hx rfl (hb hby at_157) rfl  k) ?_
        show own_Goes p e below s _ _ (T231.setTop (mkF m 159 #[own_jv q0, .second, own_jv q1, .second, own_jv q2, .second, iv p3, iv p4, iv p5, iv (1 : Int32), iv (1 : Int32), iv (0 : Int32), rv b102, rv b111, rv b115, rv b119, .unset] [(.int (1 : Int32)), (.ref b119), (.int (1 : Int32)), (.ref b102)]))
        have f233 := ((f120.keep K119 nin0).other W231 (Or.inl (own_ne (by omega))))
        have f234 := (Fc119.other W231 (Or.inl (own_ne (by omega))))
        have f235 := ((((((((((Vd109.ext E111).other W112 (own_ne (by omega))).other W113 (own_ne (by omega))).other W114 (own_ne (by omega))).ext E115).other W116 (own_ne (by omega))).other W117 (own_ne (by omega))).other W118 (own_ne (by omega))).keep K119 nin0).other W231 (own_ne (by omega)))
        have f236 := (Vc119.other W231 (own_ne (by omega)))
        have f237 := ((f128.keep K119).wr W231)
        obtain ⟨v232, T232, L232, X232, Q232, st232⟩ := own_callV X231 hx hZ (C := "com/example/reach2/reach2/model/CodedColumn") (y := (⟨"com/example/reach2/reach2/model/CodedColumn", "copyTo", "(ILcom/example/reach2/reach2/model/CodedColumn;I)V"⟩ : MethodName)) hown (hw _ (List.mem_of_getElem? (i := 38) rfl)) (hw _ (List.mem_of_getElem? (i := 39) rfl)) (hw _ (List.mem_of_getElem? (i := 41) rfl)) (hw _ (List.mem_of_getElem? (i := 40) rfl)) (hw _ (List.mem_of_getElem? (i := 3) rfl)) (hw _ (List.mem_of_getElem? (i := 42) rfl)) (by decide) (W := 0) (rest := []) (argsL := [(.int (1 : Int32)), (.ref b119), (.int (1 : Int32))]) (a := b102) (rmCT l Z a0 hw [] b102 (1 : Int32) b119 (1 : Int32) ac103 bc119 _ _ h231 n0 (by omega) f233 f234 f235 f236 (by decide) (by decide) (by omega)) (by decide) (by decide) (by decide) (by decide) e231 f237 own_pd5 rfl (g := (mkF m 159 #[own_jv q0, .second, own_jv q1, .second, own_jv q2, .second, iv p3, iv p4, iv p5, iv (1 : Int32), iv (1 : Int32), iv (0 : Int32), rv b102, rv b111, rv b115, rv b119, .unset] [(.int (1 : Int32)), (.ref b119), (.int (1 : Int32)), (.ref b102)])) rfl (by rw [hml]; rfl) rfl (by show 2 * 0 + _ ≤ _; exact Nat.le_of_eq rfl) (hb hby at_159)
        obtain ⟨rfl, N232q, K232, V232⟩ := Q232
        have z232 := K232.1
        have Vt232 : own_Arf Z T232.heap bc119 .byte 3 (fun k => .int ((fun k => if k = 1 then (nar .byte (nar .byte (r107.toInt8.toInt32))) else (fun _ => (0 : Int32)) k) k)) := V232
        have N232 := Fr.app N231 N232q
        refine own_st st232 ?_
        show own_Goes p e below s _ _ (T232.setTop (mkF m 162 #[own_jv q0, .second, own_jv q1, .second, own_jv q2, .second, iv p3, iv p4, iv p5, iv (1 : Int32), iv (1 : Int32), iv (0 : Int32), rv b102, rv b111, rv b115, rv b119, .unset] []))
        refine own_st (fun _ k => XS.aload X232.here hx rfl (hb hby at_162) rfl rfl  k) ?_
        show own_Goes p e below s _ _ (T232.setTop (mkF m 164 #[own_jv q0, .second, own_jv q1, .second, own_jv q2, .second, iv p3, iv p4, iv p5, iv (1 : Int32), iv (1 : Int32), iv (0 : Int32), rv b102, rv b111, rv b115, rv b119, .unset] [(.ref b119)]))
        refine own_st (fun _ k => XS.iconst X232.here hx rfl (hb hby at_164) k) ?_
        show own_Goes p e below s _ _ (T232.setTop (mkF m 165 #[own_jv q0, .second, own_jv q1, .second, own_jv q2, .second, iv p3, iv p4, iv p5, iv (1 : Int32), iv (1 : Int32), iv (0 : Int32), rv b102, rv b111, rv b115, rv b119, .unset] [(.int (0 : Int32)), (.ref b119)]))
        have f239 := (f234.keep K232 (ninS (own_ne (by omega)) nin0))
        have f240 := ((Fv119.other W231 (Or.inl (own_ne (by omega)))).keep K232 (ninS (own_ne (by omega)) nin0))
        have f241 := ((Vv119.other W231 (own_ne (by omega))).keep K232 (ninS (own_ne (by omega)) nin0))
        have f242 := ((A119.wr W231).keep K232)
        obtain ⟨v238, T238, L238, X238, Q238, st238⟩ := own_callV X232 hx hZ (C := "com/example/reach2/reach2/model/CodedColumn") (y := (⟨"com/example/reach2/reach2/model/CodedColumn", "get", "(I)J"⟩ : MethodName)) hown (hw _ (List.mem_of_getElem? (i := 43) rfl)) (hw _ (List.mem_of_getElem? (i := 44) rfl)) (hw _ (List.mem_of_getElem? (i := 46) rfl)) (hw _ (List.mem_of_getElem? (i := 45) rfl)) (hw _ (List.mem_of_getElem? (i := 3) rfl)) (hw _ (List.mem_of_getElem? (i := 47) rfl)) (by decide) (W := 0) (rest := []) (argsL := [(.int (0 : Int32))]) (a := b119) (rmGet l Z a0 hw [] b119 (0 : Int32) _ _ _ _ T232.heap n0 (by omega) f239 f240 Vt232 f241 (by decide)) (by decide) (by decide) (by decide) (by decide) rfl f242 own_pd6 rfl (g := (mkF m 165 #[own_jv q0, .second, own_jv q1, .second, own_jv q2, .second, iv p3, iv p4, iv p5, iv (1 : Int32), iv (1 : Int32), iv (0 : Int32), rv b102, rv b111, rv b115, rv b119, .unset] [(.int (0 : Int32)), (.ref b119)])) rfl (by rw [hml]; rfl) rfl (by show 2 * 0 + _ ≤ _; exact Nat.le_of_eq rfl) (hb hby at_165)
        obtain ⟨g238, rfl, hg238, N238q, e238⟩ := Q238
        obtain rfl : q0 = g238 := (hg238.trans (own_at0 (by omega) ((rf109 _ (by omega)).trans ((rf107 _ (by omega)).trans re104)))).symm
        have N238 := Fr.app N232 N238q
        refine own_st st238 ?_
        show own_Goes p e below s _ _ (T238.setTop (mkF m 168 #[own_jv q0, .second, own_jv q1, .second, own_jv q2, .second, iv p3, iv p4, iv p5, iv (1 : Int32), iv (1 : Int32), iv (0 : Int32), rv b102, rv b111, rv b115, rv b119, .unset] [(.long q0)]))
        refine own_st (fun _ k => XS.aload X238.here hx rfl (hb hby at_168) rfl rfl  k) ?_
        show own_Goes p e below s _ _ (T238.setTop (mkF m 170 #[own_jv q0, .second, own_jv q1, .second, own_jv q2, .second, iv p3, iv p4, iv p5, iv (1 : Int32), iv (1 : Int32), iv (0 : Int32), rv b102, rv b111, rv b115, rv b119, .unset] [(.ref b115), (.long q0)]))
        refine own_st (fun _ k => XS.iconst X238.here hx rfl (hb hby at_170) k) ?_
        show own_Goes p e below s _ _ (T238.setTop (mkF m 171 #[own_jv q0, .second, own_jv q1, .second, own_jv q2, .second, iv p3, iv p4, iv p5, iv (1 : Int32), iv (1 : Int32), iv (0 : Int32), rv b102, rv b111, rv b115, rv b119, .unset] [(.int (0 : Int32)), (.ref b115), (.long q0)]))
        have f243 := (V231.keep K232 (ninS (own_ne (by omega)) nin0))
        refine own_st (fun _ k => own_ldJ X238 hx hZ e238 f243 (j := (0 : Int32)) (by decide) (g := (mkF m 171 #[own_jv q0, .second, own_jv q1, .second, own_jv q2, .second, iv p3, iv p4, iv p5, iv (1 : Int32), iv (1 : Int32), iv (0 : Int32), rv b102, rv b111, rv b115, rv b119, .unset] [(.int (0 : Int32)), (.ref b115), (.long q0)])) rfl rfl (hb hby at_171) _ k) ?_
        show own_Goes p e below s _ _ (T238.setTop (mkF m 172 #[own_jv q0, .second, own_jv q1, .second, own_jv q2, .second, iv p3, iv p4, iv p5, iv (1 : Int32), iv (1 : Int32), iv (0 : Int32), rv b102, rv b111, rv b115, rv b119, .unset] [(.long q0), (.long q0)]))
        refine own_st (fun _ k => XS.lcmp X238.here hx rfl (hb hby at_172) rfl k) ?_
        show own_Goes p e below s _ _ (T238.setTop (mkF m 173 #[own_jv q0, .second, own_jv q1, .second, own_jv q2, .second, iv p3, iv p4, iv p5, iv (1 : Int32), iv (1 : Int32), iv (0 : Int32), rv b102, rv b111, rv b115, rv b119, .unset] [(.int (lcmpW q0 q0))]))
        refine own_st (fun _ k => XS.ifNo X238.here hx rfl (hb hby at_173) rfl ((if0 _ _).trans (teq ((lw_eq _ _).mpr (rfl : q0 = q0))).2) k) ?_
        show own_Goes p e below s _ _ (T238.setTop (mkF m 176 #[own_jv q0, .second, own_jv q1, .second, own_jv q2, .second, iv p3, iv p4, iv p5, iv (1 : Int32), iv (1 : Int32), iv (0 : Int32), rv b102, rv b111, rv b115, rv b119, .unset] []))
        refine own_st (fun _ k => XS.aload X238.here hx rfl (hb hby at_176) rfl rfl  k) ?_
        show own_Goes p e below s _ _ (T238.setTop (mkF m 178 #[own_jv q0, .second, own_jv q1, .second, own_jv q2, .second, iv p3, iv p4, iv p5, iv (1 : Int32), iv (1 : Int32), iv (0 : Int32), rv b102, rv b111, rv b115, rv b119, .unset] [(.ref b119)]))
        refine own_st (fun _ k => XS.iconst X238.here hx rfl (hb hby at_178) k) ?_
        show own_Goes p e below s _ _ (T238.setTop (mkF m 179 #[own_jv q0, .second, own_jv q1, .second, own_jv q2, .second, iv p3, iv p4, iv p5, iv (1 : Int32), iv (1 : Int32), iv (0 : Int32), rv b102, rv b111, rv b115, rv b119, .unset] [(.int (1 : Int32)), (.ref b119)]))
        obtain ⟨v244, T244, L244, X244, Q244, st244⟩ := own_callV X238 hx hZ (C := "com/example/reach2/reach2/model/CodedColumn") (y := (⟨"com/example/reach2/reach2/model/CodedColumn", "get", "(I)J"⟩ : MethodName)) hown (hw _ (List.mem_of_getElem? (i := 43) rfl)) (hw _ (List.mem_of_getElem? (i := 44) rfl)) (hw _ (List.mem_of_getElem? (i := 46) rfl)) (hw _ (List.mem_of_getElem? (i := 45) rfl)) (hw _ (List.mem_of_getElem? (i := 3) rfl)) (hw _ (List.mem_of_getElem? (i := 47) rfl)) (by decide) (W := 0) (rest := []) (argsL := [(.int (1 : Int32))]) (a := b119) (rmGet l Z a0 hw [] b119 (1 : Int32) _ _ _ _ T232.heap n0 (by omega) f239 f240 Vt232 f241 (by decide)) (by decide) (by decide) (by decide) (by decide) e238 f242 own_pd6 rfl (g := (mkF m 179 #[own_jv q0, .second, own_jv q1, .second, own_jv q2, .second, iv p3, iv p4, iv p5, iv (1 : Int32), iv (1 : Int32), iv (0 : Int32), rv b102, rv b111, rv b115, rv b119, .unset] [(.int (1 : Int32)), (.ref b119)])) rfl (by rw [hml]; rfl) rfl (by show 2 * 0 + _ ≤ _; exact Nat.le_of_eq rfl) (hb hby at_179)
        obtain ⟨g244, rfl, hg244, N244q, e244⟩ := Q244
        obtain rfl : q1 = g244 := (hg244.trans (own_at2 (by omega) ((rf109 _ (by omega)).trans re107))).symm
        have N244 := Fr.app N238 N244q
        refine own_st st244 ?_
        show own_Goes p e below s _ _ (T244.setTop (mkF m 182 #[own_jv q0, .second, own_jv q1, .second, own_jv q2, .second, iv p3, iv p4, iv p5, iv (1 : Int32), iv (1 : Int32), iv (0 : Int32), rv b102, rv b111, rv b115, rv b119, .unset] [(.long q1)]))
        refine own_st (fun _ k => XS.aload X244.here hx rfl (hb hby at_182) rfl rfl  k) ?_
        show own_Goes p e below s _ _ (T244.setTop (mkF m 184 #[own_jv q0, .second, own_jv q1, .second, own_jv q2, .second, iv p3, iv p4, iv p5, iv (1 : Int32), iv (1 : Int32), iv (0 : Int32), rv b102, rv b111, rv b115, rv b119, .unset] [(.ref b115), (.long q1)]))
        refine own_st (fun _ k => XS.iconst X244.here hx rfl (hb hby at_184) k) ?_
        show own_Goes p e below s _ _ (T244.setTop (mkF m 185 #[own_jv q0, .second, own_jv q1, .second, own_jv q2, .second, iv p3, iv p4, iv p5, iv (1 : Int32), iv (1 : Int32), iv (0 : Int32), rv b102, rv b111, rv b115, rv b119, .unset] [(.int (1 : Int32)), (.ref b115), (.long q1)]))
        refine own_st (fun _ k => own_ldJ X244 hx hZ e244 f243 (j := (1 : Int32)) (by decide) (g := (mkF m 185 #[own_jv q0, .second, own_jv q1, .second, own_jv q2, .second, iv p3, iv p4, iv p5, iv (1 : Int32), iv (1 : Int32), iv (0 : Int32), rv b102, rv b111, rv b115, rv b119, .unset] [(.int (1 : Int32)), (.ref b115), (.long q1)])) rfl rfl (hb hby at_185) _ k) ?_
        show own_Goes p e below s _ _ (T244.setTop (mkF m 186 #[own_jv q0, .second, own_jv q1, .second, own_jv q2, .second, iv p3, iv p4, iv p5, iv (1 : Int32), iv (1 : Int32), iv (0 : Int32), rv b102, rv b111, rv b115, rv b119, .unset] [(.long q1), (.long q1)]))
        refine own_st (fun _ k => XS.lcmp X244.here hx rfl (hb hby at_186) rfl k) ?_
        show own_Goes p e below s _ _ (T244.setTop (mkF m 187 #[own_jv q0, .second, own_jv q1, .second, own_jv q2, .second, iv p3, iv p4, iv p5, iv (1 : Int32), iv (1 : Int32), iv (0 : Int32), rv b102, rv b111, rv b115, rv b119, .unset] [(.int (lcmpW q1 q1))]))
        refine own_st (fun _ k => XS.ifNo X244.here hx rfl (hb hby at_187) rfl ((if0 _ _).trans (teq ((lw_eq _ _).mpr (rfl : q1 = q1))).2) k) ?_
        show own_Goes p e below s _ _ (T244.setTop (mkF m 190 #[own_jv q0, .second, own_jv q1, .second, own_jv q2, .second, iv p3, iv p4, iv p5, iv (1 : Int32), iv (1 : Int32), iv (0 : Int32), rv b102, rv b111, rv b115, rv b119, .unset] []))
        refine own_st (fun _ k => XS.aload X244.here hx rfl (hb hby at_190) rfl rfl  k) ?_
        show own_Goes p e below s _ _ (T244.setTop (mkF m 192 #[own_jv q0, .second, own_jv q1, .second, own_jv q2, .second, iv p3, iv p4, iv p5, iv (1 : Int32), iv (1 : Int32), iv (0 : Int32), rv b102, rv b111, rv b115, rv b119, .unset] [(.ref b119)]))
        refine own_st (fun _ k => XS.iconst X244.here hx rfl (hb hby at_192) k) ?_
        show own_Goes p e below s _ _ (T244.setTop (mkF m 193 #[own_jv q0, .second, own_jv q1, .second, own_jv q2, .second, iv p3, iv p4, iv p5, iv (1 : Int32), iv (1 : Int32), iv (0 : Int32), rv b102, rv b111, rv b115, rv b119, .unset] [(.int (2 : Int32)), (.ref b119)]))
        obtain ⟨v245, T245, L245, X245, Q245, st245⟩ := own_callV X244 hx hZ (C := "com/example/reach2/reach2/model/CodedColumn") (y := (⟨"com/example/reach2/reach2/model/CodedColumn", "get", "(I)J"⟩ : MethodName)) hown (hw _ (List.mem_of_getElem? (i := 43) rfl)) (hw _ (List.mem_of_getElem? (i := 44) rfl)) (hw _ (List.mem_of_getElem? (i := 46) rfl)) (hw _ (List.mem_of_getElem? (i := 45) rfl)) (hw _ (List.mem_of_getElem? (i := 3) rfl)) (hw _ (List.mem_of_getElem? (i := 47) rfl)) (by decide) (W := 0) (rest := []) (argsL := [(.int (2 : Int32))]) (a := b119) (rmGet l Z a0 hw [] b119 (2 : Int32) _ _ _ _ T232.heap n0 (by omega) f239 f240 Vt232 f241 (by decide)) (by decide) (by decide) (by decide) (by decide) e244 f242 own_pd6 rfl (g := (mkF m 193 #[own_jv q0, .second, own_jv q1, .second, own_jv q2, .second, iv p3, iv p4, iv p5, iv (1 : Int32), iv (1 : Int32), iv (0 : Int32), rv b102, rv b111, rv b115, rv b119, .unset] [(.int (2 : Int32)), (.ref b119)])) rfl (by rw [hml]; rfl) rfl (by show 2 * 0 + _ ≤ _; exact Nat.le_of_eq rfl) (hb hby at_193)
        obtain ⟨g245, rfl, hg245, N245q, e245⟩ := Q245
        obtain rfl : q0 = g245 := (hg245.trans (own_at0 (by omega) ((rf109 _ (by omega)).trans ((rf107 _ (by omega)).trans re104)))).symm
        have N245 := Fr.app N244 N245q
        refine own_st st245 ?_
        show own_Goes p e below s _ _ (T245.setTop (mkF m 196 #[own_jv q0, .second, own_jv q1, .second, own_jv q2, .second, iv p3, iv p4, iv p5, iv (1 : Int32), iv (1 : Int32), iv (0 : Int32), rv b102, rv b111, rv b115, rv b119, .unset] [(.long q0)]))
        refine own_st (fun _ k => XS.aload X245.here hx rfl (hb hby at_196) rfl rfl  k) ?_
        show own_Goes p e below s _ _ (T245.setTop (mkF m 198 #[own_jv q0, .second, own_jv q1, .second, own_jv q2, .second, iv p3, iv p4, iv p5, iv (1 : Int32), iv (1 : Int32), iv (0 : Int32), rv b102, rv b111, rv b115, rv b119, .unset] [(.ref b115), (.long q0)]))
        refine own_st (fun _ k => XS.iconst X245.here hx rfl (hb hby at_198) k) ?_
        show own_Goes p e below s _ _ (T245.setTop (mkF m 199 #[own_jv q0, .second, own_jv q1, .second, own_jv q2, .second, iv p3, iv p4, iv p5, iv (1 : Int32), iv (1 : Int32), iv (0 : Int32), rv b102, rv b111, rv b115, rv b119, .unset] [(.int (2 : Int32)), (.ref b115), (.long q0)]))
        refine own_st (fun _ k => own_ldJ X245 hx hZ e245 f243 (j := (2 : Int32)) (by decide) (g := (mkF m 199 #[own_jv q0, .second, own_jv q1, .second, own_jv q2, .second, iv p3, iv p4, iv p5, iv (1 : Int32), iv (1 : Int32), iv (0 : Int32), rv b102, rv b111, rv b115, rv b119, .unset] [(.int (2 : Int32)), (.ref b115), (.long q0)])) rfl rfl (hb hby at_199) _ k) ?_
        show own_Goes p e below s _ _ (T245.setTop (mkF m 200 #[own_jv q0, .second, own_jv q1, .second, own_jv q2, .second, iv p3, iv p4, iv p5, iv (1 : Int32), iv (1 : Int32), iv (0 : Int32), rv b102, rv b111, rv b115, rv b119, .unset] [(.long q0), (.long q0)]))
        refine own_st (fun _ k => XS.lcmp X245.here hx rfl (hb hby at_200) rfl k) ?_
        show own_Goes p e below s _ _ (T245.setTop (mkF m 201 #[own_jv q0, .second, own_jv q1, .second, own_jv q2, .second, iv p3, iv p4, iv p5, iv (1 : Int32), iv (1 : Int32), iv (0 : Int32), rv b102, rv b111, rv b115, rv b119, .unset] [(.int (lcmpW q0 q0))]))
        refine own_st (fun _ k => XS.ifNo X245.here hx rfl (hb hby at_201) rfl ((if0 _ _).trans (teq ((lw_eq _ _).mpr (rfl : q0 = q0))).2) k) ?_
        show own_Goes p e below s _ _ (T245.setTop (mkF m 204 #[own_jv q0, .second, own_jv q1, .second, own_jv q2, .second, iv p3, iv p4, iv p5, iv (1 : Int32), iv (1 : Int32), iv (0 : Int32), rv b102, rv b111, rv b115, rv b119, .unset] []))
        refine own_st (fun _ k => XS.iconst X245.here hx rfl (hb hby at_204) k) ?_
        show own_Goes p e below s _ _ (T245.setTop (mkF m 205 #[own_jv q0, .second, own_jv q1, .second, own_jv q2, .second, iv p3, iv p4, iv p5, iv (1 : Int32), iv (1 : Int32), iv (0 : Int32), rv b102, rv b111, rv b115, rv b119, .unset] [(.int (1 : Int32))]))
        refine own_st (fun _ k => XS.goto X245.here hx rfl (pc0 := 205) (pc' := 209) rfl (hb hby at_205) (by decide) (by decide) k) ?_
        show own_Goes p e below s _ _ (T245.setTop (mkF m 209 #[own_jv q0, .second, own_jv q1, .second, own_jv q2, .second, iv p3, iv p4, iv p5, iv (1 : Int32), iv (1 : Int32), iv (0 : Int32), rv b102, rv b111, rv b115, rv b119, .unset] [(.int (1 : Int32))]))
        refine own_st (fun _ k => XS.istore X245.here hx rfl (hb hby at_209) rfl (l' := #[own_jv q0, .second, own_jv q1, .second, own_jv q2, .second, iv p3, iv p4, iv p5, iv (1 : Int32), iv (1 : Int32), iv (0 : Int32), rv b102, rv b111, rv b115, rv b119, iv (1 : Int32)]) rfl k) ?_
        show own_Goes p e below s _ _ (T245.setTop (mkF m 211 #[own_jv q0, .second, own_jv q1, .second, own_jv q2, .second, iv p3, iv p4, iv p5, iv (1 : Int32), iv (1 : Int32), iv (0 : Int32), rv b102, rv b111, rv b115, rv b119, iv (1 : Int32)] []))
        refine own_st (fun _ k => XS.iload X245.here hx rfl (hb hby at_211) rfl  k) ?_
        show own_Goes p e below s _ _ (T245.setTop (mkF m 213 #[own_jv q0, .second, own_jv q1, .second, own_jv q2, .second, iv p3, iv p4, iv p5, iv (1 : Int32), iv (1 : Int32), iv (0 : Int32), rv b102, rv b111, rv b115, rv b119, iv (1 : Int32)] [(.int (0 : Int32))]))
        refine own_st (fun _ k => XS.ifNo X245.here hx rfl (hb hby at_213) rfl ((if0 _ _).trans (teq (by decide : (0 : Int32) = (0 : Int32))).2) k) ?_
        show own_Goes p e below s _ _ (T245.setTop (mkF m 216 #[own_jv q0, .second, own_jv q1, .second, own_jv q2, .second, iv p3, iv p4, iv p5, iv (1 : Int32), iv (1 : Int32), iv (0 : Int32), rv b102, rv b111, rv b115, rv b119, iv (1 : Int32)] []))
        refine own_st (fun _ k => XS.iload X245.here hx rfl (hb hby at_216) rfl  k) ?_
        show own_Goes p e below s _ _ (T245.setTop (mkF m 218 #[own_jv q0, .second, own_jv q1, .second, own_jv q2, .second, iv p3, iv p4, iv p5, iv (1 : Int32), iv (1 : Int32), iv (0 : Int32), rv b102, rv b111, rv b115, rv b119, iv (1 : Int32)] [(.int (1 : Int32))]))
        refine own_st (fun _ k => XS.ifNo X245.here hx rfl (hb hby at_218) rfl ((if0 _ _).trans (feq (by decide : ¬ ((1 : Int32) = (0 : Int32)))).1) k) ?_
        show own_Goes p e below s _ _ (T245.setTop (mkF m 221 #[own_jv q0, .second, own_jv q1, .second, own_jv q2, .second, iv p3, iv p4, iv p5, iv (1 : Int32), iv (1 : Int32), iv (0 : Int32), rv b102, rv b111, rv b115, rv b119, iv (1 : Int32)] []))
        refine own_st (fun _ k => XS.aload X245.here hx rfl (hb hby at_221) rfl rfl  k) ?_
        show own_Goes p e below s _ _ (T245.setTop (mkF m 223 #[own_jv q0, .second, own_jv q1, .second, own_jv q2, .second, iv p3, iv p4, iv p5, iv (1 : Int32), iv (1 : Int32), iv (0 : Int32), rv b102, rv b111, rv b115, rv b119, iv (1 : Int32)] [(.ref b102)]))
        refine own_st (fun _ k => XS.iconst X245.here hx rfl (hb hby at_223) k) ?_
        show own_Goes p e below s _ _ (T245.setTop (mkF m 224 #[own_jv q0, .second, own_jv q1, .second, own_jv q2, .second, iv p3, iv p4, iv p5, iv (1 : Int32), iv (1 : Int32), iv (0 : Int32), rv b102, rv b111, rv b115, rv b119, iv (1 : Int32)] [(.int (0 : Int32)), (.ref b102)]))
        have f247 := (f233.keep K232 (ninS (own_ne (by omega)) nin0))
        have f248 := (((f121.keep K119 nin0).other W231 (Or.inl (own_ne (by omega)))).keep K232 (ninS (own_ne (by omega)) nin0))
        have f249 := (f235.keep K232 (ninS (own_ne (by omega)) nin0))
        have f250 := (((f124.keep K119 nin0).other W231 (own_ne (by omega))).keep K232 (ninS (own_ne (by omega)) nin0))
        have f251 := (f237.keep K232)
        obtain ⟨v246, T246, L246, X246, Q246, st246⟩ := own_callV X245 hx hZ (C := "com/example/reach2/reach2/model/CodedColumn") (y := (⟨"com/example/reach2/reach2/model/CodedColumn", "get", "(I)J"⟩ : MethodName)) hown (hw _ (List.mem_of_getElem? (i := 43) rfl)) (hw _ (List.mem_of_getElem? (i := 44) rfl)) (hw _ (List.mem_of_getElem? (i := 46) rfl)) (hw _ (List.mem_of_getElem? (i := 45) rfl)) (hw _ (List.mem_of_getElem? (i := 3) rfl)) (hw _ (List.mem_of_getElem? (i := 47) rfl)) (by decide) (W := 0) (rest := []) (argsL := [(.int (0 : Int32))]) (a := b102) (rmGet l Z a0 hw [] b102 (0 : Int32) _ _ _ _ T232.heap n0 (by omega) f247 f248 f249 f250 (by decide)) (by decide) (by decide) (by decide) (by decide) e245 f251 own_pd6 rfl (g := (mkF m 224 #[own_jv q0, .second, own_jv q1, .second, own_jv q2, .second, iv p3, iv p4, iv p5, iv (1 : Int32), iv (1 : Int32), iv (0 : Int32), rv b102, rv b111, rv b115, rv b119, iv (1 : Int32)] [(.int (0 : Int32)), (.ref b102)])) rfl (by rw [hml]; rfl) rfl (by show 2 * 0 + _ ≤ _; exact Nat.le_of_eq rfl) (hb hby at_224)
        obtain ⟨g246, rfl, hg246, N246q, e246⟩ := Q246
        obtain rfl : q0 = g246 := (hg246.trans (own_at (by omega) ((rf109 _ (by omega)).trans ((rf107 _ (by omega)).trans re104)))).symm
        have N246 := Fr.app N245 N246q
        refine own_st st246 ?_
        show own_Goes p e below s _ _ (T246.setTop (mkF m 227 #[own_jv q0, .second, own_jv q1, .second, own_jv q2, .second, iv p3, iv p4, iv p5, iv (1 : Int32), iv (1 : Int32), iv (0 : Int32), rv b102, rv b111, rv b115, rv b119, iv (1 : Int32)] [(.long q0)]))
        refine own_st (fun _ k => XS.lloadN X246.here hx rfl (hb hby at_227) rfl  k) ?_
        show own_Goes p e below s _ _ (T246.setTop (mkF m 228 #[own_jv q0, .second, own_jv q1, .second, own_jv q2, .second, iv p3, iv p4, iv p5, iv (1 : Int32), iv (1 : Int32), iv (0 : Int32), rv b102, rv b111, rv b115, rv b119, iv (1 : Int32)] [(.long q0), (.long q0)]))
        refine own_st (fun _ k => XS.lcmp X246.here hx rfl (hb hby at_228) rfl k) ?_
        show own_Goes p e below s _ _ (T246.setTop (mkF m 229 #[own_jv q0, .second, own_jv q1, .second, own_jv q2, .second, iv p3, iv p4, iv p5, iv (1 : Int32), iv (1 : Int32), iv (0 : Int32), rv b102, rv b111, rv b115, rv b119, iv (1 : Int32)] [(.int (lcmpW q0 q0))]))
        refine own_st (fun _ k => XS.ifNo X246.here hx rfl (hb hby at_229) rfl ((if0 _ _).trans (teq ((lw_eq _ _).mpr (rfl : q0 = q0))).2) k) ?_
        show own_Goes p e below s _ _ (T246.setTop (mkF m 232 #[own_jv q0, .second, own_jv q1, .second, own_jv q2, .second, iv p3, iv p4, iv p5, iv (1 : Int32), iv (1 : Int32), iv (0 : Int32), rv b102, rv b111, rv b115, rv b119, iv (1 : Int32)] []))
        refine own_st (fun _ k => XS.aload X246.here hx rfl (hb hby at_232) rfl rfl  k) ?_
        show own_Goes p e below s _ _ (T246.setTop (mkF m 234 #[own_jv q0, .second, own_jv q1, .second, own_jv q2, .second, iv p3, iv p4, iv p5, iv (1 : Int32), iv (1 : Int32), iv (0 : Int32), rv b102, rv b111, rv b115, rv b119, iv (1 : Int32)] [(.ref b102)]))
        refine own_st (fun _ k => XS.iconst X246.here hx rfl (hb hby at_234) k) ?_
        show own_Goes p e below s _ _ (T246.setTop (mkF m 235 #[own_jv q0, .second, own_jv q1, .second, own_jv q2, .second, iv p3, iv p4, iv p5, iv (1 : Int32), iv (1 : Int32), iv (0 : Int32), rv b102, rv b111, rv b115, rv b119, iv (1 : Int32)] [(.int (1 : Int32)), (.ref b102)]))
        obtain ⟨v252, T252, L252, X252, Q252, st252⟩ := own_callV X246 hx hZ (C := "com/example/reach2/reach2/model/CodedColumn") (y := (⟨"com/example/reach2/reach2/model/CodedColumn", "get", "(I)J"⟩ : MethodName)) hown (hw _ (List.mem_of_getElem? (i := 43) rfl)) (hw _ (List.mem_of_getElem? (i := 44) rfl)) (hw _ (List.mem_of_getElem? (i := 46) rfl)) (hw _ (List.mem_of_getElem? (i := 45) rfl)) (hw _ (List.mem_of_getElem? (i := 3) rfl)) (hw _ (List.mem_of_getElem? (i := 47) rfl)) (by decide) (W := 0) (rest := []) (argsL := [(.int (1 : Int32))]) (a := b102) (rmGet l Z a0 hw [] b102 (1 : Int32) _ _ _ _ T232.heap n0 (by omega) f247 f248 f249 f250 (by decide)) (by decide) (by decide) (by decide) (by decide) e246 f251 own_pd6 rfl (g := (mkF m 235 #[own_jv q0, .second, own_jv q1, .second, own_jv q2, .second, iv p3, iv p4, iv p5, iv (1 : Int32), iv (1 : Int32), iv (0 : Int32), rv b102, rv b111, rv b115, rv b119, iv (1 : Int32)] [(.int (1 : Int32)), (.ref b102)])) rfl (by rw [hml]; rfl) rfl (by show 2 * 0 + _ ≤ _; exact Nat.le_of_eq rfl) (hb hby at_235)
        obtain ⟨g252, rfl, hg252, N252q, e252⟩ := Q252
        obtain rfl : q1 = g252 := (hg252.trans (own_at (by omega) ((rf109 _ (by omega)).trans re107))).symm
        have N252 := Fr.app N246 N252q
        refine own_st st252 ?_
        show own_Goes p e below s _ _ (T252.setTop (mkF m 238 #[own_jv q0, .second, own_jv q1, .second, own_jv q2, .second, iv p3, iv p4, iv p5, iv (1 : Int32), iv (1 : Int32), iv (0 : Int32), rv b102, rv b111, rv b115, rv b119, iv (1 : Int32)] [(.long q1)]))
        refine own_st (fun _ k => XS.lloadN X252.here hx rfl (hb hby at_238) rfl  k) ?_
        show own_Goes p e below s _ _ (T252.setTop (mkF m 239 #[own_jv q0, .second, own_jv q1, .second, own_jv q2, .second, iv p3, iv p4, iv p5, iv (1 : Int32), iv (1 : Int32), iv (0 : Int32), rv b102, rv b111, rv b115, rv b119, iv (1 : Int32)] [(.long q1), (.long q1)]))
        refine own_st (fun _ k => XS.lcmp X252.here hx rfl (hb hby at_239) rfl k) ?_
        show own_Goes p e below s _ _ (T252.setTop (mkF m 240 #[own_jv q0, .second, own_jv q1, .second, own_jv q2, .second, iv p3, iv p4, iv p5, iv (1 : Int32), iv (1 : Int32), iv (0 : Int32), rv b102, rv b111, rv b115, rv b119, iv (1 : Int32)] [(.int (lcmpW q1 q1))]))
        refine own_st (fun _ k => XS.ifNo X252.here hx rfl (hb hby at_240) rfl ((if0 _ _).trans (teq ((lw_eq _ _).mpr (rfl : q1 = q1))).2) k) ?_
        show own_Goes p e below s _ _ (T252.setTop (mkF m 243 #[own_jv q0, .second, own_jv q1, .second, own_jv q2, .second, iv p3, iv p4, iv p5, iv (1 : Int32), iv (1 : Int32), iv (0 : Int32), rv b102, rv b111, rv b115, rv b119, iv (1 : Int32)] []))
        refine own_st (fun _ k => XS.aload X252.here hx rfl (hb hby at_243) rfl rfl  k) ?_
        show own_Goes p e below s _ _ (T252.setTop (mkF m 245 #[own_jv q0, .second, own_jv q1, .second, own_jv q2, .second, iv p3, iv p4, iv p5, iv (1 : Int32), iv (1 : Int32), iv (0 : Int32), rv b102, rv b111, rv b115, rv b119, iv (1 : Int32)] [(.ref b102)]))
        refine own_st (fun _ k => XS.iconst X252.here hx rfl (hb hby at_245) k) ?_
        show own_Goes p e below s _ _ (T252.setTop (mkF m 246 #[own_jv q0, .second, own_jv q1, .second, own_jv q2, .second, iv p3, iv p4, iv p5, iv (1 : Int32), iv (1 : Int32), iv (0 : Int32), rv b102, rv b111, rv b115, rv b119, iv (1 : Int32)] [(.int (2 : Int32)), (.ref b102)]))
        obtain ⟨v253, T253, L253, X253, Q253, st253⟩ := own_callV X252 hx hZ (C := "com/example/reach2/reach2/model/CodedColumn") (y := (⟨"com/example/reach2/reach2/model/CodedColumn", "get", "(I)J"⟩ : MethodName)) hown (hw _ (List.mem_of_getElem? (i := 43) rfl)) (hw _ (List.mem_of_getElem? (i := 44) rfl)) (hw _ (List.mem_of_getElem? (i := 46) rfl)) (hw _ (List.mem_of_getElem? (i := 45) rfl)) (hw _ (List.mem_of_getElem? (i := 3) rfl)) (hw _ (List.mem_of_getElem? (i := 47) rfl)) (by decide) (W := 0) (rest := []) (argsL := [(.int (2 : Int32))]) (a := b102) (rmGet l Z a0 hw [] b102 (2 : Int32) _ _ _ _ T232.heap n0 (by omega) f247 f248 f249 f250 (by decide)) (by decide) (by decide) (by decide) (by decide) e252 f251 own_pd6 rfl (g := (mkF m 246 #[own_jv q0, .second, own_jv q1, .second, own_jv q2, .second, iv p3, iv p4, iv p5, iv (1 : Int32), iv (1 : Int32), iv (0 : Int32), rv b102, rv b111, rv b115, rv b119, iv (1 : Int32)] [(.int (2 : Int32)), (.ref b102)])) rfl (by rw [hml]; rfl) rfl (by show 2 * 0 + _ ≤ _; exact Nat.le_of_eq rfl) (hb hby at_246)
        obtain ⟨g253, rfl, hg253, N253q, e253⟩ := Q253
        obtain rfl : q2 = g253 := (hg253.trans (own_at (by omega) re109)).symm
        have N253 := Fr.app N252 N253q
        refine own_st st253 ?_
        show own_Goes p e below s _ _ (T253.setTop (mkF m 249 #[own_jv q0, .second, own_jv q1, .second, own_jv q2, .second, iv p3, iv p4, iv p5, iv (1 : Int32), iv (1 : Int32), iv (0 : Int32), rv b102, rv b111, rv b115, rv b119, iv (1 : Int32)] [(.long q2)]))
        refine own_st (fun _ k => XS.lload X253.here hx rfl (hb hby at_249) rfl  k) ?_
        show own_Goes p e below s _ _ (T253.setTop (mkF m 251 #[own_jv q0, .second, own_jv q1, .second, own_jv q2, .second, iv p3, iv p4, iv p5, iv (1 : Int32), iv (1 : Int32), iv (0 : Int32), rv b102, rv b111, rv b115, rv b119, iv (1 : Int32)] [(.long q2), (.long q2)]))
        refine own_st (fun _ k => XS.lcmp X253.here hx rfl (hb hby at_251) rfl k) ?_
        show own_Goes p e below s _ _ (T253.setTop (mkF m 252 #[own_jv q0, .second, own_jv q1, .second, own_jv q2, .second, iv p3, iv p4, iv p5, iv (1 : Int32), iv (1 : Int32), iv (0 : Int32), rv b102, rv b111, rv b115, rv b119, iv (1 : Int32)] [(.int (lcmpW q2 q2))]))
        refine own_st (fun _ k => XS.ifNo X253.here hx rfl (hb hby at_252) rfl ((if0 _ _).trans (teq ((lw_eq _ _).mpr (rfl : q2 = q2))).2) k) ?_
        show own_Goes p e below s _ _ (T253.setTop (mkF m 255 #[own_jv q0, .second, own_jv q1, .second, own_jv q2, .second, iv p3, iv p4, iv p5, iv (1 : Int32), iv (1 : Int32), iv (0 : Int32), rv b102, rv b111, rv b115, rv b119, iv (1 : Int32)] []))
        refine own_st (fun _ k => XS.iconst X253.here hx rfl (hb hby at_255) k) ?_
        show own_Goes p e below s _ _ (T253.setTop (mkF m 256 #[own_jv q0, .second, own_jv q1, .second, own_jv q2, .second, iv p3, iv p4, iv p5, iv (1 : Int32), iv (1 : Int32), iv (0 : Int32), rv b102, rv b111, rv b115, rv b119, iv (1 : Int32)] [(.int (1 : Int32))]))
        refine own_st (fun _ k => XS.goto X253.here hx rfl (pc0 := 256) (pc' := 260) rfl (hb hby at_256) (by decide) (by decide) k) ?_
        show own_Goes p e below s _ _ (T253.setTop (mkF m 260 #[own_jv q0, .second, own_jv q1, .second, own_jv q2, .second, iv p3, iv p4, iv p5, iv (1 : Int32), iv (1 : Int32), iv (0 : Int32), rv b102, rv b111, rv b115, rv b119, iv (1 : Int32)] [(.int (1 : Int32))]))
        refine own_st (fun _ k => XS.istore X253.here hx rfl (hb hby at_260) rfl (l' := #[own_jv q0, .second, own_jv q1, .second, own_jv q2, .second, iv p3, iv p4, iv p5, iv (1 : Int32), iv (1 : Int32), iv (0 : Int32), rv b102, rv b111, rv b115, rv b119, iv (1 : Int32)]) rfl k) ?_
        show own_Goes p e below s _ _ (T253.setTop (mkF m 262 #[own_jv q0, .second, own_jv q1, .second, own_jv q2, .second, iv p3, iv p4, iv p5, iv (1 : Int32), iv (1 : Int32), iv (0 : Int32), rv b102, rv b111, rv b115, rv b119, iv (1 : Int32)] []))
        refine own_st (fun _ k => XS.iload X253.here hx rfl (hb hby at_262) rfl  k) ?_
        show own_Goes p e below s _ _ (T253.setTop (mkF m 264 #[own_jv q0, .second, own_jv q1, .second, own_jv q2, .second, iv p3, iv p4, iv p5, iv (1 : Int32), iv (1 : Int32), iv (0 : Int32), rv b102, rv b111, rv b115, rv b119, iv (1 : Int32)] [(.int (1 : Int32))]))
        exact own_retN X253 hx hlk (1 : Int32) hret (Or.inl rfl) rfl (hb hby at_264) (by decide) (by decide) ⟨rfl, N253⟩
      · show own_Goes p e below s _ _ (T119.setTop (mkF m 141 #[own_jv q0, .second, own_jv q1, .second, own_jv q2, .second, iv p3, iv p4, iv p5, iv (1 : Int32), iv (2 : Int32), iv (0 : Int32), rv b102, rv b111, rv b115, rv b119, .unset] []))
        refine own_st (fun _ k => XS.aload X119.here hx rfl (hb hby at_141) rfl rfl  k) ?_
        show own_Goes p e below s _ _ (T119.setTop (mkF m 143 #[own_jv q0, .second, own_jv q1, .second, own_jv q2, .second, iv p3, iv p4, iv p5, iv (1 : Int32), iv (2 : Int32), iv (0 : Int32), rv b102, rv b111, rv b115, rv b119, .unset] [(.ref b115)]))
        refine own_st (fun _ k => XS.iload X119.here hx rfl (hb hby at_143) rfl  k) ?_
        show own_Goes p e below s _ _ (T119.setTop (mkF m 145 #[own_jv q0, .second, own_jv q1, .second, own_jv q2, .second, iv p3, iv p4, iv p5, iv (1 : Int32), iv (2 : Int32), iv (0 : Int32), rv b102, rv b111, rv b115, rv b119, .unset] [(.int (2 : Int32)), (.ref b115)]))
        refine own_st (fun _ k => XS.aload X119.here hx rfl (hb hby at_145) rfl rfl  k) ?_
        show own_Goes p e below s _ _ (T119.setTop (mkF m 147 #[own_jv q0, .second, own_jv q1, .second, own_jv q2, .second, iv p3, iv p4, iv p5, iv (1 : Int32), iv (2 : Int32), iv (0 : Int32), rv b102, rv b111, rv b115, rv b119, .unset] [(.ref b111), (.int (2 : Int32)), (.ref b115)]))
        refine own_st (fun _ k => XS.iload X119.here hx rfl (hb hby at_147) rfl  k) ?_
        show own_Goes p e below s _ _ (T119.setTop (mkF m 149 #[own_jv q0, .second, own_jv q1, .second, own_jv q2, .second, iv p3, iv p4, iv p5, iv (1 : Int32), iv (2 : Int32), iv (0 : Int32), rv b102, rv b111, rv b115, rv b119, .unset] [(.int (1 : Int32)), (.ref b111), (.int (2 : Int32)), (.ref b115)]))
        have f254 := (((((V114.ext E115).other W116 (own_ne (by omega))).other W117 (own_ne (by omega))).other W118 (own_ne (by omega))).keep K119 nin0)
        refine own_st (fun _ k => own_ldJ X119 hx hZ rfl f254 (j := (1 : Int32)) (by decide) (g := (mkF m 149 #[own_jv q0, .second, own_jv q1, .second, own_jv q2, .second, iv p3, iv p4, iv p5, iv (1 : Int32), iv (2 : Int32), iv (0 : Int32), rv b102, rv b111, rv b115, rv b119, .unset] [(.int (1 : Int32)), (.ref b111), (.int (2 : Int32)), (.ref b115)])) rfl rfl (hb hby at_149) _ k) ?_
        show own_Goes p e below s _ _ (T119.setTop (mkF m 150 #[own_jv q0, .second, own_jv q1, .second, own_jv q2, .second, iv p3, iv p4, iv p5, iv (1 : Int32), iv (2 : Int32), iv (0 : Int32), rv b102, rv b111, rv b115, rv b119, .unset] [(.long q1), (.int (2 : Int32)), (.ref b115)]))
        have f255 := (V118.keep K119 nin0)
        obtain ⟨T256, h256, X256, e256, W256, A256, st256⟩ := own_stJ X119 hx hZ rfl f255 (j := (2 : Int32)) (by decide) (g := (mkF m 150 #[own_jv q0, .second, own_jv q1, .second, own_jv q2, .second, iv p3, iv p4, iv p5, iv (1 : Int32), iv (2 : Int32), iv (0 : Int32), rv b102, rv b111, rv b115, rv b119, .unset] [(.long q1), (.int (2 : Int32)), (.ref b115)])) rfl rfl (hb hby at_150)
        have V256 : own_Arf Z h256 b115 .long 3 (fun k => .long ((fun k => if k = 2 then q1 else (fun k => if k = 2 then q0 else (fun k => if k = 1 then q0 else (fun k => if k = 0 then q0 else (fun _ => (0 : Int64)) k) k) k) k) k)) := A256
        have z256 := W256.size
        have N256 := Fr.snoc X256 N119 (by omega)
        refine own_st st256 ?_
        show own_Goes p e below s _ _ (T256.setTop (mkF m 151 #[own_jv q0, .second, own_jv q1, .second, own_jv q2, .second, iv p3, iv p4, iv p5, iv (1 : Int32), iv (2 : Int32), iv (0 : Int32), rv b102, rv b111, rv b115, rv b119, .unset] []))
        refine own_st (fun _ k => XS.aload X256.here hx rfl (hb hby at_151) rfl rfl  k) ?_
        show own_Goes p e below s _ _ (T256.setTop (mkF m 153 #[own_jv q0, .second, own_jv q1, .second, own_jv q2, .second, iv p3, iv p4, iv p5, iv (1 : Int32), iv (2 : Int32), iv (0 : Int32), rv b102, rv b111, rv b115, rv b119, .unset] [(.ref b102)]))
        refine own_st (fun _ k => XS.iload X256.here hx rfl (hb hby at_153) rfl  k) ?_
        show own_Goes p e below s _ _ (T256.setTop (mkF m 155 #[own_jv q0, .second, own_jv q1, .second, own_jv q2, .second, iv p3, iv p4, iv p5, iv (1 : Int32), iv (2 : Int32), iv (0 : Int32), rv b102, rv b111, rv b115, rv b119, .unset] [(.int (1 : Int32)), (.ref b102)]))
        refine own_st (fun _ k => XS.aload X256.here hx rfl (hb hby at_155) rfl rfl  k) ?_
        show own_Goes p e below s _ _ (T256.setTop (mkF m 157 #[own_jv q0, .second, own_jv q1, .second, own_jv q2, .second, iv p3, iv p4, iv p5, iv (1 : Int32), iv (2 : Int32), iv (0 : Int32), rv b102, rv b111, rv b115, rv b119, .unset] [(.ref b119), (.int (1 : Int32)), (.ref b102)]))
        refine own_st (fun _ k => XS.iload X256.here hx rfl (hb hby at_157) rfl  k) ?_
        show own_Goes p e below s _ _ (T256.setTop (mkF m 159 #[own_jv q0, .second, own_jv q1, .second, own_jv q2, .second, iv p3, iv p4, iv p5, iv (1 : Int32), iv (2 : Int32), iv (0 : Int32), rv b102, rv b111, rv b115, rv b119, .unset] [(.int (2 : Int32)), (.ref b119), (.int (1 : Int32)), (.ref b102)]))
        have f258 := ((f120.keep K119 nin0).other W256 (Or.inl (own_ne (by omega))))
        have f259 := (Fc119.other W256 (Or.inl (own_ne (by omega))))
        have f260 := ((((((((((Vd109.ext E111).other W112 (own_ne (by omega))).other W113 (own_ne (by omega))).other W114 (own_ne (by omega))).ext E115).other W116 (own_ne (by omega))).other W117 (own_ne (by omega))).other W118 (own_ne (by omega))).keep K119 nin0).other W256 (own_ne (by omega)))
        have f261 := (Vc119.other W256 (own_ne (by omega)))
        have f262 := ((f128.keep K119).wr W256)
        obtain ⟨v257, T257, L257, X257, Q257, st257⟩ := own_callV X256 hx hZ (C := "com/example/reach2/reach2/model/CodedColumn") (y := (⟨"com/example/reach2/reach2/model/CodedColumn", "copyTo", "(ILcom/example/reach2/reach2/model/CodedColumn;I)V"⟩ : MethodName)) hown (hw _ (List.mem_of_getElem? (i := 38) rfl)) (hw _ (List.mem_of_getElem? (i := 39) rfl)) (hw _ (List.mem_of_getElem? (i := 41) rfl)) (hw _ (List.mem_of_getElem? (i := 40) rfl)) (hw _ (List.mem_of_getElem? (i := 3) rfl)) (hw _ (List.mem_of_getElem? (i := 42) rfl)) (by decide) (W := 0) (rest := []) (argsL := [(.int (1 : Int32)), (.ref b119), (.int (2 : Int32))]) (a := b102) (rmCT l Z a0 hw [] b102 (1 : Int32) b119 (2 : Int32) ac103 bc119 _ _ h256 n0 (by omega) f258 f259 f260 f261 (by decide) (by decide) (by omega)) (by decide) (by decide) (by decide) (by decide) e256 f262 own_pd5 rfl (g := (mkF m 159 #[own_jv q0, .second, own_jv q1, .second, own_jv q2, .second, iv p3, iv p4, iv p5, iv (1 : Int32), iv (2 : Int32), iv (0 : Int32), rv b102, rv b111, rv b115, rv b119, .unset] [(.int (2 : Int32)), (.ref b119), (.int (1 : Int32)), (.ref b102)])) rfl (by rw [hml]; rfl) rfl (by show 2 * 0 + _ ≤ _; exact Nat.le_of_eq rfl) (hb hby at_159)
        obtain ⟨rfl, N257q, K257, V257⟩ := Q257
        have z257 := K257.1
        have Vt257 : own_Arf Z T257.heap bc119 .byte 3 (fun k => .int ((fun k => if k = 2 then (nar .byte (nar .byte (r107.toInt8.toInt32))) else (fun _ => (0 : Int32)) k) k)) := V257
        have N257 := Fr.app N256 N257q
        refine own_st st257 ?_
        show own_Goes p e below s _ _ (T257.setTop (mkF m 162 #[own_jv q0, .second, own_jv q1, .second, own_jv q2, .second, iv p3, iv p4, iv p5, iv (1 : Int32), iv (2 : Int32), iv (0 : Int32), rv b102, rv b111, rv b115, rv b119, .unset] []))
        refine own_st (fun _ k => XS.aload X257.here hx rfl (hb hby at_162) rfl rfl  k) ?_
        show own_Goes p e below s _ _ (T257.setTop (mkF m 164 #[own_jv q0, .second, own_jv q1, .second, own_jv q2, .second, iv p3, iv p4, iv p5, iv (1 : Int32), iv (2 : Int32), iv (0 : Int32), rv b102, rv b111, rv b115, rv b119, .unset] [(.ref b119)]))
        refine own_st (fun _ k => XS.iconst X257.here hx rfl (hb hby at_164) k) ?_
        show own_Goes p e below s _ _ (T257.setTop (mkF m 165 #[own_jv q0, .second, own_jv q1, .second, own_jv q2, .second, iv p3, iv p4, iv p5, iv (1 : Int32), iv (2 : Int32), iv (0 : Int32), rv b102, rv b111, rv b115, rv b119, .unset] [(.int (0 : Int32)), (.ref b119)]))
        have f264 := (f259.keep K257 (ninS (own_ne (by omega)) nin0))
        have f265 := ((Fv119.other W256 (Or.inl (own_ne (by omega)))).keep K257 (ninS (own_ne (by omega)) nin0))
        have f266 := ((Vv119.other W256 (own_ne (by omega))).keep K257 (ninS (own_ne (by omega)) nin0))
        have f267 := ((A119.wr W256).keep K257)
        obtain ⟨v263, T263, L263, X263, Q263, st263⟩ := own_callV X257 hx hZ (C := "com/example/reach2/reach2/model/CodedColumn") (y := (⟨"com/example/reach2/reach2/model/CodedColumn", "get", "(I)J"⟩ : MethodName)) hown (hw _ (List.mem_of_getElem? (i := 43) rfl)) (hw _ (List.mem_of_getElem? (i := 44) rfl)) (hw _ (List.mem_of_getElem? (i := 46) rfl)) (hw _ (List.mem_of_getElem? (i := 45) rfl)) (hw _ (List.mem_of_getElem? (i := 3) rfl)) (hw _ (List.mem_of_getElem? (i := 47) rfl)) (by decide) (W := 0) (rest := []) (argsL := [(.int (0 : Int32))]) (a := b119) (rmGet l Z a0 hw [] b119 (0 : Int32) _ _ _ _ T257.heap n0 (by omega) f264 f265 Vt257 f266 (by decide)) (by decide) (by decide) (by decide) (by decide) rfl f267 own_pd6 rfl (g := (mkF m 165 #[own_jv q0, .second, own_jv q1, .second, own_jv q2, .second, iv p3, iv p4, iv p5, iv (1 : Int32), iv (2 : Int32), iv (0 : Int32), rv b102, rv b111, rv b115, rv b119, .unset] [(.int (0 : Int32)), (.ref b119)])) rfl (by rw [hml]; rfl) rfl (by show 2 * 0 + _ ≤ _; exact Nat.le_of_eq rfl) (hb hby at_165)
        obtain ⟨g263, rfl, hg263, N263q, e263⟩ := Q263
        obtain rfl : q0 = g263 := (hg263.trans (own_at0 (by omega) ((rf109 _ (by omega)).trans ((rf107 _ (by omega)).trans re104)))).symm
        have N263 := Fr.app N257 N263q
        refine own_st st263 ?_
        show own_Goes p e below s _ _ (T263.setTop (mkF m 168 #[own_jv q0, .second, own_jv q1, .second, own_jv q2, .second, iv p3, iv p4, iv p5, iv (1 : Int32), iv (2 : Int32), iv (0 : Int32), rv b102, rv b111, rv b115, rv b119, .unset] [(.long q0)]))
        refine own_st (fun _ k => XS.aload X263.here hx rfl (hb hby at_168) rfl rfl  k) ?_
        show own_Goes p e below s _ _ (T263.setTop (mkF m 170 #[own_jv q0, .second, own_jv q1, .second, own_jv q2, .second, iv p3, iv p4, iv p5, iv (1 : Int32), iv (2 : Int32), iv (0 : Int32), rv b102, rv b111, rv b115, rv b119, .unset] [(.ref b115), (.long q0)]))
        refine own_st (fun _ k => XS.iconst X263.here hx rfl (hb hby at_170) k) ?_
        show own_Goes p e below s _ _ (T263.setTop (mkF m 171 #[own_jv q0, .second, own_jv q1, .second, own_jv q2, .second, iv p3, iv p4, iv p5, iv (1 : Int32), iv (2 : Int32), iv (0 : Int32), rv b102, rv b111, rv b115, rv b119, .unset] [(.int (0 : Int32)), (.ref b115), (.long q0)]))
        have f268 := (V256.keep K257 (ninS (own_ne (by omega)) nin0))
        refine own_st (fun _ k => own_ldJ X263 hx hZ e263 f268 (j := (0 : Int32)) (by decide) (g := (mkF m 171 #[own_jv q0, .second, own_jv q1, .second, own_jv q2, .second, iv p3, iv p4, iv p5, iv (1 : Int32), iv (2 : Int32), iv (0 : Int32), rv b102, rv b111, rv b115, rv b119, .unset] [(.int (0 : Int32)), (.ref b115), (.long q0)])) rfl rfl (hb hby at_171) _ k) ?_
        show own_Goes p e below s _ _ (T263.setTop (mkF m 172 #[own_jv q0, .second, own_jv q1, .second, own_jv q2, .second, iv p3, iv p4, iv p5, iv (1 : Int32), iv (2 : Int32), iv (0 : Int32), rv b102, rv b111, rv b115, rv b119, .unset] [(.long q0), (.long q0)]))
        refine own_st (fun _ k => XS.lcmp X263.here hx rfl (hb hby at_172) rfl k) ?_
        show own_Goes p e below s _ _ (T263.setTop (mkF m 173 #[own_jv q0, .second, own_jv q1, .second, own_jv q2, .second, iv p3, iv p4, iv p5, iv (1 : Int32), iv (2 : Int32), iv (0 : Int32), rv b102, rv b111, rv b115, rv b119, .unset] [(.int (lcmpW q0 q0))]))
        refine own_st (fun _ k => XS.ifNo X263.here hx rfl (hb hby at_173) rfl ((if0 _ _).trans (teq ((lw_eq _ _).mpr (rfl : q0 = q0))).2) k) ?_
        show own_Goes p e below s _ _ (T263.setTop (mkF m 176 #[own_jv q0, .second, own_jv q1, .second, own_jv q2, .second, iv p3, iv p4, iv p5, iv (1 : Int32), iv (2 : Int32), iv (0 : Int32), rv b102, rv b111, rv b115, rv b119, .unset] []))
        refine own_st (fun _ k => XS.aload X263.here hx rfl (hb hby at_176) rfl rfl  k) ?_
        show own_Goes p e below s _ _ (T263.setTop (mkF m 178 #[own_jv q0, .second, own_jv q1, .second, own_jv q2, .second, iv p3, iv p4, iv p5, iv (1 : Int32), iv (2 : Int32), iv (0 : Int32), rv b102, rv b111, rv b115, rv b119, .unset] [(.ref b119)]))
        refine own_st (fun _ k => XS.iconst X263.here hx rfl (hb hby at_178) k) ?_
        show own_Goes p e below s _ _ (T263.setTop (mkF m 179 #[own_jv q0, .second, own_jv q1, .second, own_jv q2, .second, iv p3, iv p4, iv p5, iv (1 : Int32), iv (2 : Int32), iv (0 : Int32), rv b102, rv b111, rv b115, rv b119, .unset] [(.int (1 : Int32)), (.ref b119)]))
        obtain ⟨v269, T269, L269, X269, Q269, st269⟩ := own_callV X263 hx hZ (C := "com/example/reach2/reach2/model/CodedColumn") (y := (⟨"com/example/reach2/reach2/model/CodedColumn", "get", "(I)J"⟩ : MethodName)) hown (hw _ (List.mem_of_getElem? (i := 43) rfl)) (hw _ (List.mem_of_getElem? (i := 44) rfl)) (hw _ (List.mem_of_getElem? (i := 46) rfl)) (hw _ (List.mem_of_getElem? (i := 45) rfl)) (hw _ (List.mem_of_getElem? (i := 3) rfl)) (hw _ (List.mem_of_getElem? (i := 47) rfl)) (by decide) (W := 0) (rest := []) (argsL := [(.int (1 : Int32))]) (a := b119) (rmGet l Z a0 hw [] b119 (1 : Int32) _ _ _ _ T257.heap n0 (by omega) f264 f265 Vt257 f266 (by decide)) (by decide) (by decide) (by decide) (by decide) e263 f267 own_pd6 rfl (g := (mkF m 179 #[own_jv q0, .second, own_jv q1, .second, own_jv q2, .second, iv p3, iv p4, iv p5, iv (1 : Int32), iv (2 : Int32), iv (0 : Int32), rv b102, rv b111, rv b115, rv b119, .unset] [(.int (1 : Int32)), (.ref b119)])) rfl (by rw [hml]; rfl) rfl (by show 2 * 0 + _ ≤ _; exact Nat.le_of_eq rfl) (hb hby at_179)
        obtain ⟨g269, rfl, hg269, N269q, e269⟩ := Q269
        obtain rfl : q0 = g269 := (hg269.trans (own_at0 (by omega) ((rf109 _ (by omega)).trans ((rf107 _ (by omega)).trans re104)))).symm
        have N269 := Fr.app N263 N269q
        refine own_st st269 ?_
        show own_Goes p e below s _ _ (T269.setTop (mkF m 182 #[own_jv q0, .second, own_jv q1, .second, own_jv q2, .second, iv p3, iv p4, iv p5, iv (1 : Int32), iv (2 : Int32), iv (0 : Int32), rv b102, rv b111, rv b115, rv b119, .unset] [(.long q0)]))
        refine own_st (fun _ k => XS.aload X269.here hx rfl (hb hby at_182) rfl rfl  k) ?_
        show own_Goes p e below s _ _ (T269.setTop (mkF m 184 #[own_jv q0, .second, own_jv q1, .second, own_jv q2, .second, iv p3, iv p4, iv p5, iv (1 : Int32), iv (2 : Int32), iv (0 : Int32), rv b102, rv b111, rv b115, rv b119, .unset] [(.ref b115), (.long q0)]))
        refine own_st (fun _ k => XS.iconst X269.here hx rfl (hb hby at_184) k) ?_
        show own_Goes p e below s _ _ (T269.setTop (mkF m 185 #[own_jv q0, .second, own_jv q1, .second, own_jv q2, .second, iv p3, iv p4, iv p5, iv (1 : Int32), iv (2 : Int32), iv (0 : Int32), rv b102, rv b111, rv b115, rv b119, .unset] [(.int (1 : Int32)), (.ref b115), (.long q0)]))
        refine own_st (fun _ k => own_ldJ X269 hx hZ e269 f268 (j := (1 : Int32)) (by decide) (g := (mkF m 185 #[own_jv q0, .second, own_jv q1, .second, own_jv q2, .second, iv p3, iv p4, iv p5, iv (1 : Int32), iv (2 : Int32), iv (0 : Int32), rv b102, rv b111, rv b115, rv b119, .unset] [(.int (1 : Int32)), (.ref b115), (.long q0)])) rfl rfl (hb hby at_185) _ k) ?_
        show own_Goes p e below s _ _ (T269.setTop (mkF m 186 #[own_jv q0, .second, own_jv q1, .second, own_jv q2, .second, iv p3, iv p4, iv p5, iv (1 : Int32), iv (2 : Int32), iv (0 : Int32), rv b102, rv b111, rv b115, rv b119, .unset] [(.long q0), (.long q0)]))
        refine own_st (fun _ k => XS.lcmp X269.here hx rfl (hb hby at_186) rfl k) ?_
        show own_Goes p e below s _ _ (T269.setTop (mkF m 187 #[own_jv q0, .second, own_jv q1, .second, own_jv q2, .second, iv p3, iv p4, iv p5, iv (1 : Int32), iv (2 : Int32), iv (0 : Int32), rv b102, rv b111, rv b115, rv b119, .unset] [(.int (lcmpW q0 q0))]))
        refine own_st (fun _ k => XS.ifNo X269.here hx rfl (hb hby at_187) rfl ((if0 _ _).trans (teq ((lw_eq _ _).mpr (rfl : q0 = q0))).2) k) ?_
        show own_Goes p e below s _ _ (T269.setTop (mkF m 190 #[own_jv q0, .second, own_jv q1, .second, own_jv q2, .second, iv p3, iv p4, iv p5, iv (1 : Int32), iv (2 : Int32), iv (0 : Int32), rv b102, rv b111, rv b115, rv b119, .unset] []))
        refine own_st (fun _ k => XS.aload X269.here hx rfl (hb hby at_190) rfl rfl  k) ?_
        show own_Goes p e below s _ _ (T269.setTop (mkF m 192 #[own_jv q0, .second, own_jv q1, .second, own_jv q2, .second, iv p3, iv p4, iv p5, iv (1 : Int32), iv (2 : Int32), iv (0 : Int32), rv b102, rv b111, rv b115, rv b119, .unset] [(.ref b119)]))
        refine own_st (fun _ k => XS.iconst X269.here hx rfl (hb hby at_192) k) ?_
        show own_Goes p e below s _ _ (T269.setTop (mkF m 193 #[own_jv q0, .second, own_jv q1, .second, own_jv q2, .second, iv p3, iv p4, iv p5, iv (1 : Int32), iv (2 : Int32), iv (0 : Int32), rv b102, rv b111, rv b115, rv b119, .unset] [(.int (2 : Int32)), (.ref b119)]))
        obtain ⟨v270, T270, L270, X270, Q270, st270⟩ := own_callV X269 hx hZ (C := "com/example/reach2/reach2/model/CodedColumn") (y := (⟨"com/example/reach2/reach2/model/CodedColumn", "get", "(I)J"⟩ : MethodName)) hown (hw _ (List.mem_of_getElem? (i := 43) rfl)) (hw _ (List.mem_of_getElem? (i := 44) rfl)) (hw _ (List.mem_of_getElem? (i := 46) rfl)) (hw _ (List.mem_of_getElem? (i := 45) rfl)) (hw _ (List.mem_of_getElem? (i := 3) rfl)) (hw _ (List.mem_of_getElem? (i := 47) rfl)) (by decide) (W := 0) (rest := []) (argsL := [(.int (2 : Int32))]) (a := b119) (rmGet l Z a0 hw [] b119 (2 : Int32) _ _ _ _ T257.heap n0 (by omega) f264 f265 Vt257 f266 (by decide)) (by decide) (by decide) (by decide) (by decide) e269 f267 own_pd6 rfl (g := (mkF m 193 #[own_jv q0, .second, own_jv q1, .second, own_jv q2, .second, iv p3, iv p4, iv p5, iv (1 : Int32), iv (2 : Int32), iv (0 : Int32), rv b102, rv b111, rv b115, rv b119, .unset] [(.int (2 : Int32)), (.ref b119)])) rfl (by rw [hml]; rfl) rfl (by show 2 * 0 + _ ≤ _; exact Nat.le_of_eq rfl) (hb hby at_193)
        obtain ⟨g270, rfl, hg270, N270q, e270⟩ := Q270
        obtain rfl : q1 = g270 := (hg270.trans (own_at2 (by omega) ((rf109 _ (by omega)).trans re107))).symm
        have N270 := Fr.app N269 N270q
        refine own_st st270 ?_
        show own_Goes p e below s _ _ (T270.setTop (mkF m 196 #[own_jv q0, .second, own_jv q1, .second, own_jv q2, .second, iv p3, iv p4, iv p5, iv (1 : Int32), iv (2 : Int32), iv (0 : Int32), rv b102, rv b111, rv b115, rv b119, .unset] [(.long q1)]))
        refine own_st (fun _ k => XS.aload X270.here hx rfl (hb hby at_196) rfl rfl  k) ?_
        show own_Goes p e below s _ _ (T270.setTop (mkF m 198 #[own_jv q0, .second, own_jv q1, .second, own_jv q2, .second, iv p3, iv p4, iv p5, iv (1 : Int32), iv (2 : Int32), iv (0 : Int32), rv b102, rv b111, rv b115, rv b119, .unset] [(.ref b115), (.long q1)]))
        refine own_st (fun _ k => XS.iconst X270.here hx rfl (hb hby at_198) k) ?_
        show own_Goes p e below s _ _ (T270.setTop (mkF m 199 #[own_jv q0, .second, own_jv q1, .second, own_jv q2, .second, iv p3, iv p4, iv p5, iv (1 : Int32), iv (2 : Int32), iv (0 : Int32), rv b102, rv b111, rv b115, rv b119, .unset] [(.int (2 : Int32)), (.ref b115), (.long q1)]))
        refine own_st (fun _ k => own_ldJ X270 hx hZ e270 f268 (j := (2 : Int32)) (by decide) (g := (mkF m 199 #[own_jv q0, .second, own_jv q1, .second, own_jv q2, .second, iv p3, iv p4, iv p5, iv (1 : Int32), iv (2 : Int32), iv (0 : Int32), rv b102, rv b111, rv b115, rv b119, .unset] [(.int (2 : Int32)), (.ref b115), (.long q1)])) rfl rfl (hb hby at_199) _ k) ?_
        show own_Goes p e below s _ _ (T270.setTop (mkF m 200 #[own_jv q0, .second, own_jv q1, .second, own_jv q2, .second, iv p3, iv p4, iv p5, iv (1 : Int32), iv (2 : Int32), iv (0 : Int32), rv b102, rv b111, rv b115, rv b119, .unset] [(.long q1), (.long q1)]))
        refine own_st (fun _ k => XS.lcmp X270.here hx rfl (hb hby at_200) rfl k) ?_
        show own_Goes p e below s _ _ (T270.setTop (mkF m 201 #[own_jv q0, .second, own_jv q1, .second, own_jv q2, .second, iv p3, iv p4, iv p5, iv (1 : Int32), iv (2 : Int32), iv (0 : Int32), rv b102, rv b111, rv b115, rv b119, .unset] [(.int (lcmpW q1 q1))]))
        refine own_st (fun _ k => XS.ifNo X270.here hx rfl (hb hby at_201) rfl ((if0 _ _).trans (teq ((lw_eq _ _).mpr (rfl : q1 = q1))).2) k) ?_
        show own_Goes p e below s _ _ (T270.setTop (mkF m 204 #[own_jv q0, .second, own_jv q1, .second, own_jv q2, .second, iv p3, iv p4, iv p5, iv (1 : Int32), iv (2 : Int32), iv (0 : Int32), rv b102, rv b111, rv b115, rv b119, .unset] []))
        refine own_st (fun _ k => XS.iconst X270.here hx rfl (hb hby at_204) k) ?_
        show own_Goes p e below s _ _ (T270.setTop (mkF m 205 #[own_jv q0, .second, own_jv q1, .second, own_jv q2, .second, iv p3, iv p4, iv p5, iv (1 : Int32), iv (2 : Int32), iv (0 : Int32), rv b102, rv b111, rv b115, rv b119, .unset] [(.int (1 : Int32))]))
        refine own_st (fun _ k => XS.goto X270.here hx rfl (pc0 := 205) (pc' := 209) rfl (hb hby at_205) (by decide) (by decide) k) ?_
        show own_Goes p e below s _ _ (T270.setTop (mkF m 209 #[own_jv q0, .second, own_jv q1, .second, own_jv q2, .second, iv p3, iv p4, iv p5, iv (1 : Int32), iv (2 : Int32), iv (0 : Int32), rv b102, rv b111, rv b115, rv b119, .unset] [(.int (1 : Int32))]))
        refine own_st (fun _ k => XS.istore X270.here hx rfl (hb hby at_209) rfl (l' := #[own_jv q0, .second, own_jv q1, .second, own_jv q2, .second, iv p3, iv p4, iv p5, iv (1 : Int32), iv (2 : Int32), iv (0 : Int32), rv b102, rv b111, rv b115, rv b119, iv (1 : Int32)]) rfl k) ?_
        show own_Goes p e below s _ _ (T270.setTop (mkF m 211 #[own_jv q0, .second, own_jv q1, .second, own_jv q2, .second, iv p3, iv p4, iv p5, iv (1 : Int32), iv (2 : Int32), iv (0 : Int32), rv b102, rv b111, rv b115, rv b119, iv (1 : Int32)] []))
        refine own_st (fun _ k => XS.iload X270.here hx rfl (hb hby at_211) rfl  k) ?_
        show own_Goes p e below s _ _ (T270.setTop (mkF m 213 #[own_jv q0, .second, own_jv q1, .second, own_jv q2, .second, iv p3, iv p4, iv p5, iv (1 : Int32), iv (2 : Int32), iv (0 : Int32), rv b102, rv b111, rv b115, rv b119, iv (1 : Int32)] [(.int (0 : Int32))]))
        refine own_st (fun _ k => XS.ifNo X270.here hx rfl (hb hby at_213) rfl ((if0 _ _).trans (teq (by decide : (0 : Int32) = (0 : Int32))).2) k) ?_
        show own_Goes p e below s _ _ (T270.setTop (mkF m 216 #[own_jv q0, .second, own_jv q1, .second, own_jv q2, .second, iv p3, iv p4, iv p5, iv (1 : Int32), iv (2 : Int32), iv (0 : Int32), rv b102, rv b111, rv b115, rv b119, iv (1 : Int32)] []))
        refine own_st (fun _ k => XS.iload X270.here hx rfl (hb hby at_216) rfl  k) ?_
        show own_Goes p e below s _ _ (T270.setTop (mkF m 218 #[own_jv q0, .second, own_jv q1, .second, own_jv q2, .second, iv p3, iv p4, iv p5, iv (1 : Int32), iv (2 : Int32), iv (0 : Int32), rv b102, rv b111, rv b115, rv b119, iv (1 : Int32)] [(.int (1 : Int32))]))
        refine own_st (fun _ k => XS.ifNo X270.here hx rfl (hb hby at_218) rfl ((if0 _ _).trans (feq (by decide : ¬ ((1 : Int32) = (0 : Int32)))).1) k) ?_
        show own_Goes p e below s _ _ (T270.setTop (mkF m 221 #[own_jv q0, .second, own_jv q1, .second, own_jv q2, .second, iv p3, iv p4, iv p5, iv (1 : Int32), iv (2 : Int32), iv (0 : Int32), rv b102, rv b111, rv b115, rv b119, iv (1 : Int32)] []))
        refine own_st (fun _ k => XS.aload X270.here hx rfl (hb hby at_221) rfl rfl  k) ?_
        show own_Goes p e below s _ _ (T270.setTop (mkF m 223 #[own_jv q0, .second, own_jv q1, .second, own_jv q2, .second, iv p3, iv p4, iv p5, iv (1 : Int32), iv (2 : Int32), iv (0 : Int32), rv b102, rv b111, rv b115, rv b119, iv (1 : Int32)] [(.ref b102)]))
        refine own_st (fun _ k => XS.iconst X270.here hx rfl (hb hby at_223) k) ?_
        show own_Goes p e below s _ _ (T270.setTop (mkF m 224 #[own_jv q0, .second, own_jv q1, .second, own_jv q2, .second, iv p3, iv p4, iv p5, iv (1 : Int32), iv (2 : Int32), iv (0 : Int32), rv b102, rv b111, rv b115, rv b119, iv (1 : Int32)] [(.int (0 : Int32)), (.ref b102)]))
        have f272 := (f258.keep K257 (ninS (own_ne (by omega)) nin0))
        have f273 := (((f121.keep K119 nin0).other W256 (Or.inl (own_ne (by omega)))).keep K257 (ninS (own_ne (by omega)) nin0))
        have f274 := (f260.keep K257 (ninS (own_ne (by omega)) nin0))
        have f275 := (((f124.keep K119 nin0).other W256 (own_ne (by omega))).keep K257 (ninS (own_ne (by omega)) nin0))
        have f276 := (f262.keep K257)
        obtain ⟨v271, T271, L271, X271, Q271, st271⟩ := own_callV X270 hx hZ (C := "com/example/reach2/reach2/model/CodedColumn") (y := (⟨"com/example/reach2/reach2/model/CodedColumn", "get", "(I)J"⟩ : MethodName)) hown (hw _ (List.mem_of_getElem? (i := 43) rfl)) (hw _ (List.mem_of_getElem? (i := 44) rfl)) (hw _ (List.mem_of_getElem? (i := 46) rfl)) (hw _ (List.mem_of_getElem? (i := 45) rfl)) (hw _ (List.mem_of_getElem? (i := 3) rfl)) (hw _ (List.mem_of_getElem? (i := 47) rfl)) (by decide) (W := 0) (rest := []) (argsL := [(.int (0 : Int32))]) (a := b102) (rmGet l Z a0 hw [] b102 (0 : Int32) _ _ _ _ T257.heap n0 (by omega) f272 f273 f274 f275 (by decide)) (by decide) (by decide) (by decide) (by decide) e270 f276 own_pd6 rfl (g := (mkF m 224 #[own_jv q0, .second, own_jv q1, .second, own_jv q2, .second, iv p3, iv p4, iv p5, iv (1 : Int32), iv (2 : Int32), iv (0 : Int32), rv b102, rv b111, rv b115, rv b119, iv (1 : Int32)] [(.int (0 : Int32)), (.ref b102)])) rfl (by rw [hml]; rfl) rfl (by show 2 * 0 + _ ≤ _; exact Nat.le_of_eq rfl) (hb hby at_224)
        obtain ⟨g271, rfl, hg271, N271q, e271⟩ := Q271
        obtain rfl : q0 = g271 := (hg271.trans (own_at (by omega) ((rf109 _ (by omega)).trans ((rf107 _ (by omega)).trans re104)))).symm
        have N271 := Fr.app N270 N271q
        refine own_st st271 ?_
        show own_Goes p e below s _ _ (T271.setTop (mkF m 227 #[own_jv q0, .second, own_jv q1, .second, own_jv q2, .second, iv p3, iv p4, iv p5, iv (1 : Int32), iv (2 : Int32), iv (0 : Int32), rv b102, rv b111, rv b115, rv b119, iv (1 : Int32)] [(.long q0)]))
        refine own_st (fun _ k => XS.lloadN X271.here hx rfl (hb hby at_227) rfl  k) ?_
        show own_Goes p e below s _ _ (T271.setTop (mkF m 228 #[own_jv q0, .second, own_jv q1, .second, own_jv q2, .second, iv p3, iv p4, iv p5, iv (1 : Int32), iv (2 : Int32), iv (0 : Int32), rv b102, rv b111, rv b115, rv b119, iv (1 : Int32)] [(.long q0), (.long q0)]))
        refine own_st (fun _ k => XS.lcmp X271.here hx rfl (hb hby at_228) rfl k) ?_
        show own_Goes p e below s _ _ (T271.setTop (mkF m 229 #[own_jv q0, .second, own_jv q1, .second, own_jv q2, .second, iv p3, iv p4, iv p5, iv (1 : Int32), iv (2 : Int32), iv (0 : Int32), rv b102, rv b111, rv b115, rv b119, iv (1 : Int32)] [(.int (lcmpW q0 q0))]))
        refine own_st (fun _ k => XS.ifNo X271.here hx rfl (hb hby at_229) rfl ((if0 _ _).trans (teq ((lw_eq _ _).mpr (rfl : q0 = q0))).2) k) ?_
        show own_Goes p e below s _ _ (T271.setTop (mkF m 232 #[own_jv q0, .second, own_jv q1, .second, own_jv q2, .second, iv p3, iv p4, iv p5, iv (1 : Int32), iv (2 : Int32), iv (0 : Int32), rv b102, rv b111, rv b115, rv b119, iv (1 : Int32)] []))
        refine own_st (fun _ k => XS.aload X271.here hx rfl (hb hby at_232) rfl rfl  k) ?_
        show own_Goes p e below s _ _ (T271.setTop (mkF m 234 #[own_jv q0, .second, own_jv q1, .second, own_jv q2, .second, iv p3, iv p4, iv p5, iv (1 : Int32), iv (2 : Int32), iv (0 : Int32), rv b102, rv b111, rv b115, rv b119, iv (1 : Int32)] [(.ref b102)]))
        refine own_st (fun _ k => XS.iconst X271.here hx rfl (hb hby at_234) k) ?_
        show own_Goes p e below s _ _ (T271.setTop (mkF m 235 #[own_jv q0, .second, own_jv q1, .second, own_jv q2, .second, iv p3, iv p4, iv p5, iv (1 : Int32), iv (2 : Int32), iv (0 : Int32), rv b102, rv b111, rv b115, rv b119, iv (1 : Int32)] [(.int (1 : Int32)), (.ref b102)]))
        obtain ⟨v277, T277, L277, X277, Q277, st277⟩ := own_callV X271 hx hZ (C := "com/example/reach2/reach2/model/CodedColumn") (y := (⟨"com/example/reach2/reach2/model/CodedColumn", "get", "(I)J"⟩ : MethodName)) hown (hw _ (List.mem_of_getElem? (i := 43) rfl)) (hw _ (List.mem_of_getElem? (i := 44) rfl)) (hw _ (List.mem_of_getElem? (i := 46) rfl)) (hw _ (List.mem_of_getElem? (i := 45) rfl)) (hw _ (List.mem_of_getElem? (i := 3) rfl)) (hw _ (List.mem_of_getElem? (i := 47) rfl)) (by decide) (W := 0) (rest := []) (argsL := [(.int (1 : Int32))]) (a := b102) (rmGet l Z a0 hw [] b102 (1 : Int32) _ _ _ _ T257.heap n0 (by omega) f272 f273 f274 f275 (by decide)) (by decide) (by decide) (by decide) (by decide) e271 f276 own_pd6 rfl (g := (mkF m 235 #[own_jv q0, .second, own_jv q1, .second, own_jv q2, .second, iv p3, iv p4, iv p5, iv (1 : Int32), iv (2 : Int32), iv (0 : Int32), rv b102, rv b111, rv b115, rv b119, iv (1 : Int32)] [(.int (1 : Int32)), (.ref b102)])) rfl (by rw [hml]; rfl) rfl (by show 2 * 0 + _ ≤ _; exact Nat.le_of_eq rfl) (hb hby at_235)
        obtain ⟨g277, rfl, hg277, N277q, e277⟩ := Q277
        obtain rfl : q1 = g277 := (hg277.trans (own_at (by omega) ((rf109 _ (by omega)).trans re107))).symm
        have N277 := Fr.app N271 N277q
        refine own_st st277 ?_
        show own_Goes p e below s _ _ (T277.setTop (mkF m 238 #[own_jv q0, .second, own_jv q1, .second, own_jv q2, .second, iv p3, iv p4, iv p5, iv (1 : Int32), iv (2 : Int32), iv (0 : Int32), rv b102, rv b111, rv b115, rv b119, iv (1 : Int32)] [(.long q1)]))
        refine own_st (fun _ k => XS.lloadN X277.here hx rfl (hb hby at_238) rfl  k) ?_
        show own_Goes p e below s _ _ (T277.setTop (mkF m 239 #[own_jv q0, .second, own_jv q1, .second, own_jv q2, .second, iv p3, iv p4, iv p5, iv (1 : Int32), iv (2 : Int32), iv (0 : Int32), rv b102, rv b111, rv b115, rv b119, iv (1 : Int32)] [(.long q1), (.long q1)]))
        refine own_st (fun _ k => XS.lcmp X277.here hx rfl (hb hby at_239) rfl k) ?_
        show own_Goes p e below s _ _ (T277.setTop (mkF m 240 #[own_jv q0, .second, own_jv q1, .second, own_jv q2, .second, iv p3, iv p4, iv p5, iv (1 : Int32), iv (2 : Int32), iv (0 : Int32), rv b102, rv b111, rv b115, rv b119, iv (1 : Int32)] [(.int (lcmpW q1 q1))]))
        refine own_st (fun _ k => XS.ifNo X277.here hx rfl (hb hby at_240) rfl ((if0 _ _).trans (teq ((lw_eq _ _).mpr (rfl : q1 = q1))).2) k) ?_
        show own_Goes p e below s _ _ (T277.setTop (mkF m 243 #[own_jv q0, .second, own_jv q1, .second, own_jv q2, .second, iv p3, iv p4, iv p5, iv (1 : Int32), iv (2 : Int32), iv (0 : Int32), rv b102, rv b111, rv b115, rv b119, iv (1 : Int32)] []))
        refine own_st (fun _ k => XS.aload X277.here hx rfl (hb hby at_243) rfl rfl  k) ?_
        show own_Goes p e below s _ _ (T277.setTop (mkF m 245 #[own_jv q0, .second, own_jv q1, .second, own_jv q2, .second, iv p3, iv p4, iv p5, iv (1 : Int32), iv (2 : Int32), iv (0 : Int32), rv b102, rv b111, rv b115, rv b119, iv (1 : Int32)] [(.ref b102)]))
        refine own_st (fun _ k => XS.iconst X277.here hx rfl (hb hby at_245) k) ?_
        show own_Goes p e below s _ _ (T277.setTop (mkF m 246 #[own_jv q0, .second, own_jv q1, .second, own_jv q2, .second, iv p3, iv p4, iv p5, iv (1 : Int32), iv (2 : Int32), iv (0 : Int32), rv b102, rv b111, rv b115, rv b119, iv (1 : Int32)] [(.int (2 : Int32)), (.ref b102)]))
        obtain ⟨v278, T278, L278, X278, Q278, st278⟩ := own_callV X277 hx hZ (C := "com/example/reach2/reach2/model/CodedColumn") (y := (⟨"com/example/reach2/reach2/model/CodedColumn", "get", "(I)J"⟩ : MethodName)) hown (hw _ (List.mem_of_getElem? (i := 43) rfl)) (hw _ (List.mem_of_getElem? (i := 44) rfl)) (hw _ (List.mem_of_getElem? (i := 46) rfl)) (hw _ (List.mem_of_getElem? (i := 45) rfl)) (hw _ (List.mem_of_getElem? (i := 3) rfl)) (hw _ (List.mem_of_getElem? (i := 47) rfl)) (by decide) (W := 0) (rest := []) (argsL := [(.int (2 : Int32))]) (a := b102) (rmGet l Z a0 hw [] b102 (2 : Int32) _ _ _ _ T257.heap n0 (by omega) f272 f273 f274 f275 (by decide)) (by decide) (by decide) (by decide) (by decide) e277 f276 own_pd6 rfl (g := (mkF m 246 #[own_jv q0, .second, own_jv q1, .second, own_jv q2, .second, iv p3, iv p4, iv p5, iv (1 : Int32), iv (2 : Int32), iv (0 : Int32), rv b102, rv b111, rv b115, rv b119, iv (1 : Int32)] [(.int (2 : Int32)), (.ref b102)])) rfl (by rw [hml]; rfl) rfl (by show 2 * 0 + _ ≤ _; exact Nat.le_of_eq rfl) (hb hby at_246)
        obtain ⟨g278, rfl, hg278, N278q, e278⟩ := Q278
        obtain rfl : q2 = g278 := (hg278.trans (own_at (by omega) re109)).symm
        have N278 := Fr.app N277 N278q
        refine own_st st278 ?_
        show own_Goes p e below s _ _ (T278.setTop (mkF m 249 #[own_jv q0, .second, own_jv q1, .second, own_jv q2, .second, iv p3, iv p4, iv p5, iv (1 : Int32), iv (2 : Int32), iv (0 : Int32), rv b102, rv b111, rv b115, rv b119, iv (1 : Int32)] [(.long q2)]))
        refine own_st (fun _ k => XS.lload X278.here hx rfl (hb hby at_249) rfl  k) ?_
        show own_Goes p e below s _ _ (T278.setTop (mkF m 251 #[own_jv q0, .second, own_jv q1, .second, own_jv q2, .second, iv p3, iv p4, iv p5, iv (1 : Int32), iv (2 : Int32), iv (0 : Int32), rv b102, rv b111, rv b115, rv b119, iv (1 : Int32)] [(.long q2), (.long q2)]))
        refine own_st (fun _ k => XS.lcmp X278.here hx rfl (hb hby at_251) rfl k) ?_
        show own_Goes p e below s _ _ (T278.setTop (mkF m 252 #[own_jv q0, .second, own_jv q1, .second, own_jv q2, .second, iv p3, iv p4, iv p5, iv (1 : Int32), iv (2 : Int32), iv (0 : Int32), rv b102, rv b111, rv b115, rv b119, iv (1 : Int32)] [(.int (lcmpW q2 q2))]))
        refine own_st (fun _ k => XS.ifNo X278.here hx rfl (hb hby at_252) rfl ((if0 _ _).trans (teq ((lw_eq _ _).mpr (rfl : q2 = q2))).2) k) ?_
        show own_Goes p e below s _ _ (T278.setTop (mkF m 255 #[own_jv q0, .second, own_jv q1, .second, own_jv q2, .second, iv p3, iv p4, iv p5, iv (1 : Int32), iv (2 : Int32), iv (0 : Int32), rv b102, rv b111, rv b115, rv b119, iv (1 : Int32)] []))
        refine own_st (fun _ k => XS.iconst X278.here hx rfl (hb hby at_255) k) ?_
        show own_Goes p e below s _ _ (T278.setTop (mkF m 256 #[own_jv q0, .second, own_jv q1, .second, own_jv q2, .second, iv p3, iv p4, iv p5, iv (1 : Int32), iv (2 : Int32), iv (0 : Int32), rv b102, rv b111, rv b115, rv b119, iv (1 : Int32)] [(.int (1 : Int32))]))
        refine own_st (fun _ k => XS.goto X278.here hx rfl (pc0 := 256) (pc' := 260) rfl (hb hby at_256) (by decide) (by decide) k) ?_
        show own_Goes p e below s _ _ (T278.setTop (mkF m 260 #[own_jv q0, .second, own_jv q1, .second, own_jv q2, .second, iv p3, iv p4, iv p5, iv (1 : Int32), iv (2 : Int32), iv (0 : Int32), rv b102, rv b111, rv b115, rv b119, iv (1 : Int32)] [(.int (1 : Int32))]))
        refine own_st (fun _ k => XS.istore X278.here hx rfl (hb hby at_260) rfl (l' := #[own_jv q0, .second, own_jv q1, .second, own_jv q2, .second, iv p3, iv p4, iv p5, iv (1 : Int32), iv (2 : Int32), iv (0 : Int32), rv b102, rv b111, rv b115, rv b119, iv (1 : Int32)]) rfl k) ?_
        show own_Goes p e below s _ _ (T278.setTop (mkF m 262 #[own_jv q0, .second, own_jv q1, .second, own_jv q2, .second, iv p3, iv p4, iv p5, iv (1 : Int32), iv (2 : Int32), iv (0 : Int32), rv b102, rv b111, rv b115, rv b119, iv (1 : Int32)] []))
        refine own_st (fun _ k => XS.iload X278.here hx rfl (hb hby at_262) rfl  k) ?_
        show own_Goes p e below s _ _ (T278.setTop (mkF m 264 #[own_jv q0, .second, own_jv q1, .second, own_jv q2, .second, iv p3, iv p4, iv p5, iv (1 : Int32), iv (2 : Int32), iv (0 : Int32), rv b102, rv b111, rv b115, rv b119, iv (1 : Int32)] [(.int (1 : Int32))]))
        exact own_retN X278 hx hlk (1 : Int32) hret (Or.inl rfl) rfl (hb hby at_264) (by decide) (by decide) ⟨rfl, N278⟩
    · show own_Goes p e below s _ _ (T119.setTop (mkF m 141 #[own_jv q0, .second, own_jv q1, .second, own_jv q2, .second, iv p3, iv p4, iv p5, iv (2 : Int32), iv to, iv (0 : Int32), rv b102, rv b111, rv b115, rv b119, .unset] []))
      rcases own_3 hto with rfl | rfl | rfl
      · show own_Goes p e below s _ _ (T119.setTop (mkF m 141 #[own_jv q0, .second, own_jv q1, .second, own_jv q2, .second, iv p3, iv p4, iv p5, iv (2 : Int32), iv (0 : Int32), iv (0 : Int32), rv b102, rv b111, rv b115, rv b119, .unset] []))
        refine own_st (fun _ k => XS.aload X119.here hx rfl (hb hby at_141) rfl rfl  k) ?_
        show own_Goes p e below s _ _ (T119.setTop (mkF m 143 #[own_jv q0, .second, own_jv q1, .second, own_jv q2, .second, iv p3, iv p4, iv p5, iv (2 : Int32), iv (0 : Int32), iv (0 : Int32), rv b102, rv b111, rv b115, rv b119, .unset] [(.ref b115)]))
        refine own_st (fun _ k => XS.iload X119.here hx rfl (hb hby at_143) rfl  k) ?_
        show own_Goes p e below s _ _ (T119.setTop (mkF m 145 #[own_jv q0, .second, own_jv q1, .second, own_jv q2, .second, iv p3, iv p4, iv p5, iv (2 : Int32), iv (0 : Int32), iv (0 : Int32), rv b102, rv b111, rv b115, rv b119, .unset] [(.int (0 : Int32)), (.ref b115)]))
        refine own_st (fun _ k => XS.aload X119.here hx rfl (hb hby at_145) rfl rfl  k) ?_
        show own_Goes p e below s _ _ (T119.setTop (mkF m 147 #[own_jv q0, .second, own_jv q1, .second, own_jv q2, .second, iv p3, iv p4, iv p5, iv (2 : Int32), iv (0 : Int32), iv (0 : Int32), rv b102, rv b111, rv b115, rv b119, .unset] [(.ref b111), (.int (0 : Int32)), (.ref b115)]))
        refine own_st (fun _ k => XS.iload X119.here hx rfl (hb hby at_147) rfl  k) ?_
        show own_Goes p e below s _ _ (T119.setTop (mkF m 149 #[own_jv q0, .second, own_jv q1, .second, own_jv q2, .second, iv p3, iv p4, iv p5, iv (2 : Int32), iv (0 : Int32), iv (0 : Int32), rv b102, rv b111, rv b115, rv b119, .unset] [(.int (2 : Int32)), (.ref b111), (.int (0 : Int32)), (.ref b115)]))
        have f279 := (((((V114.ext E115).other W116 (own_ne (by omega))).other W117 (own_ne (by omega))).other W118 (own_ne (by omega))).keep K119 nin0)
        refine own_st (fun _ k => own_ldJ X119 hx hZ rfl f279 (j := (2 : Int32)) (by decide) (g := (mkF m 149 #[own_jv q0, .second, own_jv q1, .second, own_jv q2, .second, iv p3, iv p4, iv p5, iv (2 : Int32), iv (0 : Int32), iv (0 : Int32), rv b102, rv b111, rv b115, rv b119, .unset] [(.int (2 : Int32)), (.ref b111), (.int (0 : Int32)), (.ref b115)])) rfl rfl (hb hby at_149) _ k) ?_
        show own_Goes p e below s _ _ (T119.setTop (mkF m 150 #[own_jv q0, .second, own_jv q1, .second, own_jv q2, .second, iv p3, iv p4, iv p5, iv (2 : Int32), iv (0 : Int32), iv (0 : Int32), rv b102, rv b111, rv b115, rv b119, .unset] [(.long q2), (.int (0 : Int32)), (.ref b115)]))
        have f280 := (V118.keep K119 nin0)
        obtain ⟨T281, h281, X281, e281, W281, A281, st281⟩ := own_stJ X119 hx hZ rfl f280 (j := (0 : Int32)) (by decide) (g := (mkF m 150 #[own_jv q0, .second, own_jv q1, .second, own_jv q2, .second, iv p3, iv p4, iv p5, iv (2 : Int32), iv (0 : Int32), iv (0 : Int32), rv b102, rv b111, rv b115, rv b119, .unset] [(.long q2), (.int (0 : Int32)), (.ref b115)])) rfl rfl (hb hby at_150)
        have V281 : own_Arf Z h281 b115 .long 3 (fun k => .long ((fun k => if k = 0 then q2 else (fun k => if k = 2 then q0 else (fun k => if k = 1 then q0 else (fun k => if k = 0 then q0 else (fun _ => (0 : Int64)) k) k) k) k) k)) := A281
        have z281 := W281.size
        have N281 := Fr.snoc X281 N119 (by omega)
        refine own_st st281 ?_
        show own_Goes p e below s _ _ (T281.setTop (mkF m 151 #[own_jv q0, .second, own_jv q1, .second, own_jv q2, .second, iv p3, iv p4, iv p5, iv (2 : Int32), iv (0 : Int32), iv (0 : Int32), rv b102, rv b111, rv b115, rv b119, .unset] []))
        refine own_st (fun _ k => XS.aload X281.here hx rfl (hb hby at_151) rfl rfl  k) ?_
        show own_Goes p e below s _ _ (T281.setTop (mkF m 153 #[own_jv q0, .second, own_jv q1, .second, own_jv q2, .second, iv p3, iv p4, iv p5, iv (2 : Int32), iv (0 : Int32), iv (0 : Int32), rv b102, rv b111, rv b115, rv b119, .unset] [(.ref b102)]))
        refine own_st (fun _ k => XS.iload X281.here hx rfl (hb hby at_153) rfl  k) ?_
        show own_Goes p e below s _ _ (T281.setTop (mkF m 155 #[own_jv q0, .second, own_jv q1, .second, own_jv q2, .second, iv p3, iv p4, iv p5, iv (2 : Int32), iv (0 : Int32), iv (0 : Int32), rv b102, rv b111, rv b115, rv b119, .unset] [(.int (2 : Int32)), (.ref b102)]))
        refine own_st (fun _ k => XS.aload X281.here hx rfl (hb hby at_155) rfl rfl  k) ?_
        show own_Goes p e below s _ _ (T281.setTop (mkF m 157 #[own_jv q0, .second, own_jv q1, .second, own_jv q2, .second, iv p3, iv p4, iv p5, iv (2 : Int32), iv (0 : Int32), iv (0 : Int32), rv b102, rv b111, rv b115, rv b119, .unset] [(.ref b119), (.int (2 : Int32)), (.ref b102)]))
        refine own_st (fun _ k => XS.iload X281.here hx rfl (hb hby at_157) rfl  k) ?_
        show own_Goes p e below s _ _ (T281.setTop (mkF m 159 #[own_jv q0, .second, own_jv q1, .second, own_jv q2, .second, iv p3, iv p4, iv p5, iv (2 : Int32), iv (0 : Int32), iv (0 : Int32), rv b102, rv b111, rv b115, rv b119, .unset] [(.int (0 : Int32)), (.ref b119), (.int (2 : Int32)), (.ref b102)]))
        have f283 := ((f120.keep K119 nin0).other W281 (Or.inl (own_ne (by omega))))
        have f284 := (Fc119.other W281 (Or.inl (own_ne (by omega))))
        have f285 := ((((((((((Vd109.ext E111).other W112 (own_ne (by omega))).other W113 (own_ne (by omega))).other W114 (own_ne (by omega))).ext E115).other W116 (own_ne (by omega))).other W117 (own_ne (by omega))).other W118 (own_ne (by omega))).keep K119 nin0).other W281 (own_ne (by omega)))
        have f286 := (Vc119.other W281 (own_ne (by omega)))
        have f287 := ((f128.keep K119).wr W281)
        obtain ⟨v282, T282, L282, X282, Q282, st282⟩ := own_callV X281 hx hZ (C := "com/example/reach2/reach2/model/CodedColumn") (y := (⟨"com/example/reach2/reach2/model/CodedColumn", "copyTo", "(ILcom/example/reach2/reach2/model/CodedColumn;I)V"⟩ : MethodName)) hown (hw _ (List.mem_of_getElem? (i := 38) rfl)) (hw _ (List.mem_of_getElem? (i := 39) rfl)) (hw _ (List.mem_of_getElem? (i := 41) rfl)) (hw _ (List.mem_of_getElem? (i := 40) rfl)) (hw _ (List.mem_of_getElem? (i := 3) rfl)) (hw _ (List.mem_of_getElem? (i := 42) rfl)) (by decide) (W := 0) (rest := []) (argsL := [(.int (2 : Int32)), (.ref b119), (.int (0 : Int32))]) (a := b102) (rmCT l Z a0 hw [] b102 (2 : Int32) b119 (0 : Int32) ac103 bc119 _ _ h281 n0 (by omega) f283 f284 f285 f286 (by decide) (by decide) (by omega)) (by decide) (by decide) (by decide) (by decide) e281 f287 own_pd5 rfl (g := (mkF m 159 #[own_jv q0, .second, own_jv q1, .second, own_jv q2, .second, iv p3, iv p4, iv p5, iv (2 : Int32), iv (0 : Int32), iv (0 : Int32), rv b102, rv b111, rv b115, rv b119, .unset] [(.int (0 : Int32)), (.ref b119), (.int (2 : Int32)), (.ref b102)])) rfl (by rw [hml]; rfl) rfl (by show 2 * 0 + _ ≤ _; exact Nat.le_of_eq rfl) (hb hby at_159)
        obtain ⟨rfl, N282q, K282, V282⟩ := Q282
        have z282 := K282.1
        have Vt282 : own_Arf Z T282.heap bc119 .byte 3 (fun k => .int ((fun k => if k = 0 then (nar .byte (nar .byte (r109.toInt8.toInt32))) else (fun _ => (0 : Int32)) k) k)) := V282
        have N282 := Fr.app N281 N282q
        refine own_st st282 ?_
        show own_Goes p e below s _ _ (T282.setTop (mkF m 162 #[own_jv q0, .second, own_jv q1, .second, own_jv q2, .second, iv p3, iv p4, iv p5, iv (2 : Int32), iv (0 : Int32), iv (0 : Int32), rv b102, rv b111, rv b115, rv b119, .unset] []))
        refine own_st (fun _ k => XS.aload X282.here hx rfl (hb hby at_162) rfl rfl  k) ?_
        show own_Goes p e below s _ _ (T282.setTop (mkF m 164 #[own_jv q0, .second, own_jv q1, .second, own_jv q2, .second, iv p3, iv p4, iv p5, iv (2 : Int32), iv (0 : Int32), iv (0 : Int32), rv b102, rv b111, rv b115, rv b119, .unset] [(.ref b119)]))
        refine own_st (fun _ k => XS.iconst X282.here hx rfl (hb hby at_164) k) ?_
        show own_Goes p e below s _ _ (T282.setTop (mkF m 165 #[own_jv q0, .second, own_jv q1, .second, own_jv q2, .second, iv p3, iv p4, iv p5, iv (2 : Int32), iv (0 : Int32), iv (0 : Int32), rv b102, rv b111, rv b115, rv b119, .unset] [(.int (0 : Int32)), (.ref b119)]))
        have f289 := (f284.keep K282 (ninS (own_ne (by omega)) nin0))
        have f290 := ((Fv119.other W281 (Or.inl (own_ne (by omega)))).keep K282 (ninS (own_ne (by omega)) nin0))
        have f291 := ((Vv119.other W281 (own_ne (by omega))).keep K282 (ninS (own_ne (by omega)) nin0))
        have f292 := ((A119.wr W281).keep K282)
        obtain ⟨v288, T288, L288, X288, Q288, st288⟩ := own_callV X282 hx hZ (C := "com/example/reach2/reach2/model/CodedColumn") (y := (⟨"com/example/reach2/reach2/model/CodedColumn", "get", "(I)J"⟩ : MethodName)) hown (hw _ (List.mem_of_getElem? (i := 43) rfl)) (hw _ (List.mem_of_getElem? (i := 44) rfl)) (hw _ (List.mem_of_getElem? (i := 46) rfl)) (hw _ (List.mem_of_getElem? (i := 45) rfl)) (hw _ (List.mem_of_getElem? (i := 3) rfl)) (hw _ (List.mem_of_getElem? (i := 47) rfl)) (by decide) (W := 0) (rest := []) (argsL := [(.int (0 : Int32))]) (a := b119) (rmGet l Z a0 hw [] b119 (0 : Int32) _ _ _ _ T282.heap n0 (by omega) f289 f290 Vt282 f291 (by decide)) (by decide) (by decide) (by decide) (by decide) rfl f292 own_pd6 rfl (g := (mkF m 165 #[own_jv q0, .second, own_jv q1, .second, own_jv q2, .second, iv p3, iv p4, iv p5, iv (2 : Int32), iv (0 : Int32), iv (0 : Int32), rv b102, rv b111, rv b115, rv b119, .unset] [(.int (0 : Int32)), (.ref b119)])) rfl (by rw [hml]; rfl) rfl (by show 2 * 0 + _ ≤ _; exact Nat.le_of_eq rfl) (hb hby at_165)
        obtain ⟨g288, rfl, hg288, N288q, e288⟩ := Q288
        obtain rfl : q2 = g288 := (hg288.trans (own_at2 (by omega) re109)).symm
        have N288 := Fr.app N282 N288q
        refine own_st st288 ?_
        show own_Goes p e below s _ _ (T288.setTop (mkF m 168 #[own_jv q0, .second, own_jv q1, .second, own_jv q2, .second, iv p3, iv p4, iv p5, iv (2 : Int32), iv (0 : Int32), iv (0 : Int32), rv b102, rv b111, rv b115, rv b119, .unset] [(.long q2)]))
        refine own_st (fun _ k => XS.aload X288.here hx rfl (hb hby at_168) rfl rfl  k) ?_
        show own_Goes p e below s _ _ (T288.setTop (mkF m 170 #[own_jv q0, .second, own_jv q1, .second, own_jv q2, .second, iv p3, iv p4, iv p5, iv (2 : Int32), iv (0 : Int32), iv (0 : Int32), rv b102, rv b111, rv b115, rv b119, .unset] [(.ref b115), (.long q2)]))
        refine own_st (fun _ k => XS.iconst X288.here hx rfl (hb hby at_170) k) ?_
        show own_Goes p e below s _ _ (T288.setTop (mkF m 171 #[own_jv q0, .second, own_jv q1, .second, own_jv q2, .second, iv p3, iv p4, iv p5, iv (2 : Int32), iv (0 : Int32), iv (0 : Int32), rv b102, rv b111, rv b115, rv b119, .unset] [(.int (0 : Int32)), (.ref b115), (.long q2)]))
        have f293 := (V281.keep K282 (ninS (own_ne (by omega)) nin0))
        refine own_st (fun _ k => own_ldJ X288 hx hZ e288 f293 (j := (0 : Int32)) (by decide) (g := (mkF m 171 #[own_jv q0, .second, own_jv q1, .second, own_jv q2, .second, iv p3, iv p4, iv p5, iv (2 : Int32), iv (0 : Int32), iv (0 : Int32), rv b102, rv b111, rv b115, rv b119, .unset] [(.int (0 : Int32)), (.ref b115), (.long q2)])) rfl rfl (hb hby at_171) _ k) ?_
        show own_Goes p e below s _ _ (T288.setTop (mkF m 172 #[own_jv q0, .second, own_jv q1, .second, own_jv q2, .second, iv p3, iv p4, iv p5, iv (2 : Int32), iv (0 : Int32), iv (0 : Int32), rv b102, rv b111, rv b115, rv b119, .unset] [(.long q2), (.long q2)]))
        refine own_st (fun _ k => XS.lcmp X288.here hx rfl (hb hby at_172) rfl k) ?_
        show own_Goes p e below s _ _ (T288.setTop (mkF m 173 #[own_jv q0, .second, own_jv q1, .second, own_jv q2, .second, iv p3, iv p4, iv p5, iv (2 : Int32), iv (0 : Int32), iv (0 : Int32), rv b102, rv b111, rv b115, rv b119, .unset] [(.int (lcmpW q2 q2))]))
        refine own_st (fun _ k => XS.ifNo X288.here hx rfl (hb hby at_173) rfl ((if0 _ _).trans (teq ((lw_eq _ _).mpr (rfl : q2 = q2))).2) k) ?_
        show own_Goes p e below s _ _ (T288.setTop (mkF m 176 #[own_jv q0, .second, own_jv q1, .second, own_jv q2, .second, iv p3, iv p4, iv p5, iv (2 : Int32), iv (0 : Int32), iv (0 : Int32), rv b102, rv b111, rv b115, rv b119, .unset] []))
        refine own_st (fun _ k => XS.aload X288.here hx rfl (hb hby at_176) rfl rfl  k) ?_
        show own_Goes p e below s _ _ (T288.setTop (mkF m 178 #[own_jv q0, .second, own_jv q1, .second, own_jv q2, .second, iv p3, iv p4, iv p5, iv (2 : Int32), iv (0 : Int32), iv (0 : Int32), rv b102, rv b111, rv b115, rv b119, .unset] [(.ref b119)]))
        refine own_st (fun _ k => XS.iconst X288.here hx rfl (hb hby at_178) k) ?_
        show own_Goes p e below s _ _ (T288.setTop (mkF m 179 #[own_jv q0, .second, own_jv q1, .second, own_jv q2, .second, iv p3, iv p4, iv p5, iv (2 : Int32), iv (0 : Int32), iv (0 : Int32), rv b102, rv b111, rv b115, rv b119, .unset] [(.int (1 : Int32)), (.ref b119)]))
        obtain ⟨v294, T294, L294, X294, Q294, st294⟩ := own_callV X288 hx hZ (C := "com/example/reach2/reach2/model/CodedColumn") (y := (⟨"com/example/reach2/reach2/model/CodedColumn", "get", "(I)J"⟩ : MethodName)) hown (hw _ (List.mem_of_getElem? (i := 43) rfl)) (hw _ (List.mem_of_getElem? (i := 44) rfl)) (hw _ (List.mem_of_getElem? (i := 46) rfl)) (hw _ (List.mem_of_getElem? (i := 45) rfl)) (hw _ (List.mem_of_getElem? (i := 3) rfl)) (hw _ (List.mem_of_getElem? (i := 47) rfl)) (by decide) (W := 0) (rest := []) (argsL := [(.int (1 : Int32))]) (a := b119) (rmGet l Z a0 hw [] b119 (1 : Int32) _ _ _ _ T282.heap n0 (by omega) f289 f290 Vt282 f291 (by decide)) (by decide) (by decide) (by decide) (by decide) e288 f292 own_pd6 rfl (g := (mkF m 179 #[own_jv q0, .second, own_jv q1, .second, own_jv q2, .second, iv p3, iv p4, iv p5, iv (2 : Int32), iv (0 : Int32), iv (0 : Int32), rv b102, rv b111, rv b115, rv b119, .unset] [(.int (1 : Int32)), (.ref b119)])) rfl (by rw [hml]; rfl) rfl (by show 2 * 0 + _ ≤ _; exact Nat.le_of_eq rfl) (hb hby at_179)
        obtain ⟨g294, rfl, hg294, N294q, e294⟩ := Q294
        obtain rfl : q0 = g294 := (hg294.trans (own_at0 (by omega) ((rf109 _ (by omega)).trans ((rf107 _ (by omega)).trans re104)))).symm
        have N294 := Fr.app N288 N294q
        refine own_st st294 ?_
        show own_Goes p e below s _ _ (T294.setTop (mkF m 182 #[own_jv q0, .second, own_jv q1, .second, own_jv q2, .second, iv p3, iv p4, iv p5, iv (2 : Int32), iv (0 : Int32), iv (0 : Int32), rv b102, rv b111, rv b115, rv b119, .unset] [(.long q0)]))
        refine own_st (fun _ k => XS.aload X294.here hx rfl (hb hby at_182) rfl rfl  k) ?_
        show own_Goes p e below s _ _ (T294.setTop (mkF m 184 #[own_jv q0, .second, own_jv q1, .second, own_jv q2, .second, iv p3, iv p4, iv p5, iv (2 : Int32), iv (0 : Int32), iv (0 : Int32), rv b102, rv b111, rv b115, rv b119, .unset] [(.ref b115), (.long q0)]))
        refine own_st (fun _ k => XS.iconst X294.here hx rfl (hb hby at_184) k) ?_
        show own_Goes p e below s _ _ (T294.setTop (mkF m 185 #[own_jv q0, .second, own_jv q1, .second, own_jv q2, .second, iv p3, iv p4, iv p5, iv (2 : Int32), iv (0 : Int32), iv (0 : Int32), rv b102, rv b111, rv b115, rv b119, .unset] [(.int (1 : Int32)), (.ref b115), (.long q0)]))
        refine own_st (fun _ k => own_ldJ X294 hx hZ e294 f293 (j := (1 : Int32)) (by decide) (g := (mkF m 185 #[own_jv q0, .second, own_jv q1, .second, own_jv q2, .second, iv p3, iv p4, iv p5, iv (2 : Int32), iv (0 : Int32), iv (0 : Int32), rv b102, rv b111, rv b115, rv b119, .unset] [(.int (1 : Int32)), (.ref b115), (.long q0)])) rfl rfl (hb hby at_185) _ k) ?_
        show own_Goes p e below s _ _ (T294.setTop (mkF m 186 #[own_jv q0, .second, own_jv q1, .second, own_jv q2, .second, iv p3, iv p4, iv p5, iv (2 : Int32), iv (0 : Int32), iv (0 : Int32), rv b102, rv b111, rv b115, rv b119, .unset] [(.long q0), (.long q0)]))
        refine own_st (fun _ k => XS.lcmp X294.here hx rfl (hb hby at_186) rfl k) ?_
        show own_Goes p e below s _ _ (T294.setTop (mkF m 187 #[own_jv q0, .second, own_jv q1, .second, own_jv q2, .second, iv p3, iv p4, iv p5, iv (2 : Int32), iv (0 : Int32), iv (0 : Int32), rv b102, rv b111, rv b115, rv b119, .unset] [(.int (lcmpW q0 q0))]))
        refine own_st (fun _ k => XS.ifNo X294.here hx rfl (hb hby at_187) rfl ((if0 _ _).trans (teq ((lw_eq _ _).mpr (rfl : q0 = q0))).2) k) ?_
        show own_Goes p e below s _ _ (T294.setTop (mkF m 190 #[own_jv q0, .second, own_jv q1, .second, own_jv q2, .second, iv p3, iv p4, iv p5, iv (2 : Int32), iv (0 : Int32), iv (0 : Int32), rv b102, rv b111, rv b115, rv b119, .unset] []))
        refine own_st (fun _ k => XS.aload X294.here hx rfl (hb hby at_190) rfl rfl  k) ?_
        show own_Goes p e below s _ _ (T294.setTop (mkF m 192 #[own_jv q0, .second, own_jv q1, .second, own_jv q2, .second, iv p3, iv p4, iv p5, iv (2 : Int32), iv (0 : Int32), iv (0 : Int32), rv b102, rv b111, rv b115, rv b119, .unset] [(.ref b119)]))
        refine own_st (fun _ k => XS.iconst X294.here hx rfl (hb hby at_192) k) ?_
        show own_Goes p e below s _ _ (T294.setTop (mkF m 193 #[own_jv q0, .second, own_jv q1, .second, own_jv q2, .second, iv p3, iv p4, iv p5, iv (2 : Int32), iv (0 : Int32), iv (0 : Int32), rv b102, rv b111, rv b115, rv b119, .unset] [(.int (2 : Int32)), (.ref b119)]))
        obtain ⟨v295, T295, L295, X295, Q295, st295⟩ := own_callV X294 hx hZ (C := "com/example/reach2/reach2/model/CodedColumn") (y := (⟨"com/example/reach2/reach2/model/CodedColumn", "get", "(I)J"⟩ : MethodName)) hown (hw _ (List.mem_of_getElem? (i := 43) rfl)) (hw _ (List.mem_of_getElem? (i := 44) rfl)) (hw _ (List.mem_of_getElem? (i := 46) rfl)) (hw _ (List.mem_of_getElem? (i := 45) rfl)) (hw _ (List.mem_of_getElem? (i := 3) rfl)) (hw _ (List.mem_of_getElem? (i := 47) rfl)) (by decide) (W := 0) (rest := []) (argsL := [(.int (2 : Int32))]) (a := b119) (rmGet l Z a0 hw [] b119 (2 : Int32) _ _ _ _ T282.heap n0 (by omega) f289 f290 Vt282 f291 (by decide)) (by decide) (by decide) (by decide) (by decide) e294 f292 own_pd6 rfl (g := (mkF m 193 #[own_jv q0, .second, own_jv q1, .second, own_jv q2, .second, iv p3, iv p4, iv p5, iv (2 : Int32), iv (0 : Int32), iv (0 : Int32), rv b102, rv b111, rv b115, rv b119, .unset] [(.int (2 : Int32)), (.ref b119)])) rfl (by rw [hml]; rfl) rfl (by show 2 * 0 + _ ≤ _; exact Nat.le_of_eq rfl) (hb hby at_193)
        obtain ⟨g295, rfl, hg295, N295q, e295⟩ := Q295
        obtain rfl : q0 = g295 := (hg295.trans (own_at0 (by omega) ((rf109 _ (by omega)).trans ((rf107 _ (by omega)).trans re104)))).symm
        have N295 := Fr.app N294 N295q
        refine own_st st295 ?_
        show own_Goes p e below s _ _ (T295.setTop (mkF m 196 #[own_jv q0, .second, own_jv q1, .second, own_jv q2, .second, iv p3, iv p4, iv p5, iv (2 : Int32), iv (0 : Int32), iv (0 : Int32), rv b102, rv b111, rv b115, rv b119, .unset] [(.long q0)]))
        refine own_st (fun _ k => XS.aload X295.here hx rfl (hb hby at_196) rfl rfl  k) ?_
        show own_Goes p e below s _ _ (T295.setTop (mkF m 198 #[own_jv q0, .second, own_jv q1, .second, own_jv q2, .second, iv p3, iv p4, iv p5, iv (2 : Int32), iv (0 : Int32), iv (0 : Int32), rv b102, rv b111, rv b115, rv b119, .unset] [(.ref b115), (.long q0)]))
        refine own_st (fun _ k => XS.iconst X295.here hx rfl (hb hby at_198) k) ?_
        show own_Goes p e below s _ _ (T295.setTop (mkF m 199 #[own_jv q0, .second, own_jv q1, .second, own_jv q2, .second, iv p3, iv p4, iv p5, iv (2 : Int32), iv (0 : Int32), iv (0 : Int32), rv b102, rv b111, rv b115, rv b119, .unset] [(.int (2 : Int32)), (.ref b115), (.long q0)]))
        refine own_st (fun _ k => own_ldJ X295 hx hZ e295 f293 (j := (2 : Int32)) (by decide) (g := (mkF m 199 #[own_jv q0, .second, own_jv q1, .second, own_jv q2, .second, iv p3, iv p4, iv p5, iv (2 : Int32), iv (0 : Int32), iv (0 : Int32), rv b102, rv b111, rv b115, rv b119, .unset] [(.int (2 : Int32)), (.ref b115), (.long q0)])) rfl rfl (hb hby at_199) _ k) ?_
        show own_Goes p e below s _ _ (T295.setTop (mkF m 200 #[own_jv q0, .second, own_jv q1, .second, own_jv q2, .second, iv p3, iv p4, iv p5, iv (2 : Int32), iv (0 : Int32), iv (0 : Int32), rv b102, rv b111, rv b115, rv b119, .unset] [(.long q0), (.long q0)]))
        refine own_st (fun _ k => XS.lcmp X295.here hx rfl (hb hby at_200) rfl k) ?_
        show own_Goes p e below s _ _ (T295.setTop (mkF m 201 #[own_jv q0, .second, own_jv q1, .second, own_jv q2, .second, iv p3, iv p4, iv p5, iv (2 : Int32), iv (0 : Int32), iv (0 : Int32), rv b102, rv b111, rv b115, rv b119, .unset] [(.int (lcmpW q0 q0))]))
        refine own_st (fun _ k => XS.ifNo X295.here hx rfl (hb hby at_201) rfl ((if0 _ _).trans (teq ((lw_eq _ _).mpr (rfl : q0 = q0))).2) k) ?_
        show own_Goes p e below s _ _ (T295.setTop (mkF m 204 #[own_jv q0, .second, own_jv q1, .second, own_jv q2, .second, iv p3, iv p4, iv p5, iv (2 : Int32), iv (0 : Int32), iv (0 : Int32), rv b102, rv b111, rv b115, rv b119, .unset] []))
        refine own_st (fun _ k => XS.iconst X295.here hx rfl (hb hby at_204) k) ?_
        show own_Goes p e below s _ _ (T295.setTop (mkF m 205 #[own_jv q0, .second, own_jv q1, .second, own_jv q2, .second, iv p3, iv p4, iv p5, iv (2 : Int32), iv (0 : Int32), iv (0 : Int32), rv b102, rv b111, rv b115, rv b119, .unset] [(.int (1 : Int32))]))
        refine own_st (fun _ k => XS.goto X295.here hx rfl (pc0 := 205) (pc' := 209) rfl (hb hby at_205) (by decide) (by decide) k) ?_
        show own_Goes p e below s _ _ (T295.setTop (mkF m 209 #[own_jv q0, .second, own_jv q1, .second, own_jv q2, .second, iv p3, iv p4, iv p5, iv (2 : Int32), iv (0 : Int32), iv (0 : Int32), rv b102, rv b111, rv b115, rv b119, .unset] [(.int (1 : Int32))]))
        refine own_st (fun _ k => XS.istore X295.here hx rfl (hb hby at_209) rfl (l' := #[own_jv q0, .second, own_jv q1, .second, own_jv q2, .second, iv p3, iv p4, iv p5, iv (2 : Int32), iv (0 : Int32), iv (0 : Int32), rv b102, rv b111, rv b115, rv b119, iv (1 : Int32)]) rfl k) ?_
        show own_Goes p e below s _ _ (T295.setTop (mkF m 211 #[own_jv q0, .second, own_jv q1, .second, own_jv q2, .second, iv p3, iv p4, iv p5, iv (2 : Int32), iv (0 : Int32), iv (0 : Int32), rv b102, rv b111, rv b115, rv b119, iv (1 : Int32)] []))
        refine own_st (fun _ k => XS.iload X295.here hx rfl (hb hby at_211) rfl  k) ?_
        show own_Goes p e below s _ _ (T295.setTop (mkF m 213 #[own_jv q0, .second, own_jv q1, .second, own_jv q2, .second, iv p3, iv p4, iv p5, iv (2 : Int32), iv (0 : Int32), iv (0 : Int32), rv b102, rv b111, rv b115, rv b119, iv (1 : Int32)] [(.int (0 : Int32))]))
        refine own_st (fun _ k => XS.ifNo X295.here hx rfl (hb hby at_213) rfl ((if0 _ _).trans (teq (by decide : (0 : Int32) = (0 : Int32))).2) k) ?_
        show own_Goes p e below s _ _ (T295.setTop (mkF m 216 #[own_jv q0, .second, own_jv q1, .second, own_jv q2, .second, iv p3, iv p4, iv p5, iv (2 : Int32), iv (0 : Int32), iv (0 : Int32), rv b102, rv b111, rv b115, rv b119, iv (1 : Int32)] []))
        refine own_st (fun _ k => XS.iload X295.here hx rfl (hb hby at_216) rfl  k) ?_
        show own_Goes p e below s _ _ (T295.setTop (mkF m 218 #[own_jv q0, .second, own_jv q1, .second, own_jv q2, .second, iv p3, iv p4, iv p5, iv (2 : Int32), iv (0 : Int32), iv (0 : Int32), rv b102, rv b111, rv b115, rv b119, iv (1 : Int32)] [(.int (1 : Int32))]))
        refine own_st (fun _ k => XS.ifNo X295.here hx rfl (hb hby at_218) rfl ((if0 _ _).trans (feq (by decide : ¬ ((1 : Int32) = (0 : Int32)))).1) k) ?_
        show own_Goes p e below s _ _ (T295.setTop (mkF m 221 #[own_jv q0, .second, own_jv q1, .second, own_jv q2, .second, iv p3, iv p4, iv p5, iv (2 : Int32), iv (0 : Int32), iv (0 : Int32), rv b102, rv b111, rv b115, rv b119, iv (1 : Int32)] []))
        refine own_st (fun _ k => XS.aload X295.here hx rfl (hb hby at_221) rfl rfl  k) ?_
        show own_Goes p e below s _ _ (T295.setTop (mkF m 223 #[own_jv q0, .second, own_jv q1, .second, own_jv q2, .second, iv p3, iv p4, iv p5, iv (2 : Int32), iv (0 : Int32), iv (0 : Int32), rv b102, rv b111, rv b115, rv b119, iv (1 : Int32)] [(.ref b102)]))
        refine own_st (fun _ k => XS.iconst X295.here hx rfl (hb hby at_223) k) ?_
        show own_Goes p e below s _ _ (T295.setTop (mkF m 224 #[own_jv q0, .second, own_jv q1, .second, own_jv q2, .second, iv p3, iv p4, iv p5, iv (2 : Int32), iv (0 : Int32), iv (0 : Int32), rv b102, rv b111, rv b115, rv b119, iv (1 : Int32)] [(.int (0 : Int32)), (.ref b102)]))
        have f297 := (f283.keep K282 (ninS (own_ne (by omega)) nin0))
        have f298 := (((f121.keep K119 nin0).other W281 (Or.inl (own_ne (by omega)))).keep K282 (ninS (own_ne (by omega)) nin0))
        have f299 := (f285.keep K282 (ninS (own_ne (by omega)) nin0))
        have f300 := (((f124.keep K119 nin0).other W281 (own_ne (by omega))).keep K282 (ninS (own_ne (by omega)) nin0))
        have f301 := (f287.keep K282)
        obtain ⟨v296, T296, L296, X296, Q296, st296⟩ := own_callV X295 hx hZ (C := "com/example/reach2/reach2/model/CodedColumn") (y := (⟨"com/example/reach2/reach2/model/CodedColumn", "get", "(I)J"⟩ : MethodName)) hown (hw _ (List.mem_of_getElem? (i := 43) rfl)) (hw _ (List.mem_of_getElem? (i := 44) rfl)) (hw _ (List.mem_of_getElem? (i := 46) rfl)) (hw _ (List.mem_of_getElem? (i := 45) rfl)) (hw _ (List.mem_of_getElem? (i := 3) rfl)) (hw _ (List.mem_of_getElem? (i := 47) rfl)) (by decide) (W := 0) (rest := []) (argsL := [(.int (0 : Int32))]) (a := b102) (rmGet l Z a0 hw [] b102 (0 : Int32) _ _ _ _ T282.heap n0 (by omega) f297 f298 f299 f300 (by decide)) (by decide) (by decide) (by decide) (by decide) e295 f301 own_pd6 rfl (g := (mkF m 224 #[own_jv q0, .second, own_jv q1, .second, own_jv q2, .second, iv p3, iv p4, iv p5, iv (2 : Int32), iv (0 : Int32), iv (0 : Int32), rv b102, rv b111, rv b115, rv b119, iv (1 : Int32)] [(.int (0 : Int32)), (.ref b102)])) rfl (by rw [hml]; rfl) rfl (by show 2 * 0 + _ ≤ _; exact Nat.le_of_eq rfl) (hb hby at_224)
        obtain ⟨g296, rfl, hg296, N296q, e296⟩ := Q296
        obtain rfl : q0 = g296 := (hg296.trans (own_at (by omega) ((rf109 _ (by omega)).trans ((rf107 _ (by omega)).trans re104)))).symm
        have N296 := Fr.app N295 N296q
        refine own_st st296 ?_
        show own_Goes p e below s _ _ (T296.setTop (mkF m 227 #[own_jv q0, .second, own_jv q1, .second, own_jv q2, .second, iv p3, iv p4, iv p5, iv (2 : Int32), iv (0 : Int32), iv (0 : Int32), rv b102, rv b111, rv b115, rv b119, iv (1 : Int32)] [(.long q0)]))
        refine own_st (fun _ k => XS.lloadN X296.here hx rfl (hb hby at_227) rfl  k) ?_
        show own_Goes p e below s _ _ (T296.setTop (mkF m 228 #[own_jv q0, .second, own_jv q1, .second, own_jv q2, .second, iv p3, iv p4, iv p5, iv (2 : Int32), iv (0 : Int32), iv (0 : Int32), rv b102, rv b111, rv b115, rv b119, iv (1 : Int32)] [(.long q0), (.long q0)]))
        refine own_st (fun _ k => XS.lcmp X296.here hx rfl (hb hby at_228) rfl k) ?_
        show own_Goes p e below s _ _ (T296.setTop (mkF m 229 #[own_jv q0, .second, own_jv q1, .second, own_jv q2, .second, iv p3, iv p4, iv p5, iv (2 : Int32), iv (0 : Int32), iv (0 : Int32), rv b102, rv b111, rv b115, rv b119, iv (1 : Int32)] [(.int (lcmpW q0 q0))]))
        refine own_st (fun _ k => XS.ifNo X296.here hx rfl (hb hby at_229) rfl ((if0 _ _).trans (teq ((lw_eq _ _).mpr (rfl : q0 = q0))).2) k) ?_
        show own_Goes p e below s _ _ (T296.setTop (mkF m 232 #[own_jv q0, .second, own_jv q1, .second, own_jv q2, .second, iv p3, iv p4, iv p5, iv (2 : Int32), iv (0 : Int32), iv (0 : Int32), rv b102, rv b111, rv b115, rv b119, iv (1 : Int32)] []))
        refine own_st (fun _ k => XS.aload X296.here hx rfl (hb hby at_232) rfl rfl  k) ?_
        show own_Goes p e below s _ _ (T296.setTop (mkF m 234 #[own_jv q0, .second, own_jv q1, .second, own_jv q2, .second, iv p3, iv p4, iv p5, iv (2 : Int32), iv (0 : Int32), iv (0 : Int32), rv b102, rv b111, rv b115, rv b119, iv (1 : Int32)] [(.ref b102)]))
        refine own_st (fun _ k => XS.iconst X296.here hx rfl (hb hby at_234) k) ?_
        show own_Goes p e below s _ _ (T296.setTop (mkF m 235 #[own_jv q0, .second, own_jv q1, .second, own_jv q2, .second, iv p3, iv p4, iv p5, iv (2 : Int32), iv (0 : Int32), iv (0 : Int32), rv b102, rv b111, rv b115, rv b119, iv (1 : Int32)] [(.int (1 : Int32)), (.ref b102)]))
        obtain ⟨v302, T302, L302, X302, Q302, st302⟩ := own_callV X296 hx hZ (C := "com/example/reach2/reach2/model/CodedColumn") (y := (⟨"com/example/reach2/reach2/model/CodedColumn", "get", "(I)J"⟩ : MethodName)) hown (hw _ (List.mem_of_getElem? (i := 43) rfl)) (hw _ (List.mem_of_getElem? (i := 44) rfl)) (hw _ (List.mem_of_getElem? (i := 46) rfl)) (hw _ (List.mem_of_getElem? (i := 45) rfl)) (hw _ (List.mem_of_getElem? (i := 3) rfl)) (hw _ (List.mem_of_getElem? (i := 47) rfl)) (by decide) (W := 0) (rest := []) (argsL := [(.int (1 : Int32))]) (a := b102) (rmGet l Z a0 hw [] b102 (1 : Int32) _ _ _ _ T282.heap n0 (by omega) f297 f298 f299 f300 (by decide)) (by decide) (by decide) (by decide) (by decide) e296 f301 own_pd6 rfl (g := (mkF m 235 #[own_jv q0, .second, own_jv q1, .second, own_jv q2, .second, iv p3, iv p4, iv p5, iv (2 : Int32), iv (0 : Int32), iv (0 : Int32), rv b102, rv b111, rv b115, rv b119, iv (1 : Int32)] [(.int (1 : Int32)), (.ref b102)])) rfl (by rw [hml]; rfl) rfl (by show 2 * 0 + _ ≤ _; exact Nat.le_of_eq rfl) (hb hby at_235)
        obtain ⟨g302, rfl, hg302, N302q, e302⟩ := Q302
        obtain rfl : q1 = g302 := (hg302.trans (own_at (by omega) ((rf109 _ (by omega)).trans re107))).symm
        have N302 := Fr.app N296 N302q
        refine own_st st302 ?_
        show own_Goes p e below s _ _ (T302.setTop (mkF m 238 #[own_jv q0, .second, own_jv q1, .second, own_jv q2, .second, iv p3, iv p4, iv p5, iv (2 : Int32), iv (0 : Int32), iv (0 : Int32), rv b102, rv b111, rv b115, rv b119, iv (1 : Int32)] [(.long q1)]))
        refine own_st (fun _ k => XS.lloadN X302.here hx rfl (hb hby at_238) rfl  k) ?_
        show own_Goes p e below s _ _ (T302.setTop (mkF m 239 #[own_jv q0, .second, own_jv q1, .second, own_jv q2, .second, iv p3, iv p4, iv p5, iv (2 : Int32), iv (0 : Int32), iv (0 : Int32), rv b102, rv b111, rv b115, rv b119, iv (1 : Int32)] [(.long q1), (.long q1)]))
        refine own_st (fun _ k => XS.lcmp X302.here hx rfl (hb hby at_239) rfl k) ?_
        show own_Goes p e below s _ _ (T302.setTop (mkF m 240 #[own_jv q0, .second, own_jv q1, .second, own_jv q2, .second, iv p3, iv p4, iv p5, iv (2 : Int32), iv (0 : Int32), iv (0 : Int32), rv b102, rv b111, rv b115, rv b119, iv (1 : Int32)] [(.int (lcmpW q1 q1))]))
        refine own_st (fun _ k => XS.ifNo X302.here hx rfl (hb hby at_240) rfl ((if0 _ _).trans (teq ((lw_eq _ _).mpr (rfl : q1 = q1))).2) k) ?_
        show own_Goes p e below s _ _ (T302.setTop (mkF m 243 #[own_jv q0, .second, own_jv q1, .second, own_jv q2, .second, iv p3, iv p4, iv p5, iv (2 : Int32), iv (0 : Int32), iv (0 : Int32), rv b102, rv b111, rv b115, rv b119, iv (1 : Int32)] []))
        refine own_st (fun _ k => XS.aload X302.here hx rfl (hb hby at_243) rfl rfl  k) ?_
        show own_Goes p e below s _ _ (T302.setTop (mkF m 245 #[own_jv q0, .second, own_jv q1, .second, own_jv q2, .second, iv p3, iv p4, iv p5, iv (2 : Int32), iv (0 : Int32), iv (0 : Int32), rv b102, rv b111, rv b115, rv b119, iv (1 : Int32)] [(.ref b102)]))
        refine own_st (fun _ k => XS.iconst X302.here hx rfl (hb hby at_245) k) ?_
        show own_Goes p e below s _ _ (T302.setTop (mkF m 246 #[own_jv q0, .second, own_jv q1, .second, own_jv q2, .second, iv p3, iv p4, iv p5, iv (2 : Int32), iv (0 : Int32), iv (0 : Int32), rv b102, rv b111, rv b115, rv b119, iv (1 : Int32)] [(.int (2 : Int32)), (.ref b102)]))
        obtain ⟨v303, T303, L303, X303, Q303, st303⟩ := own_callV X302 hx hZ (C := "com/example/reach2/reach2/model/CodedColumn") (y := (⟨"com/example/reach2/reach2/model/CodedColumn", "get", "(I)J"⟩ : MethodName)) hown (hw _ (List.mem_of_getElem? (i := 43) rfl)) (hw _ (List.mem_of_getElem? (i := 44) rfl)) (hw _ (List.mem_of_getElem? (i := 46) rfl)) (hw _ (List.mem_of_getElem? (i := 45) rfl)) (hw _ (List.mem_of_getElem? (i := 3) rfl)) (hw _ (List.mem_of_getElem? (i := 47) rfl)) (by decide) (W := 0) (rest := []) (argsL := [(.int (2 : Int32))]) (a := b102) (rmGet l Z a0 hw [] b102 (2 : Int32) _ _ _ _ T282.heap n0 (by omega) f297 f298 f299 f300 (by decide)) (by decide) (by decide) (by decide) (by decide) e302 f301 own_pd6 rfl (g := (mkF m 246 #[own_jv q0, .second, own_jv q1, .second, own_jv q2, .second, iv p3, iv p4, iv p5, iv (2 : Int32), iv (0 : Int32), iv (0 : Int32), rv b102, rv b111, rv b115, rv b119, iv (1 : Int32)] [(.int (2 : Int32)), (.ref b102)])) rfl (by rw [hml]; rfl) rfl (by show 2 * 0 + _ ≤ _; exact Nat.le_of_eq rfl) (hb hby at_246)
        obtain ⟨g303, rfl, hg303, N303q, e303⟩ := Q303
        obtain rfl : q2 = g303 := (hg303.trans (own_at (by omega) re109)).symm
        have N303 := Fr.app N302 N303q
        refine own_st st303 ?_
        show own_Goes p e below s _ _ (T303.setTop (mkF m 249 #[own_jv q0, .second, own_jv q1, .second, own_jv q2, .second, iv p3, iv p4, iv p5, iv (2 : Int32), iv (0 : Int32), iv (0 : Int32), rv b102, rv b111, rv b115, rv b119, iv (1 : Int32)] [(.long q2)]))
        refine own_st (fun _ k => XS.lload X303.here hx rfl (hb hby at_249) rfl  k) ?_
        show own_Goes p e below s _ _ (T303.setTop (mkF m 251 #[own_jv q0, .second, own_jv q1, .second, own_jv q2, .second, iv p3, iv p4, iv p5, iv (2 : Int32), iv (0 : Int32), iv (0 : Int32), rv b102, rv b111, rv b115, rv b119, iv (1 : Int32)] [(.long q2), (.long q2)]))
        refine own_st (fun _ k => XS.lcmp X303.here hx rfl (hb hby at_251) rfl k) ?_
        show own_Goes p e below s _ _ (T303.setTop (mkF m 252 #[own_jv q0, .second, own_jv q1, .second, own_jv q2, .second, iv p3, iv p4, iv p5, iv (2 : Int32), iv (0 : Int32), iv (0 : Int32), rv b102, rv b111, rv b115, rv b119, iv (1 : Int32)] [(.int (lcmpW q2 q2))]))
        refine own_st (fun _ k => XS.ifNo X303.here hx rfl (hb hby at_252) rfl ((if0 _ _).trans (teq ((lw_eq _ _).mpr (rfl : q2 = q2))).2) k) ?_
        show own_Goes p e below s _ _ (T303.setTop (mkF m 255 #[own_jv q0, .second, own_jv q1, .second, own_jv q2, .second, iv p3, iv p4, iv p5, iv (2 : Int32), iv (0 : Int32), iv (0 : Int32), rv b102, rv b111, rv b115, rv b119, iv (1 : Int32)] []))
        refine own_st (fun _ k => XS.iconst X303.here hx rfl (hb hby at_255) k) ?_
        show own_Goes p e below s _ _ (T303.setTop (mkF m 256 #[own_jv q0, .second, own_jv q1, .second, own_jv q2, .second, iv p3, iv p4, iv p5, iv (2 : Int32), iv (0 : Int32), iv (0 : Int32), rv b102, rv b111, rv b115, rv b119, iv (1 : Int32)] [(.int (1 : Int32))]))
        refine own_st (fun _ k => XS.goto X303.here hx rfl (pc0 := 256) (pc' := 260) rfl (hb hby at_256) (by decide) (by decide) k) ?_
        show own_Goes p e below s _ _ (T303.setTop (mkF m 260 #[own_jv q0, .second, own_jv q1, .second, own_jv q2, .second, iv p3, iv p4, iv p5, iv (2 : Int32), iv (0 : Int32), iv (0 : Int32), rv b102, rv b111, rv b115, rv b119, iv (1 : Int32)] [(.int (1 : Int32))]))
        refine own_st (fun _ k => XS.istore X303.here hx rfl (hb hby at_260) rfl (l' := #[own_jv q0, .second, own_jv q1, .second, own_jv q2, .second, iv p3, iv p4, iv p5, iv (2 : Int32), iv (0 : Int32), iv (0 : Int32), rv b102, rv b111, rv b115, rv b119, iv (1 : Int32)]) rfl k) ?_
        show own_Goes p e below s _ _ (T303.setTop (mkF m 262 #[own_jv q0, .second, own_jv q1, .second, own_jv q2, .second, iv p3, iv p4, iv p5, iv (2 : Int32), iv (0 : Int32), iv (0 : Int32), rv b102, rv b111, rv b115, rv b119, iv (1 : Int32)] []))
        refine own_st (fun _ k => XS.iload X303.here hx rfl (hb hby at_262) rfl  k) ?_
        show own_Goes p e below s _ _ (T303.setTop (mkF m 264 #[own_jv q0, .second, own_jv q1, .second, own_jv q2, .second, iv p3, iv p4, iv p5, iv (2 : Int32), iv (0 : Int32), iv (0 : Int32), rv b102, rv b111, rv b115, rv b119, iv (1 : Int32)] [(.int (1 : Int32))]))
        exact own_retN X303 hx hlk (1 : Int32) hret (Or.inl rfl) rfl (hb hby at_264) (by decide) (by decide) ⟨rfl, N303⟩
      · show own_Goes p e below s _ _ (T119.setTop (mkF m 141 #[own_jv q0, .second, own_jv q1, .second, own_jv q2, .second, iv p3, iv p4, iv p5, iv (2 : Int32), iv (1 : Int32), iv (0 : Int32), rv b102, rv b111, rv b115, rv b119, .unset] []))
        refine own_st (fun _ k => XS.aload X119.here hx rfl (hb hby at_141) rfl rfl  k) ?_
        show own_Goes p e below s _ _ (T119.setTop (mkF m 143 #[own_jv q0, .second, own_jv q1, .second, own_jv q2, .second, iv p3, iv p4, iv p5, iv (2 : Int32), iv (1 : Int32), iv (0 : Int32), rv b102, rv b111, rv b115, rv b119, .unset] [(.ref b115)]))
        refine own_st (fun _ k => XS.iload X119.here hx rfl (hb hby at_143) rfl  k) ?_
        show own_Goes p e below s _ _ (T119.setTop (mkF m 145 #[own_jv q0, .second, own_jv q1, .second, own_jv q2, .second, iv p3, iv p4, iv p5, iv (2 : Int32), iv (1 : Int32), iv (0 : Int32), rv b102, rv b111, rv b115, rv b119, .unset] [(.int (1 : Int32)), (.ref b115)]))
        refine own_st (fun _ k => XS.aload X119.here hx rfl (hb hby at_145) rfl rfl  k) ?_
        show own_Goes p e below s _ _ (T119.setTop (mkF m 147 #[own_jv q0, .second, own_jv q1, .second, own_jv q2, .second, iv p3, iv p4, iv p5, iv (2 : Int32), iv (1 : Int32), iv (0 : Int32), rv b102, rv b111, rv b115, rv b119, .unset] [(.ref b111), (.int (1 : Int32)), (.ref b115)]))
        refine own_st (fun _ k => XS.iload X119.here hx rfl (hb hby at_147) rfl  k) ?_
        show own_Goes p e below s _ _ (T119.setTop (mkF m 149 #[own_jv q0, .second, own_jv q1, .second, own_jv q2, .second, iv p3, iv p4, iv p5, iv (2 : Int32), iv (1 : Int32), iv (0 : Int32), rv b102, rv b111, rv b115, rv b119, .unset] [(.int (2 : Int32)), (.ref b111), (.int (1 : Int32)), (.ref b115)]))
        have f304 := (((((V114.ext E115).other W116 (own_ne (by omega))).other W117 (own_ne (by omega))).other W118 (own_ne (by omega))).keep K119 nin0)
        refine own_st (fun _ k => own_ldJ X119 hx hZ rfl f304 (j := (2 : Int32)) (by decide) (g := (mkF m 149 #[own_jv q0, .second, own_jv q1, .second, own_jv q2, .second, iv p3, iv p4, iv p5, iv (2 : Int32), iv (1 : Int32), iv (0 : Int32), rv b102, rv b111, rv b115, rv b119, .unset] [(.int (2 : Int32)), (.ref b111), (.int (1 : Int32)), (.ref b115)])) rfl rfl (hb hby at_149) _ k) ?_
        show own_Goes p e below s _ _ (T119.setTop (mkF m 150 #[own_jv q0, .second, own_jv q1, .second, own_jv q2, .second, iv p3, iv p4, iv p5, iv (2 : Int32), iv (1 : Int32), iv (0 : Int32), rv b102, rv b111, rv b115, rv b119, .unset] [(.long q2), (.int (1 : Int32)), (.ref b115)]))
        have f305 := (V118.keep K119 nin0)
        obtain ⟨T306, h306, X306, e306, W306, A306, st306⟩ := own_stJ X119 hx hZ rfl f305 (j := (1 : Int32)) (by decide) (g := (mkF m 150 #[own_jv q0, .second, own_jv q1, .second, own_jv q2, .second, iv p3, iv p4, iv p5, iv (2 : Int32), iv (1 : Int32), iv (0 : Int32), rv b102, rv b111, rv b115, rv b119, .unset] [(.long q2), (.int (1 : Int32)), (.ref b115)])) rfl rfl (hb hby at_150)
        have V306 : own_Arf Z h306 b115 .long 3 (fun k => .long ((fun k => if k = 1 then q2 else (fun k => if k = 2 then q0 else (fun k => if k = 1 then q0 else (fun k => if k = 0 then q0 else (fun _ => (0 : Int64)) k) k) k) k) k)) := A306
        have z306 := W306.size
        have N306 := Fr.snoc X306 N119 (by omega)
        refine own_st st306 ?_
        show own_Goes p e below s _ _ (T306.setTop (mkF m 151 #[own_jv q0, .second, own_jv q1, .second, own_jv q2, .second, iv p3, iv p4, iv p5, iv (2 : Int32), iv (1 : Int32), iv (0 : Int32), rv b102, rv b111, rv b115, rv b119, .unset] []))
        refine own_st (fun _ k => XS.aload X306.here hx rfl (hb hby at_151) rfl rfl  k) ?_
        show own_Goes p e below s _ _ (T306.setTop (mkF m 153 #[own_jv q0, .second, own_jv q1, .second, own_jv q2, .second, iv p3, iv p4, iv p5, iv (2 : Int32), iv (1 : Int32), iv (0 : Int32), rv b102, rv b111, rv b115, rv b119, .unset] [(.ref b102)]))
        refine own_st (fun _ k => XS.iload X306.here hx rfl (hb hby at_153) rfl  k) ?_
        show own_Goes p e below s _ _ (T306.setTop (mkF m 155 #[own_jv q0, .second, own_jv q1, .second, own_jv q2, .second, iv p3, iv p4, iv p5, iv (2 : Int32), iv (1 : Int32), iv (0 : Int32), rv b102, rv b111, rv b115, rv b119, .unset] [(.int (2 : Int32)), (.ref b102)]))
        refine own_st (fun _ k => XS.aload X306.here hx rfl (hb hby at_155) rfl rfl  k) ?_
        show own_Goes p e below s _ _ (T306.setTop (mkF m 157 #[own_jv q0, .second, own_jv q1, .second, own_jv q2, .second, iv p3, iv p4, iv p5, iv (2 : Int32), iv (1 : Int32), iv (0 : Int32), rv b102, rv b111, rv b115, rv b119, .unset] [(.ref b119), (.int (2 : Int32)), (.ref b102)]))
        refine own_st (fun _ k => XS.iload X306.here hx rfl (hb hby at_157) rfl  k) ?_
        show own_Goes p e below s _ _ (T306.setTop (mkF m 159 #[own_jv q0, .second, own_jv q1, .second, own_jv q2, .second, iv p3, iv p4, iv p5, iv (2 : Int32), iv (1 : Int32), iv (0 : Int32), rv b102, rv b111, rv b115, rv b119, .unset] [(.int (1 : Int32)), (.ref b119), (.int (2 : Int32)), (.ref b102)]))
        have f308 := ((f120.keep K119 nin0).other W306 (Or.inl (own_ne (by omega))))
        have f309 := (Fc119.other W306 (Or.inl (own_ne (by omega))))
        have f310 := ((((((((((Vd109.ext E111).other W112 (own_ne (by omega))).other W113 (own_ne (by omega))).other W114 (own_ne (by omega))).ext E115).other W116 (own_ne (by omega))).other W117 (own_ne (by omega))).other W118 (own_ne (by omega))).keep K119 nin0).other W306 (own_ne (by omega)))
        have f311 := (Vc119.other W306 (own_ne (by omega)))
        have f312 := ((f128.keep K119).wr W306)
        obtain ⟨v307, T307, L307, X307, Q307, st307⟩ := own_callV X306 hx hZ (C := "com/example/reach2/reach2/model/CodedColumn") (y := (⟨"com/example/reach2/reach2/model/CodedColumn", "copyTo", "(ILcom/example/reach2/reach2/model/CodedColumn;I)V"⟩ : MethodName)) hown (hw _ (List.mem_of_getElem? (i := 38) rfl)) (hw _ (List.mem_of_getElem? (i := 39) rfl)) (hw _ (List.mem_of_getElem? (i := 41) rfl)) (hw _ (List.mem_of_getElem? (i := 40) rfl)) (hw _ (List.mem_of_getElem? (i := 3) rfl)) (hw _ (List.mem_of_getElem? (i := 42) rfl)) (by decide) (W := 0) (rest := []) (argsL := [(.int (2 : Int32)), (.ref b119), (.int (1 : Int32))]) (a := b102) (rmCT l Z a0 hw [] b102 (2 : Int32) b119 (1 : Int32) ac103 bc119 _ _ h306 n0 (by omega) f308 f309 f310 f311 (by decide) (by decide) (by omega)) (by decide) (by decide) (by decide) (by decide) e306 f312 own_pd5 rfl (g := (mkF m 159 #[own_jv q0, .second, own_jv q1, .second, own_jv q2, .second, iv p3, iv p4, iv p5, iv (2 : Int32), iv (1 : Int32), iv (0 : Int32), rv b102, rv b111, rv b115, rv b119, .unset] [(.int (1 : Int32)), (.ref b119), (.int (2 : Int32)), (.ref b102)])) rfl (by rw [hml]; rfl) rfl (by show 2 * 0 + _ ≤ _; exact Nat.le_of_eq rfl) (hb hby at_159)
        obtain ⟨rfl, N307q, K307, V307⟩ := Q307
        have z307 := K307.1
        have Vt307 : own_Arf Z T307.heap bc119 .byte 3 (fun k => .int ((fun k => if k = 1 then (nar .byte (nar .byte (r109.toInt8.toInt32))) else (fun _ => (0 : Int32)) k) k)) := V307
        have N307 := Fr.app N306 N307q
        refine own_st st307 ?_
        show own_Goes p e below s _ _ (T307.setTop (mkF m 162 #[own_jv q0, .second, own_jv q1, .second, own_jv q2, .second, iv p3, iv p4, iv p5, iv (2 : Int32), iv (1 : Int32), iv (0 : Int32), rv b102, rv b111, rv b115, rv b119, .unset] []))
        refine own_st (fun _ k => XS.aload X307.here hx rfl (hb hby at_162) rfl rfl  k) ?_
        show own_Goes p e below s _ _ (T307.setTop (mkF m 164 #[own_jv q0, .second, own_jv q1, .second, own_jv q2, .second, iv p3, iv p4, iv p5, iv (2 : Int32), iv (1 : Int32), iv (0 : Int32), rv b102, rv b111, rv b115, rv b119, .unset] [(.ref b119)]))
        refine own_st (fun _ k => XS.iconst X307.here hx rfl (hb hby at_164) k) ?_
        show own_Goes p e below s _ _ (T307.setTop (mkF m 165 #[own_jv q0, .second, own_jv q1, .second, own_jv q2, .second, iv p3, iv p4, iv p5, iv (2 : Int32), iv (1 : Int32), iv (0 : Int32), rv b102, rv b111, rv b115, rv b119, .unset] [(.int (0 : Int32)), (.ref b119)]))
        have f314 := (f309.keep K307 (ninS (own_ne (by omega)) nin0))
        have f315 := ((Fv119.other W306 (Or.inl (own_ne (by omega)))).keep K307 (ninS (own_ne (by omega)) nin0))
        have f316 := ((Vv119.other W306 (own_ne (by omega))).keep K307 (ninS (own_ne (by omega)) nin0))
        have f317 := ((A119.wr W306).keep K307)
        obtain ⟨v313, T313, L313, X313, Q313, st313⟩ := own_callV X307 hx hZ (C := "com/example/reach2/reach2/model/CodedColumn") (y := (⟨"com/example/reach2/reach2/model/CodedColumn", "get", "(I)J"⟩ : MethodName)) hown (hw _ (List.mem_of_getElem? (i := 43) rfl)) (hw _ (List.mem_of_getElem? (i := 44) rfl)) (hw _ (List.mem_of_getElem? (i := 46) rfl)) (hw _ (List.mem_of_getElem? (i := 45) rfl)) (hw _ (List.mem_of_getElem? (i := 3) rfl)) (hw _ (List.mem_of_getElem? (i := 47) rfl)) (by decide) (W := 0) (rest := []) (argsL := [(.int (0 : Int32))]) (a := b119) (rmGet l Z a0 hw [] b119 (0 : Int32) _ _ _ _ T307.heap n0 (by omega) f314 f315 Vt307 f316 (by decide)) (by decide) (by decide) (by decide) (by decide) rfl f317 own_pd6 rfl (g := (mkF m 165 #[own_jv q0, .second, own_jv q1, .second, own_jv q2, .second, iv p3, iv p4, iv p5, iv (2 : Int32), iv (1 : Int32), iv (0 : Int32), rv b102, rv b111, rv b115, rv b119, .unset] [(.int (0 : Int32)), (.ref b119)])) rfl (by rw [hml]; rfl) rfl (by show 2 * 0 + _ ≤ _; exact Nat.le_of_eq rfl) (hb hby at_165)
        obtain ⟨g313, rfl, hg313, N313q, e313⟩ := Q313
        obtain rfl : q0 = g313 := (hg313.trans (own_at0 (by omega) ((rf109 _ (by omega)).trans ((rf107 _ (by omega)).trans re104)))).symm
        have N313 := Fr.app N307 N313q
        refine own_st st313 ?_
        show own_Goes p e below s _ _ (T313.setTop (mkF m 168 #[own_jv q0, .second, own_jv q1, .second, own_jv q2, .second, iv p3, iv p4, iv p5, iv (2 : Int32), iv (1 : Int32), iv (0 : Int32), rv b102, rv b111, rv b115, rv b119, .unset] [(.long q0)]))
        refine own_st (fun _ k => XS.aload X313.here hx rfl (hb hby at_168) rfl rfl  k) ?_
        show own_Goes p e below s _ _ (T313.setTop (mkF m 170 #[own_jv q0, .second, own_jv q1, .second, own_jv q2, .second, iv p3, iv p4, iv p5, iv (2 : Int32), iv (1 : Int32), iv (0 : Int32), rv b102, rv b111, rv b115, rv b119, .unset] [(.ref b115), (.long q0)]))
        refine own_st (fun _ k => XS.iconst X313.here hx rfl (hb hby at_170) k) ?_
        show own_Goes p e below s _ _ (T313.setTop (mkF m 171 #[own_jv q0, .second, own_jv q1, .second, own_jv q2, .second, iv p3, iv p4, iv p5, iv (2 : Int32), iv (1 : Int32), iv (0 : Int32), rv b102, rv b111, rv b115, rv b119, .unset] [(.int (0 : Int32)), (.ref b115), (.long q0)]))
        have f318 := (V306.keep K307 (ninS (own_ne (by omega)) nin0))
        refine own_st (fun _ k => own_ldJ X313 hx hZ e313 f318 (j := (0 : Int32)) (by decide) (g := (mkF m 171 #[own_jv q0, .second, own_jv q1, .second, own_jv q2, .second, iv p3, iv p4, iv p5, iv (2 : Int32), iv (1 : Int32), iv (0 : Int32), rv b102, rv b111, rv b115, rv b119, .unset] [(.int (0 : Int32)), (.ref b115), (.long q0)])) rfl rfl (hb hby at_171) _ k) ?_
        show own_Goes p e below s _ _ (T313.setTop (mkF m 172 #[own_jv q0, .second, own_jv q1, .second, own_jv q2, .second, iv p3, iv p4, iv p5, iv (2 : Int32), iv (1 : Int32), iv (0 : Int32), rv b102, rv b111, rv b115, rv b119, .unset] [(.long q0), (.long q0)]))
        refine own_st (fun _ k => XS.lcmp X313.here hx rfl (hb hby at_172) rfl k) ?_
        show own_Goes p e below s _ _ (T313.setTop (mkF m 173 #[own_jv q0, .second, own_jv q1, .second, own_jv q2, .second, iv p3, iv p4, iv p5, iv (2 : Int32), iv (1 : Int32), iv (0 : Int32), rv b102, rv b111, rv b115, rv b119, .unset] [(.int (lcmpW q0 q0))]))
        refine own_st (fun _ k => XS.ifNo X313.here hx rfl (hb hby at_173) rfl ((if0 _ _).trans (teq ((lw_eq _ _).mpr (rfl : q0 = q0))).2) k) ?_
        show own_Goes p e below s _ _ (T313.setTop (mkF m 176 #[own_jv q0, .second, own_jv q1, .second, own_jv q2, .second, iv p3, iv p4, iv p5, iv (2 : Int32), iv (1 : Int32), iv (0 : Int32), rv b102, rv b111, rv b115, rv b119, .unset] []))
        refine own_st (fun _ k => XS.aload X313.here hx rfl (hb hby at_176) rfl rfl  k) ?_
        show own_Goes p e below s _ _ (T313.setTop (mkF m 178 #[own_jv q0, .second, own_jv q1, .second, own_jv q2, .second, iv p3, iv p4, iv p5, iv (2 : Int32), iv (1 : Int32), iv (0 : Int32), rv b102, rv b111, rv b115, rv b119, .unset] [(.ref b119)]))
        refine own_st (fun _ k => XS.iconst X313.here hx rfl (hb hby at_178) k) ?_
        show own_Goes p e below s _ _ (T313.setTop (mkF m 179 #[own_jv q0, .second, own_jv q1, .second, own_jv q2, .second, iv p3, iv p4, iv p5, iv (2 : Int32), iv (1 : Int32), iv (0 : Int32), rv b102, rv b111, rv b115, rv b119, .unset] [(.int (1 : Int32)), (.ref b119)]))
        obtain ⟨v319, T319, L319, X319, Q319, st319⟩ := own_callV X313 hx hZ (C := "com/example/reach2/reach2/model/CodedColumn") (y := (⟨"com/example/reach2/reach2/model/CodedColumn", "get", "(I)J"⟩ : MethodName)) hown (hw _ (List.mem_of_getElem? (i := 43) rfl)) (hw _ (List.mem_of_getElem? (i := 44) rfl)) (hw _ (List.mem_of_getElem? (i := 46) rfl)) (hw _ (List.mem_of_getElem? (i := 45) rfl)) (hw _ (List.mem_of_getElem? (i := 3) rfl)) (hw _ (List.mem_of_getElem? (i := 47) rfl)) (by decide) (W := 0) (rest := []) (argsL := [(.int (1 : Int32))]) (a := b119) (rmGet l Z a0 hw [] b119 (1 : Int32) _ _ _ _ T307.heap n0 (by omega) f314 f315 Vt307 f316 (by decide)) (by decide) (by decide) (by decide) (by decide) e313 f317 own_pd6 rfl (g := (mkF m 179 #[own_jv q0, .second, own_jv q1, .second, own_jv q2, .second, iv p3, iv p4, iv p5, iv (2 : Int32), iv (1 : Int32), iv (0 : Int32), rv b102, rv b111, rv b115, rv b119, .unset] [(.int (1 : Int32)), (.ref b119)])) rfl (by rw [hml]; rfl) rfl (by show 2 * 0 + _ ≤ _; exact Nat.le_of_eq rfl) (hb hby at_179)
        obtain ⟨g319, rfl, hg319, N319q, e319⟩ := Q319
        obtain rfl : q2 = g319 := (hg319.trans (own_at2 (by omega) re109)).symm
        have N319 := Fr.app N313 N319q
        refine own_st st319 ?_
        show own_Goes p e below s _ _ (T319.setTop (mkF m 182 #[own_jv q0, .second, own_jv q1, .second, own_jv q2, .second, iv p3, iv p4, iv p5, iv (2 : Int32), iv (1 : Int32), iv (0 : Int32), rv b102, rv b111, rv b115, rv b119, .unset] [(.long q2)]))
        refine own_st (fun _ k => XS.aload X319.here hx rfl (hb hby at_182) rfl rfl  k) ?_
        show own_Goes p e below s _ _ (T319.setTop (mkF m 184 #[own_jv q0, .second, own_jv q1, .second, own_jv q2, .second, iv p3, iv p4, iv p5, iv (2 : Int32), iv (1 : Int32), iv (0 : Int32), rv b102, rv b111, rv b115, rv b119, .unset] [(.ref b115), (.long q2)]))
        refine own_st (fun _ k => XS.iconst X319.here hx rfl (hb hby at_184) k) ?_
        show own_Goes p e below s _ _ (T319.setTop (mkF m 185 #[own_jv q0, .second, own_jv q1, .second, own_jv q2, .second, iv p3, iv p4, iv p5, iv (2 : Int32), iv (1 : Int32), iv (0 : Int32), rv b102, rv b111, rv b115, rv b119, .unset] [(.int (1 : Int32)), (.ref b115), (.long q2)]))
        refine own_st (fun _ k => own_ldJ X319 hx hZ e319 f318 (j := (1 : Int32)) (by decide) (g := (mkF m 185 #[own_jv q0, .second, own_jv q1, .second, own_jv q2, .second, iv p3, iv p4, iv p5, iv (2 : Int32), iv (1 : Int32), iv (0 : Int32), rv b102, rv b111, rv b115, rv b119, .unset] [(.int (1 : Int32)), (.ref b115), (.long q2)])) rfl rfl (hb hby at_185) _ k) ?_
        show own_Goes p e below s _ _ (T319.setTop (mkF m 186 #[own_jv q0, .second, own_jv q1, .second, own_jv q2, .second, iv p3, iv p4, iv p5, iv (2 : Int32), iv (1 : Int32), iv (0 : Int32), rv b102, rv b111, rv b115, rv b119, .unset] [(.long q2), (.long q2)]))
        refine own_st (fun _ k => XS.lcmp X319.here hx rfl (hb hby at_186) rfl k) ?_
        show own_Goes p e below s _ _ (T319.setTop (mkF m 187 #[own_jv q0, .second, own_jv q1, .second, own_jv q2, .second, iv p3, iv p4, iv p5, iv (2 : Int32), iv (1 : Int32), iv (0 : Int32), rv b102, rv b111, rv b115, rv b119, .unset] [(.int (lcmpW q2 q2))]))
        refine own_st (fun _ k => XS.ifNo X319.here hx rfl (hb hby at_187) rfl ((if0 _ _).trans (teq ((lw_eq _ _).mpr (rfl : q2 = q2))).2) k) ?_
        show own_Goes p e below s _ _ (T319.setTop (mkF m 190 #[own_jv q0, .second, own_jv q1, .second, own_jv q2, .second, iv p3, iv p4, iv p5, iv (2 : Int32), iv (1 : Int32), iv (0 : Int32), rv b102, rv b111, rv b115, rv b119, .unset] []))
        refine own_st (fun _ k => XS.aload X319.here hx rfl (hb hby at_190) rfl rfl  k) ?_
        show own_Goes p e below s _ _ (T319.setTop (mkF m 192 #[own_jv q0, .second, own_jv q1, .second, own_jv q2, .second, iv p3, iv p4, iv p5, iv (2 : Int32), iv (1 : Int32), iv (0 : Int32), rv b102, rv b111, rv b115, rv b119, .unset] [(.ref b119)]))
        refine own_st (fun _ k => XS.iconst X319.here hx rfl (hb hby at_192) k) ?_
        show own_Goes p e below s _ _ (T319.setTop (mkF m 193 #[own_jv q0, .second, own_jv q1, .second, own_jv q2, .second, iv p3, iv p4, iv p5, iv (2 : Int32), iv (1 : Int32), iv (0 : Int32), rv b102, rv b111, rv b115, rv b119, .unset] [(.int (2 : Int32)), (.ref b119)]))
        obtain ⟨v320, T320, L320, X320, Q320, st320⟩ := own_callV X319 hx hZ (C := "com/example/reach2/reach2/model/CodedColumn") (y := (⟨"com/example/reach2/reach2/model/CodedColumn", "get", "(I)J"⟩ : MethodName)) hown (hw _ (List.mem_of_getElem? (i := 43) rfl)) (hw _ (List.mem_of_getElem? (i := 44) rfl)) (hw _ (List.mem_of_getElem? (i := 46) rfl)) (hw _ (List.mem_of_getElem? (i := 45) rfl)) (hw _ (List.mem_of_getElem? (i := 3) rfl)) (hw _ (List.mem_of_getElem? (i := 47) rfl)) (by decide) (W := 0) (rest := []) (argsL := [(.int (2 : Int32))]) (a := b119) (rmGet l Z a0 hw [] b119 (2 : Int32) _ _ _ _ T307.heap n0 (by omega) f314 f315 Vt307 f316 (by decide)) (by decide) (by decide) (by decide) (by decide) e319 f317 own_pd6 rfl (g := (mkF m 193 #[own_jv q0, .second, own_jv q1, .second, own_jv q2, .second, iv p3, iv p4, iv p5, iv (2 : Int32), iv (1 : Int32), iv (0 : Int32), rv b102, rv b111, rv b115, rv b119, .unset] [(.int (2 : Int32)), (.ref b119)])) rfl (by rw [hml]; rfl) rfl (by show 2 * 0 + _ ≤ _; exact Nat.le_of_eq rfl) (hb hby at_193)
        obtain ⟨g320, rfl, hg320, N320q, e320⟩ := Q320
        obtain rfl : q0 = g320 := (hg320.trans (own_at0 (by omega) ((rf109 _ (by omega)).trans ((rf107 _ (by omega)).trans re104)))).symm
        have N320 := Fr.app N319 N320q
        refine own_st st320 ?_
        show own_Goes p e below s _ _ (T320.setTop (mkF m 196 #[own_jv q0, .second, own_jv q1, .second, own_jv q2, .second, iv p3, iv p4, iv p5, iv (2 : Int32), iv (1 : Int32), iv (0 : Int32), rv b102, rv b111, rv b115, rv b119, .unset] [(.long q0)]))
        refine own_st (fun _ k => XS.aload X320.here hx rfl (hb hby at_196) rfl rfl  k) ?_
        show own_Goes p e below s _ _ (T320.setTop (mkF m 198 #[own_jv q0, .second, own_jv q1, .second, own_jv q2, .second, iv p3, iv p4, iv p5, iv (2 : Int32), iv (1 : Int32), iv (0 : Int32), rv b102, rv b111, rv b115, rv b119, .unset] [(.ref b115), (.long q0)]))
        refine own_st (fun _ k => XS.iconst X320.here hx rfl (hb hby at_198) k) ?_
        show own_Goes p e below s _ _ (T320.setTop (mkF m 199 #[own_jv q0, .second, own_jv q1, .second, own_jv q2, .second, iv p3, iv p4, iv p5, iv (2 : Int32), iv (1 : Int32), iv (0 : Int32), rv b102, rv b111, rv b115, rv b119, .unset] [(.int (2 : Int32)), (.ref b115), (.long q0)]))
        refine own_st (fun _ k => own_ldJ X320 hx hZ e320 f318 (j := (2 : Int32)) (by decide) (g := (mkF m 199 #[own_jv q0, .second, own_jv q1, .second, own_jv q2, .second, iv p3, iv p4, iv p5, iv (2 : Int32), iv (1 : Int32), iv (0 : Int32), rv b102, rv b111, rv b115, rv b119, .unset] [(.int (2 : Int32)), (.ref b115), (.long q0)])) rfl rfl (hb hby at_199) _ k) ?_
        show own_Goes p e below s _ _ (T320.setTop (mkF m 200 #[own_jv q0, .second, own_jv q1, .second, own_jv q2, .second, iv p3, iv p4, iv p5, iv (2 : Int32), iv (1 : Int32), iv (0 : Int32), rv b102, rv b111, rv b115, rv b119, .unset] [(.long q0), (.long q0)]))
        refine own_st (fun _ k => XS.lcmp X320.here hx rfl (hb hby at_200) rfl k) ?_
        show own_Goes p e below s _ _ (T320.setTop (mkF m 201 #[own_jv q0, .second, own_jv q1, .second, own_jv q2, .second, iv p3, iv p4, iv p5, iv (2 : Int32), iv (1 : Int32), iv (0 : Int32), rv b102, rv b111, rv b115, rv b119, .unset] [(.int (lcmpW q0 q0))]))
        refine own_st (fun _ k => XS.ifNo X320.here hx rfl (hb hby at_201) rfl ((if0 _ _).trans (teq ((lw_eq _ _).mpr (rfl : q0 = q0))).2) k) ?_
        show own_Goes p e below s _ _ (T320.setTop (mkF m 204 #[own_jv q0, .second, own_jv q1, .second, own_jv q2, .second, iv p3, iv p4, iv p5, iv (2 : Int32), iv (1 : Int32), iv (0 : Int32), rv b102, rv b111, rv b115, rv b119, .unset] []))
        refine own_st (fun _ k => XS.iconst X320.here hx rfl (hb hby at_204) k) ?_
        show own_Goes p e below s _ _ (T320.setTop (mkF m 205 #[own_jv q0, .second, own_jv q1, .second, own_jv q2, .second, iv p3, iv p4, iv p5, iv (2 : Int32), iv (1 : Int32), iv (0 : Int32), rv b102, rv b111, rv b115, rv b119, .unset] [(.int (1 : Int32))]))
        refine own_st (fun _ k => XS.goto X320.here hx rfl (pc0 := 205) (pc' := 209) rfl (hb hby at_205) (by decide) (by decide) k) ?_
        show own_Goes p e below s _ _ (T320.setTop (mkF m 209 #[own_jv q0, .second, own_jv q1, .second, own_jv q2, .second, iv p3, iv p4, iv p5, iv (2 : Int32), iv (1 : Int32), iv (0 : Int32), rv b102, rv b111, rv b115, rv b119, .unset] [(.int (1 : Int32))]))
        refine own_st (fun _ k => XS.istore X320.here hx rfl (hb hby at_209) rfl (l' := #[own_jv q0, .second, own_jv q1, .second, own_jv q2, .second, iv p3, iv p4, iv p5, iv (2 : Int32), iv (1 : Int32), iv (0 : Int32), rv b102, rv b111, rv b115, rv b119, iv (1 : Int32)]) rfl k) ?_
        show own_Goes p e below s _ _ (T320.setTop (mkF m 211 #[own_jv q0, .second, own_jv q1, .second, own_jv q2, .second, iv p3, iv p4, iv p5, iv (2 : Int32), iv (1 : Int32), iv (0 : Int32), rv b102, rv b111, rv b115, rv b119, iv (1 : Int32)] []))
        refine own_st (fun _ k => XS.iload X320.here hx rfl (hb hby at_211) rfl  k) ?_
        show own_Goes p e below s _ _ (T320.setTop (mkF m 213 #[own_jv q0, .second, own_jv q1, .second, own_jv q2, .second, iv p3, iv p4, iv p5, iv (2 : Int32), iv (1 : Int32), iv (0 : Int32), rv b102, rv b111, rv b115, rv b119, iv (1 : Int32)] [(.int (0 : Int32))]))
        refine own_st (fun _ k => XS.ifNo X320.here hx rfl (hb hby at_213) rfl ((if0 _ _).trans (teq (by decide : (0 : Int32) = (0 : Int32))).2) k) ?_
        show own_Goes p e below s _ _ (T320.setTop (mkF m 216 #[own_jv q0, .second, own_jv q1, .second, own_jv q2, .second, iv p3, iv p4, iv p5, iv (2 : Int32), iv (1 : Int32), iv (0 : Int32), rv b102, rv b111, rv b115, rv b119, iv (1 : Int32)] []))
        refine own_st (fun _ k => XS.iload X320.here hx rfl (hb hby at_216) rfl  k) ?_
        show own_Goes p e below s _ _ (T320.setTop (mkF m 218 #[own_jv q0, .second, own_jv q1, .second, own_jv q2, .second, iv p3, iv p4, iv p5, iv (2 : Int32), iv (1 : Int32), iv (0 : Int32), rv b102, rv b111, rv b115, rv b119, iv (1 : Int32)] [(.int (1 : Int32))]))
        refine own_st (fun _ k => XS.ifNo X320.here hx rfl (hb hby at_218) rfl ((if0 _ _).trans (feq (by decide : ¬ ((1 : Int32) = (0 : Int32)))).1) k) ?_
        show own_Goes p e below s _ _ (T320.setTop (mkF m 221 #[own_jv q0, .second, own_jv q1, .second, own_jv q2, .second, iv p3, iv p4, iv p5, iv (2 : Int32), iv (1 : Int32), iv (0 : Int32), rv b102, rv b111, rv b115, rv b119, iv (1 : Int32)] []))
        refine own_st (fun _ k => XS.aload X320.here hx rfl (hb hby at_221) rfl rfl  k) ?_
        show own_Goes p e below s _ _ (T320.setTop (mkF m 223 #[own_jv q0, .second, own_jv q1, .second, own_jv q2, .second, iv p3, iv p4, iv p5, iv (2 : Int32), iv (1 : Int32), iv (0 : Int32), rv b102, rv b111, rv b115, rv b119, iv (1 : Int32)] [(.ref b102)]))
        refine own_st (fun _ k => XS.iconst X320.here hx rfl (hb hby at_223) k) ?_
        show own_Goes p e below s _ _ (T320.setTop (mkF m 224 #[own_jv q0, .second, own_jv q1, .second, own_jv q2, .second, iv p3, iv p4, iv p5, iv (2 : Int32), iv (1 : Int32), iv (0 : Int32), rv b102, rv b111, rv b115, rv b119, iv (1 : Int32)] [(.int (0 : Int32)), (.ref b102)]))
        have f322 := (f308.keep K307 (ninS (own_ne (by omega)) nin0))
        have f323 := (((f121.keep K119 nin0).other W306 (Or.inl (own_ne (by omega)))).keep K307 (ninS (own_ne (by omega)) nin0))
        have f324 := (f310.keep K307 (ninS (own_ne (by omega)) nin0))
        have f325 := (((f124.keep K119 nin0).other W306 (own_ne (by omega))).keep K307 (ninS (own_ne (by omega)) nin0))
        have f326 := (f312.keep K307)
        obtain ⟨v321, T321, L321, X321, Q321, st321⟩ := own_callV X320 hx hZ (C := "com/example/reach2/reach2/model/CodedColumn") (y := (⟨"com/example/reach2/reach2/model/CodedColumn", "get", "(I)J"⟩ : MethodName)) hown (hw _ (List.mem_of_getElem? (i := 43) rfl)) (hw _ (List.mem_of_getElem? (i := 44) rfl)) (hw _ (List.mem_of_getElem? (i := 46) rfl)) (hw _ (List.mem_of_getElem? (i := 45) rfl)) (hw _ (List.mem_of_getElem? (i := 3) rfl)) (hw _ (List.mem_of_getElem? (i := 47) rfl)) (by decide) (W := 0) (rest := []) (argsL := [(.int (0 : Int32))]) (a := b102) (rmGet l Z a0 hw [] b102 (0 : Int32) _ _ _ _ T307.heap n0 (by omega) f322 f323 f324 f325 (by decide)) (by decide) (by decide) (by decide) (by decide) e320 f326 own_pd6 rfl (g := (mkF m 224 #[own_jv q0, .second, own_jv q1, .second, own_jv q2, .second, iv p3, iv p4, iv p5, iv (2 : Int32), iv (1 : Int32), iv (0 : Int32), rv b102, rv b111, rv b115, rv b119, iv (1 : Int32)] [(.int (0 : Int32)), (.ref b102)])) rfl (by rw [hml]; rfl) rfl (by show 2 * 0 + _ ≤ _; exact Nat.le_of_eq rfl) (hb hby at_224)
        obtain ⟨g321, rfl, hg321, N321q, e321⟩ := Q321
        obtain rfl : q0 = g321 := (hg321.trans (own_at (by omega) ((rf109 _ (by omega)).trans ((rf107 _ (by omega)).trans re104)))).symm
        have N321 := Fr.app N320 N321q
        refine own_st st321 ?_
        show own_Goes p e below s _ _ (T321.setTop (mkF m 227 #[own_jv q0, .second, own_jv q1, .second, own_jv q2, .second, iv p3, iv p4, iv p5, iv (2 : Int32), iv (1 : Int32), iv (0 : Int32), rv b102, rv b111, rv b115, rv b119, iv (1 : Int32)] [(.long q0)]))
        refine own_st (fun _ k => XS.lloadN X321.here hx rfl (hb hby at_227) rfl  k) ?_
        show own_Goes p e below s _ _ (T321.setTop (mkF m 228 #[own_jv q0, .second, own_jv q1, .second, own_jv q2, .second, iv p3, iv p4, iv p5, iv (2 : Int32), iv (1 : Int32), iv (0 : Int32), rv b102, rv b111, rv b115, rv b119, iv (1 : Int32)] [(.long q0), (.long q0)]))
        refine own_st (fun _ k => XS.lcmp X321.here hx rfl (hb hby at_228) rfl k) ?_
        show own_Goes p e below s _ _ (T321.setTop (mkF m 229 #[own_jv q0, .second, own_jv q1, .second, own_jv q2, .second, iv p3, iv p4, iv p5, iv (2 : Int32), iv (1 : Int32), iv (0 : Int32), rv b102, rv b111, rv b115, rv b119, iv (1 : Int32)] [(.int (lcmpW q0 q0))]))
        refine own_st (fun _ k => XS.ifNo X321.here hx rfl (hb hby at_229) rfl ((if0 _ _).trans (teq ((lw_eq _ _).mpr (rfl : q0 = q0))).2) k) ?_
        show own_Goes p e below s _ _ (T321.setTop (mkF m 232 #[own_jv q0, .second, own_jv q1, .second, own_jv q2, .second, iv p3, iv p4, iv p5, iv (2 : Int32), iv (1 : Int32), iv (0 : Int32), rv b102, rv b111, rv b115, rv b119, iv (1 : Int32)] []))
        refine own_st (fun _ k => XS.aload X321.here hx rfl (hb hby at_232) rfl rfl  k) ?_
        show own_Goes p e below s _ _ (T321.setTop (mkF m 234 #[own_jv q0, .second, own_jv q1, .second, own_jv q2, .second, iv p3, iv p4, iv p5, iv (2 : Int32), iv (1 : Int32), iv (0 : Int32), rv b102, rv b111, rv b115, rv b119, iv (1 : Int32)] [(.ref b102)]))
        refine own_st (fun _ k => XS.iconst X321.here hx rfl (hb hby at_234) k) ?_
        show own_Goes p e below s _ _ (T321.setTop (mkF m 235 #[own_jv q0, .second, own_jv q1, .second, own_jv q2, .second, iv p3, iv p4, iv p5, iv (2 : Int32), iv (1 : Int32), iv (0 : Int32), rv b102, rv b111, rv b115, rv b119, iv (1 : Int32)] [(.int (1 : Int32)), (.ref b102)]))
        obtain ⟨v327, T327, L327, X327, Q327, st327⟩ := own_callV X321 hx hZ (C := "com/example/reach2/reach2/model/CodedColumn") (y := (⟨"com/example/reach2/reach2/model/CodedColumn", "get", "(I)J"⟩ : MethodName)) hown (hw _ (List.mem_of_getElem? (i := 43) rfl)) (hw _ (List.mem_of_getElem? (i := 44) rfl)) (hw _ (List.mem_of_getElem? (i := 46) rfl)) (hw _ (List.mem_of_getElem? (i := 45) rfl)) (hw _ (List.mem_of_getElem? (i := 3) rfl)) (hw _ (List.mem_of_getElem? (i := 47) rfl)) (by decide) (W := 0) (rest := []) (argsL := [(.int (1 : Int32))]) (a := b102) (rmGet l Z a0 hw [] b102 (1 : Int32) _ _ _ _ T307.heap n0 (by omega) f322 f323 f324 f325 (by decide)) (by decide) (by decide) (by decide) (by decide) e321 f326 own_pd6 rfl (g := (mkF m 235 #[own_jv q0, .second, own_jv q1, .second, own_jv q2, .second, iv p3, iv p4, iv p5, iv (2 : Int32), iv (1 : Int32), iv (0 : Int32), rv b102, rv b111, rv b115, rv b119, iv (1 : Int32)] [(.int (1 : Int32)), (.ref b102)])) rfl (by rw [hml]; rfl) rfl (by show 2 * 0 + _ ≤ _; exact Nat.le_of_eq rfl) (hb hby at_235)
        obtain ⟨g327, rfl, hg327, N327q, e327⟩ := Q327
        obtain rfl : q1 = g327 := (hg327.trans (own_at (by omega) ((rf109 _ (by omega)).trans re107))).symm
        have N327 := Fr.app N321 N327q
        refine own_st st327 ?_
        show own_Goes p e below s _ _ (T327.setTop (mkF m 238 #[own_jv q0, .second, own_jv q1, .second, own_jv q2, .second, iv p3, iv p4, iv p5, iv (2 : Int32), iv (1 : Int32), iv (0 : Int32), rv b102, rv b111, rv b115, rv b119, iv (1 : Int32)] [(.long q1)]))
        refine own_st (fun _ k => XS.lloadN X327.here hx rfl (hb hby at_238) rfl  k) ?_
        show own_Goes p e below s _ _ (T327.setTop (mkF m 239 #[own_jv q0, .second, own_jv q1, .second, own_jv q2, .second, iv p3, iv p4, iv p5, iv (2 : Int32), iv (1 : Int32), iv (0 : Int32), rv b102, rv b111, rv b115, rv b119, iv (1 : Int32)] [(.long q1), (.long q1)]))
        refine own_st (fun _ k => XS.lcmp X327.here hx rfl (hb hby at_239) rfl k) ?_
        show own_Goes p e below s _ _ (T327.setTop (mkF m 240 #[own_jv q0, .second, own_jv q1, .second, own_jv q2, .second, iv p3, iv p4, iv p5, iv (2 : Int32), iv (1 : Int32), iv (0 : Int32), rv b102, rv b111, rv b115, rv b119, iv (1 : Int32)] [(.int (lcmpW q1 q1))]))
        refine own_st (fun _ k => XS.ifNo X327.here hx rfl (hb hby at_240) rfl ((if0 _ _).trans (teq ((lw_eq _ _).mpr (rfl : q1 = q1))).2) k) ?_
        show own_Goes p e below s _ _ (T327.setTop (mkF m 243 #[own_jv q0, .second, own_jv q1, .second, own_jv q2, .second, iv p3, iv p4, iv p5, iv (2 : Int32), iv (1 : Int32), iv (0 : Int32), rv b102, rv b111, rv b115, rv b119, iv (1 : Int32)] []))
        refine own_st (fun _ k => XS.aload X327.here hx rfl (hb hby at_243) rfl rfl  k) ?_
        show own_Goes p e below s _ _ (T327.setTop (mkF m 245 #[own_jv q0, .second, own_jv q1, .second, own_jv q2, .second, iv p3, iv p4, iv p5, iv (2 : Int32), iv (1 : Int32), iv (0 : Int32), rv b102, rv b111, rv b115, rv b119, iv (1 : Int32)] [(.ref b102)]))
        refine own_st (fun _ k => XS.iconst X327.here hx rfl (hb hby at_245) k) ?_
        show own_Goes p e below s _ _ (T327.setTop (mkF m 246 #[own_jv q0, .second, own_jv q1, .second, own_jv q2, .second, iv p3, iv p4, iv p5, iv (2 : Int32), iv (1 : Int32), iv (0 : Int32), rv b102, rv b111, rv b115, rv b119, iv (1 : Int32)] [(.int (2 : Int32)), (.ref b102)]))
        obtain ⟨v328, T328, L328, X328, Q328, st328⟩ := own_callV X327 hx hZ (C := "com/example/reach2/reach2/model/CodedColumn") (y := (⟨"com/example/reach2/reach2/model/CodedColumn", "get", "(I)J"⟩ : MethodName)) hown (hw _ (List.mem_of_getElem? (i := 43) rfl)) (hw _ (List.mem_of_getElem? (i := 44) rfl)) (hw _ (List.mem_of_getElem? (i := 46) rfl)) (hw _ (List.mem_of_getElem? (i := 45) rfl)) (hw _ (List.mem_of_getElem? (i := 3) rfl)) (hw _ (List.mem_of_getElem? (i := 47) rfl)) (by decide) (W := 0) (rest := []) (argsL := [(.int (2 : Int32))]) (a := b102) (rmGet l Z a0 hw [] b102 (2 : Int32) _ _ _ _ T307.heap n0 (by omega) f322 f323 f324 f325 (by decide)) (by decide) (by decide) (by decide) (by decide) e327 f326 own_pd6 rfl (g := (mkF m 246 #[own_jv q0, .second, own_jv q1, .second, own_jv q2, .second, iv p3, iv p4, iv p5, iv (2 : Int32), iv (1 : Int32), iv (0 : Int32), rv b102, rv b111, rv b115, rv b119, iv (1 : Int32)] [(.int (2 : Int32)), (.ref b102)])) rfl (by rw [hml]; rfl) rfl (by show 2 * 0 + _ ≤ _; exact Nat.le_of_eq rfl) (hb hby at_246)
        obtain ⟨g328, rfl, hg328, N328q, e328⟩ := Q328
        obtain rfl : q2 = g328 := (hg328.trans (own_at (by omega) re109)).symm
        have N328 := Fr.app N327 N328q
        refine own_st st328 ?_
        show own_Goes p e below s _ _ (T328.setTop (mkF m 249 #[own_jv q0, .second, own_jv q1, .second, own_jv q2, .second, iv p3, iv p4, iv p5, iv (2 : Int32), iv (1 : Int32), iv (0 : Int32), rv b102, rv b111, rv b115, rv b119, iv (1 : Int32)] [(.long q2)]))
        refine own_st (fun _ k => XS.lload X328.here hx rfl (hb hby at_249) rfl  k) ?_
        show own_Goes p e below s _ _ (T328.setTop (mkF m 251 #[own_jv q0, .second, own_jv q1, .second, own_jv q2, .second, iv p3, iv p4, iv p5, iv (2 : Int32), iv (1 : Int32), iv (0 : Int32), rv b102, rv b111, rv b115, rv b119, iv (1 : Int32)] [(.long q2), (.long q2)]))
        refine own_st (fun _ k => XS.lcmp X328.here hx rfl (hb hby at_251) rfl k) ?_
        show own_Goes p e below s _ _ (T328.setTop (mkF m 252 #[own_jv q0, .second, own_jv q1, .second, own_jv q2, .second, iv p3, iv p4, iv p5, iv (2 : Int32), iv (1 : Int32), iv (0 : Int32), rv b102, rv b111, rv b115, rv b119, iv (1 : Int32)] [(.int (lcmpW q2 q2))]))
        refine own_st (fun _ k => XS.ifNo X328.here hx rfl (hb hby at_252) rfl ((if0 _ _).trans (teq ((lw_eq _ _).mpr (rfl : q2 = q2))).2) k) ?_
        show own_Goes p e below s _ _ (T328.setTop (mkF m 255 #[own_jv q0, .second, own_jv q1, .second, own_jv q2, .second, iv p3, iv p4, iv p5, iv (2 : Int32), iv (1 : Int32), iv (0 : Int32), rv b102, rv b111, rv b115, rv b119, iv (1 : Int32)] []))
        refine own_st (fun _ k => XS.iconst X328.here hx rfl (hb hby at_255) k) ?_
        show own_Goes p e below s _ _ (T328.setTop (mkF m 256 #[own_jv q0, .second, own_jv q1, .second, own_jv q2, .second, iv p3, iv p4, iv p5, iv (2 : Int32), iv (1 : Int32), iv (0 : Int32), rv b102, rv b111, rv b115, rv b119, iv (1 : Int32)] [(.int (1 : Int32))]))
        refine own_st (fun _ k => XS.goto X328.here hx rfl (pc0 := 256) (pc' := 260) rfl (hb hby at_256) (by decide) (by decide) k) ?_
        show own_Goes p e below s _ _ (T328.setTop (mkF m 260 #[own_jv q0, .second, own_jv q1, .second, own_jv q2, .second, iv p3, iv p4, iv p5, iv (2 : Int32), iv (1 : Int32), iv (0 : Int32), rv b102, rv b111, rv b115, rv b119, iv (1 : Int32)] [(.int (1 : Int32))]))
        refine own_st (fun _ k => XS.istore X328.here hx rfl (hb hby at_260) rfl (l' := #[own_jv q0, .second, own_jv q1, .second, own_jv q2, .second, iv p3, iv p4, iv p5, iv (2 : Int32), iv (1 : Int32), iv (0 : Int32), rv b102, rv b111, rv b115, rv b119, iv (1 : Int32)]) rfl k) ?_
        show own_Goes p e below s _ _ (T328.setTop (mkF m 262 #[own_jv q0, .second, own_jv q1, .second, own_jv q2, .second, iv p3, iv p4, iv p5, iv (2 : Int32), iv (1 : Int32), iv (0 : Int32), rv b102, rv b111, rv b115, rv b119, iv (1 : Int32)] []))
        refine own_st (fun _ k => XS.iload X328.here hx rfl (hb hby at_262) rfl  k) ?_
        show own_Goes p e below s _ _ (T328.setTop (mkF m 264 #[own_jv q0, .second, own_jv q1, .second, own_jv q2, .second, iv p3, iv p4, iv p5, iv (2 : Int32), iv (1 : Int32), iv (0 : Int32), rv b102, rv b111, rv b115, rv b119, iv (1 : Int32)] [(.int (1 : Int32))]))
        exact own_retN X328 hx hlk (1 : Int32) hret (Or.inl rfl) rfl (hb hby at_264) (by decide) (by decide) ⟨rfl, N328⟩
      · show own_Goes p e below s _ _ (T119.setTop (mkF m 141 #[own_jv q0, .second, own_jv q1, .second, own_jv q2, .second, iv p3, iv p4, iv p5, iv (2 : Int32), iv (2 : Int32), iv (0 : Int32), rv b102, rv b111, rv b115, rv b119, .unset] []))
        refine own_st (fun _ k => XS.aload X119.here hx rfl (hb hby at_141) rfl rfl  k) ?_
        show own_Goes p e below s _ _ (T119.setTop (mkF m 143 #[own_jv q0, .second, own_jv q1, .second, own_jv q2, .second, iv p3, iv p4, iv p5, iv (2 : Int32), iv (2 : Int32), iv (0 : Int32), rv b102, rv b111, rv b115, rv b119, .unset] [(.ref b115)]))
        refine own_st (fun _ k => XS.iload X119.here hx rfl (hb hby at_143) rfl  k) ?_
        show own_Goes p e below s _ _ (T119.setTop (mkF m 145 #[own_jv q0, .second, own_jv q1, .second, own_jv q2, .second, iv p3, iv p4, iv p5, iv (2 : Int32), iv (2 : Int32), iv (0 : Int32), rv b102, rv b111, rv b115, rv b119, .unset] [(.int (2 : Int32)), (.ref b115)]))
        refine own_st (fun _ k => XS.aload X119.here hx rfl (hb hby at_145) rfl rfl  k) ?_
        show own_Goes p e below s _ _ (T119.setTop (mkF m 147 #[own_jv q0, .second, own_jv q1, .second, own_jv q2, .second, iv p3, iv p4, iv p5, iv (2 : Int32), iv (2 : Int32), iv (0 : Int32), rv b102, rv b111, rv b115, rv b119, .unset] [(.ref b111), (.int (2 : Int32)), (.ref b115)]))
        refine own_st (fun _ k => XS.iload X119.here hx rfl (hb hby at_147) rfl  k) ?_
        show own_Goes p e below s _ _ (T119.setTop (mkF m 149 #[own_jv q0, .second, own_jv q1, .second, own_jv q2, .second, iv p3, iv p4, iv p5, iv (2 : Int32), iv (2 : Int32), iv (0 : Int32), rv b102, rv b111, rv b115, rv b119, .unset] [(.int (2 : Int32)), (.ref b111), (.int (2 : Int32)), (.ref b115)]))
        have f329 := (((((V114.ext E115).other W116 (own_ne (by omega))).other W117 (own_ne (by omega))).other W118 (own_ne (by omega))).keep K119 nin0)
        refine own_st (fun _ k => own_ldJ X119 hx hZ rfl f329 (j := (2 : Int32)) (by decide) (g := (mkF m 149 #[own_jv q0, .second, own_jv q1, .second, own_jv q2, .second, iv p3, iv p4, iv p5, iv (2 : Int32), iv (2 : Int32), iv (0 : Int32), rv b102, rv b111, rv b115, rv b119, .unset] [(.int (2 : Int32)), (.ref b111), (.int (2 : Int32)), (.ref b115)])) rfl rfl (hb hby at_149) _ k) ?_
        show own_Goes p e below s _ _ (T119.setTop (mkF m 150 #[own_jv q0, .second, own_jv q1, .second, own_jv q2, .second, iv p3, iv p4, iv p5, iv (2 : Int32), iv (2 : Int32), iv (0 : Int32), rv b102, rv b111, rv b115, rv b119, .unset] [(.long q2), (.int (2 : Int32)), (.ref b115)]))
        have f330 := (V118.keep K119 nin0)
        obtain ⟨T331, h331, X331, e331, W331, A331, st331⟩ := own_stJ X119 hx hZ rfl f330 (j := (2 : Int32)) (by decide) (g := (mkF m 150 #[own_jv q0, .second, own_jv q1, .second, own_jv q2, .second, iv p3, iv p4, iv p5, iv (2 : Int32), iv (2 : Int32), iv (0 : Int32), rv b102, rv b111, rv b115, rv b119, .unset] [(.long q2), (.int (2 : Int32)), (.ref b115)])) rfl rfl (hb hby at_150)
        have V331 : own_Arf Z h331 b115 .long 3 (fun k => .long ((fun k => if k = 2 then q2 else (fun k => if k = 2 then q0 else (fun k => if k = 1 then q0 else (fun k => if k = 0 then q0 else (fun _ => (0 : Int64)) k) k) k) k) k)) := A331
        have z331 := W331.size
        have N331 := Fr.snoc X331 N119 (by omega)
        refine own_st st331 ?_
        show own_Goes p e below s _ _ (T331.setTop (mkF m 151 #[own_jv q0, .second, own_jv q1, .second, own_jv q2, .second, iv p3, iv p4, iv p5, iv (2 : Int32), iv (2 : Int32), iv (0 : Int32), rv b102, rv b111, rv b115, rv b119, .unset] []))
        refine own_st (fun _ k => XS.aload X331.here hx rfl (hb hby at_151) rfl rfl  k) ?_
        show own_Goes p e below s _ _ (T331.setTop (mkF m 153 #[own_jv q0, .second, own_jv q1, .second, own_jv q2, .second, iv p3, iv p4, iv p5, iv (2 : Int32), iv (2 : Int32), iv (0 : Int32), rv b102, rv b111, rv b115, rv b119, .unset] [(.ref b102)]))
        refine own_st (fun _ k => XS.iload X331.here hx rfl (hb hby at_153) rfl  k) ?_
        show own_Goes p e below s _ _ (T331.setTop (mkF m 155 #[own_jv q0, .second, own_jv q1, .second, own_jv q2, .second, iv p3, iv p4, iv p5, iv (2 : Int32), iv (2 : Int32), iv (0 : Int32), rv b102, rv b111, rv b115, rv b119, .unset] [(.int (2 : Int32)), (.ref b102)]))
        refine own_st (fun _ k => XS.aload X331.here hx rfl (hb hby at_155) rfl rfl  k) ?_
        show own_Goes p e below s _ _ (T331.setTop (mkF m 157 #[own_jv q0, .second, own_jv q1, .second, own_jv q2, .second, iv p3, iv p4, iv p5, iv (2 : Int32), iv (2 : Int32), iv (0 : Int32), rv b102, rv b111, rv b115, rv b119, .unset] [(.ref b119), (.int (2 : Int32)), (.ref b102)]))
        refine own_st (fun _ k => XS.iload X331.here hx rfl (hb hby at_157) rfl  k) ?_
        show own_Goes p e below s _ _ (T331.setTop (mkF m 159 #[own_jv q0, .second, own_jv q1, .second, own_jv q2, .second, iv p3, iv p4, iv p5, iv (2 : Int32), iv (2 : Int32), iv (0 : Int32), rv b102, rv b111, rv b115, rv b119, .unset] [(.int (2 : Int32)), (.ref b119), (.int (2 : Int32)), (.ref b102)]))
        have f333 := ((f120.keep K119 nin0).other W331 (Or.inl (own_ne (by omega))))
        have f334 := (Fc119.other W331 (Or.inl (own_ne (by omega))))
        have f335 := ((((((((((Vd109.ext E111).other W112 (own_ne (by omega))).other W113 (own_ne (by omega))).other W114 (own_ne (by omega))).ext E115).other W116 (own_ne (by omega))).other W117 (own_ne (by omega))).other W118 (own_ne (by omega))).keep K119 nin0).other W331 (own_ne (by omega)))
        have f336 := (Vc119.other W331 (own_ne (by omega)))
        have f337 := ((f128.keep K119).wr W331)
        obtain ⟨v332, T332, L332, X332, Q332, st332⟩ := own_callV X331 hx hZ (C := "com/example/reach2/reach2/model/CodedColumn") (y := (⟨"com/example/reach2/reach2/model/CodedColumn", "copyTo", "(ILcom/example/reach2/reach2/model/CodedColumn;I)V"⟩ : MethodName)) hown (hw _ (List.mem_of_getElem? (i := 38) rfl)) (hw _ (List.mem_of_getElem? (i := 39) rfl)) (hw _ (List.mem_of_getElem? (i := 41) rfl)) (hw _ (List.mem_of_getElem? (i := 40) rfl)) (hw _ (List.mem_of_getElem? (i := 3) rfl)) (hw _ (List.mem_of_getElem? (i := 42) rfl)) (by decide) (W := 0) (rest := []) (argsL := [(.int (2 : Int32)), (.ref b119), (.int (2 : Int32))]) (a := b102) (rmCT l Z a0 hw [] b102 (2 : Int32) b119 (2 : Int32) ac103 bc119 _ _ h331 n0 (by omega) f333 f334 f335 f336 (by decide) (by decide) (by omega)) (by decide) (by decide) (by decide) (by decide) e331 f337 own_pd5 rfl (g := (mkF m 159 #[own_jv q0, .second, own_jv q1, .second, own_jv q2, .second, iv p3, iv p4, iv p5, iv (2 : Int32), iv (2 : Int32), iv (0 : Int32), rv b102, rv b111, rv b115, rv b119, .unset] [(.int (2 : Int32)), (.ref b119), (.int (2 : Int32)), (.ref b102)])) rfl (by rw [hml]; rfl) rfl (by show 2 * 0 + _ ≤ _; exact Nat.le_of_eq rfl) (hb hby at_159)
        obtain ⟨rfl, N332q, K332, V332⟩ := Q332
        have z332 := K332.1
        have Vt332 : own_Arf Z T332.heap bc119 .byte 3 (fun k => .int ((fun k => if k = 2 then (nar .byte (nar .byte (r109.toInt8.toInt32))) else (fun _ => (0 : Int32)) k) k)) := V332
        have N332 := Fr.app N331 N332q
        refine own_st st332 ?_
        show own_Goes p e below s _ _ (T332.setTop (mkF m 162 #[own_jv q0, .second, own_jv q1, .second, own_jv q2, .second, iv p3, iv p4, iv p5, iv (2 : Int32), iv (2 : Int32), iv (0 : Int32), rv b102, rv b111, rv b115, rv b119, .unset] []))
        refine own_st (fun _ k => XS.aload X332.here hx rfl (hb hby at_162) rfl rfl  k) ?_
        show own_Goes p e below s _ _ (T332.setTop (mkF m 164 #[own_jv q0, .second, own_jv q1, .second, own_jv q2, .second, iv p3, iv p4, iv p5, iv (2 : Int32), iv (2 : Int32), iv (0 : Int32), rv b102, rv b111, rv b115, rv b119, .unset] [(.ref b119)]))
        refine own_st (fun _ k => XS.iconst X332.here hx rfl (hb hby at_164) k) ?_
        show own_Goes p e below s _ _ (T332.setTop (mkF m 165 #[own_jv q0, .second, own_jv q1, .second, own_jv q2, .second, iv p3, iv p4, iv p5, iv (2 : Int32), iv (2 : Int32), iv (0 : Int32), rv b102, rv b111, rv b115, rv b119, .unset] [(.int (0 : Int32)), (.ref b119)]))
        have f339 := (f334.keep K332 (ninS (own_ne (by omega)) nin0))
        have f340 := ((Fv119.other W331 (Or.inl (own_ne (by omega)))).keep K332 (ninS (own_ne (by omega)) nin0))
        have f341 := ((Vv119.other W331 (own_ne (by omega))).keep K332 (ninS (own_ne (by omega)) nin0))
        have f342 := ((A119.wr W331).keep K332)
        obtain ⟨v338, T338, L338, X338, Q338, st338⟩ := own_callV X332 hx hZ (C := "com/example/reach2/reach2/model/CodedColumn") (y := (⟨"com/example/reach2/reach2/model/CodedColumn", "get", "(I)J"⟩ : MethodName)) hown (hw _ (List.mem_of_getElem? (i := 43) rfl)) (hw _ (List.mem_of_getElem? (i := 44) rfl)) (hw _ (List.mem_of_getElem? (i := 46) rfl)) (hw _ (List.mem_of_getElem? (i := 45) rfl)) (hw _ (List.mem_of_getElem? (i := 3) rfl)) (hw _ (List.mem_of_getElem? (i := 47) rfl)) (by decide) (W := 0) (rest := []) (argsL := [(.int (0 : Int32))]) (a := b119) (rmGet l Z a0 hw [] b119 (0 : Int32) _ _ _ _ T332.heap n0 (by omega) f339 f340 Vt332 f341 (by decide)) (by decide) (by decide) (by decide) (by decide) rfl f342 own_pd6 rfl (g := (mkF m 165 #[own_jv q0, .second, own_jv q1, .second, own_jv q2, .second, iv p3, iv p4, iv p5, iv (2 : Int32), iv (2 : Int32), iv (0 : Int32), rv b102, rv b111, rv b115, rv b119, .unset] [(.int (0 : Int32)), (.ref b119)])) rfl (by rw [hml]; rfl) rfl (by show 2 * 0 + _ ≤ _; exact Nat.le_of_eq rfl) (hb hby at_165)
        obtain ⟨g338, rfl, hg338, N338q, e338⟩ := Q338
        obtain rfl : q0 = g338 := (hg338.trans (own_at0 (by omega) ((rf109 _ (by omega)).trans ((rf107 _ (by omega)).trans re104)))).symm
        have N338 := Fr.app N332 N338q
        refine own_st st338 ?_
        show own_Goes p e below s _ _ (T338.setTop (mkF m 168 #[own_jv q0, .second, own_jv q1, .second, own_jv q2, .second, iv p3, iv p4, iv p5, iv (2 : Int32), iv (2 : Int32), iv (0 : Int32), rv b102, rv b111, rv b115, rv b119, .unset] [(.long q0)]))
        refine own_st (fun _ k => XS.aload X338.here hx rfl (hb hby at_168) rfl rfl  k) ?_
        show own_Goes p e below s _ _ (T338.setTop (mkF m 170 #[own_jv q0, .second, own_jv q1, .second, own_jv q2, .second, iv p3, iv p4, iv p5, iv (2 : Int32), iv (2 : Int32), iv (0 : Int32), rv b102, rv b111, rv b115, rv b119, .unset] [(.ref b115), (.long q0)]))
        refine own_st (fun _ k => XS.iconst X338.here hx rfl (hb hby at_170) k) ?_
        show own_Goes p e below s _ _ (T338.setTop (mkF m 171 #[own_jv q0, .second, own_jv q1, .second, own_jv q2, .second, iv p3, iv p4, iv p5, iv (2 : Int32), iv (2 : Int32), iv (0 : Int32), rv b102, rv b111, rv b115, rv b119, .unset] [(.int (0 : Int32)), (.ref b115), (.long q0)]))
        have f343 := (V331.keep K332 (ninS (own_ne (by omega)) nin0))
        refine own_st (fun _ k => own_ldJ X338 hx hZ e338 f343 (j := (0 : Int32)) (by decide) (g := (mkF m 171 #[own_jv q0, .second, own_jv q1, .second, own_jv q2, .second, iv p3, iv p4, iv p5, iv (2 : Int32), iv (2 : Int32), iv (0 : Int32), rv b102, rv b111, rv b115, rv b119, .unset] [(.int (0 : Int32)), (.ref b115), (.long q0)])) rfl rfl (hb hby at_171) _ k) ?_
        show own_Goes p e below s _ _ (T338.setTop (mkF m 172 #[own_jv q0, .second, own_jv q1, .second, own_jv q2, .second, iv p3, iv p4, iv p5, iv (2 : Int32), iv (2 : Int32), iv (0 : Int32), rv b102, rv b111, rv b115, rv b119, .unset] [(.long q0), (.long q0)]))
        refine own_st (fun _ k => XS.lcmp X338.here hx rfl (hb hby at_172) rfl k) ?_
        show own_Goes p e below s _ _ (T338.setTop (mkF m 173 #[own_jv q0, .second, own_jv q1, .second, own_jv q2, .second, iv p3, iv p4, iv p5, iv (2 : Int32), iv (2 : Int32), iv (0 : Int32), rv b102, rv b111, rv b115, rv b119, .unset] [(.int (lcmpW q0 q0))]))
        refine own_st (fun _ k => XS.ifNo X338.here hx rfl (hb hby at_173) rfl ((if0 _ _).trans (teq ((lw_eq _ _).mpr (rfl : q0 = q0))).2) k) ?_
        show own_Goes p e below s _ _ (T338.setTop (mkF m 176 #[own_jv q0, .second, own_jv q1, .second, own_jv q2, .second, iv p3, iv p4, iv p5, iv (2 : Int32), iv (2 : Int32), iv (0 : Int32), rv b102, rv b111, rv b115, rv b119, .unset] []))
        refine own_st (fun _ k => XS.aload X338.here hx rfl (hb hby at_176) rfl rfl  k) ?_
        show own_Goes p e below s _ _ (T338.setTop (mkF m 178 #[own_jv q0, .second, own_jv q1, .second, own_jv q2, .second, iv p3, iv p4, iv p5, iv (2 : Int32), iv (2 : Int32), iv (0 : Int32), rv b102, rv b111, rv b115, rv b119, .unset] [(.ref b119)]))
        refine own_st (fun _ k => XS.iconst X338.here hx rfl (hb hby at_178) k) ?_
        show own_Goes p e below s _ _ (T338.setTop (mkF m 179 #[own_jv q0, .second, own_jv q1, .second, own_jv q2, .second, iv p3, iv p4, iv p5, iv (2 : Int32), iv (2 : Int32), iv (0 : Int32), rv b102, rv b111, rv b115, rv b119, .unset] [(.int (1 : Int32)), (.ref b119)]))
        obtain ⟨v344, T344, L344, X344, Q344, st344⟩ := own_callV X338 hx hZ (C := "com/example/reach2/reach2/model/CodedColumn") (y := (⟨"com/example/reach2/reach2/model/CodedColumn", "get", "(I)J"⟩ : MethodName)) hown (hw _ (List.mem_of_getElem? (i := 43) rfl)) (hw _ (List.mem_of_getElem? (i := 44) rfl)) (hw _ (List.mem_of_getElem? (i := 46) rfl)) (hw _ (List.mem_of_getElem? (i := 45) rfl)) (hw _ (List.mem_of_getElem? (i := 3) rfl)) (hw _ (List.mem_of_getElem? (i := 47) rfl)) (by decide) (W := 0) (rest := []) (argsL := [(.int (1 : Int32))]) (a := b119) (rmGet l Z a0 hw [] b119 (1 : Int32) _ _ _ _ T332.heap n0 (by omega) f339 f340 Vt332 f341 (by decide)) (by decide) (by decide) (by decide) (by decide) e338 f342 own_pd6 rfl (g := (mkF m 179 #[own_jv q0, .second, own_jv q1, .second, own_jv q2, .second, iv p3, iv p4, iv p5, iv (2 : Int32), iv (2 : Int32), iv (0 : Int32), rv b102, rv b111, rv b115, rv b119, .unset] [(.int (1 : Int32)), (.ref b119)])) rfl (by rw [hml]; rfl) rfl (by show 2 * 0 + _ ≤ _; exact Nat.le_of_eq rfl) (hb hby at_179)
        obtain ⟨g344, rfl, hg344, N344q, e344⟩ := Q344
        obtain rfl : q0 = g344 := (hg344.trans (own_at0 (by omega) ((rf109 _ (by omega)).trans ((rf107 _ (by omega)).trans re104)))).symm
        have N344 := Fr.app N338 N344q
        refine own_st st344 ?_
        show own_Goes p e below s _ _ (T344.setTop (mkF m 182 #[own_jv q0, .second, own_jv q1, .second, own_jv q2, .second, iv p3, iv p4, iv p5, iv (2 : Int32), iv (2 : Int32), iv (0 : Int32), rv b102, rv b111, rv b115, rv b119, .unset] [(.long q0)]))
        refine own_st (fun _ k => XS.aload X344.here hx rfl (hb hby at_182) rfl rfl  k) ?_
        show own_Goes p e below s _ _ (T344.setTop (mkF m 184 #[own_jv q0, .second, own_jv q1, .second, own_jv q2, .second, iv p3, iv p4, iv p5, iv (2 : Int32), iv (2 : Int32), iv (0 : Int32), rv b102, rv b111, rv b115, rv b119, .unset] [(.ref b115), (.long q0)]))
        refine own_st (fun _ k => XS.iconst X344.here hx rfl (hb hby at_184) k) ?_
        show own_Goes p e below s _ _ (T344.setTop (mkF m 185 #[own_jv q0, .second, own_jv q1, .second, own_jv q2, .second, iv p3, iv p4, iv p5, iv (2 : Int32), iv (2 : Int32), iv (0 : Int32), rv b102, rv b111, rv b115, rv b119, .unset] [(.int (1 : Int32)), (.ref b115), (.long q0)]))
        refine own_st (fun _ k => own_ldJ X344 hx hZ e344 f343 (j := (1 : Int32)) (by decide) (g := (mkF m 185 #[own_jv q0, .second, own_jv q1, .second, own_jv q2, .second, iv p3, iv p4, iv p5, iv (2 : Int32), iv (2 : Int32), iv (0 : Int32), rv b102, rv b111, rv b115, rv b119, .unset] [(.int (1 : Int32)), (.ref b115), (.long q0)])) rfl rfl (hb hby at_185) _ k) ?_
        show own_Goes p e below s _ _ (T344.setTop (mkF m 186 #[own_jv q0, .second, own_jv q1, .second, own_jv q2, .second, iv p3, iv p4, iv p5, iv (2 : Int32), iv (2 : Int32), iv (0 : Int32), rv b102, rv b111, rv b115, rv b119, .unset] [(.long q0), (.long q0)]))
        refine own_st (fun _ k => XS.lcmp X344.here hx rfl (hb hby at_186) rfl k) ?_
        show own_Goes p e below s _ _ (T344.setTop (mkF m 187 #[own_jv q0, .second, own_jv q1, .second, own_jv q2, .second, iv p3, iv p4, iv p5, iv (2 : Int32), iv (2 : Int32), iv (0 : Int32), rv b102, rv b111, rv b115, rv b119, .unset] [(.int (lcmpW q0 q0))]))
        refine own_st (fun _ k => XS.ifNo X344.here hx rfl (hb hby at_187) rfl ((if0 _ _).trans (teq ((lw_eq _ _).mpr (rfl : q0 = q0))).2) k) ?_
        show own_Goes p e below s _ _ (T344.setTop (mkF m 190 #[own_jv q0, .second, own_jv q1, .second, own_jv q2, .second, iv p3, iv p4, iv p5, iv (2 : Int32), iv (2 : Int32), iv (0 : Int32), rv b102, rv b111, rv b115, rv b119, .unset] []))
        refine own_st (fun _ k => XS.aload X344.here hx rfl (hb hby at_190) rfl rfl  k) ?_
        show own_Goes p e below s _ _ (T344.setTop (mkF m 192 #[own_jv q0, .second, own_jv q1, .second, own_jv q2, .second, iv p3, iv p4, iv p5, iv (2 : Int32), iv (2 : Int32), iv (0 : Int32), rv b102, rv b111, rv b115, rv b119, .unset] [(.ref b119)]))
        refine own_st (fun _ k => XS.iconst X344.here hx rfl (hb hby at_192) k) ?_
        show own_Goes p e below s _ _ (T344.setTop (mkF m 193 #[own_jv q0, .second, own_jv q1, .second, own_jv q2, .second, iv p3, iv p4, iv p5, iv (2 : Int32), iv (2 : Int32), iv (0 : Int32), rv b102, rv b111, rv b115, rv b119, .unset] [(.int (2 : Int32)), (.ref b119)]))
        obtain ⟨v345, T345, L345, X345, Q345, st345⟩ := own_callV X344 hx hZ (C := "com/example/reach2/reach2/model/CodedColumn") (y := (⟨"com/example/reach2/reach2/model/CodedColumn", "get", "(I)J"⟩ : MethodName)) hown (hw _ (List.mem_of_getElem? (i := 43) rfl)) (hw _ (List.mem_of_getElem? (i := 44) rfl)) (hw _ (List.mem_of_getElem? (i := 46) rfl)) (hw _ (List.mem_of_getElem? (i := 45) rfl)) (hw _ (List.mem_of_getElem? (i := 3) rfl)) (hw _ (List.mem_of_getElem? (i := 47) rfl)) (by decide) (W := 0) (rest := []) (argsL := [(.int (2 : Int32))]) (a := b119) (rmGet l Z a0 hw [] b119 (2 : Int32) _ _ _ _ T332.heap n0 (by omega) f339 f340 Vt332 f341 (by decide)) (by decide) (by decide) (by decide) (by decide) e344 f342 own_pd6 rfl (g := (mkF m 193 #[own_jv q0, .second, own_jv q1, .second, own_jv q2, .second, iv p3, iv p4, iv p5, iv (2 : Int32), iv (2 : Int32), iv (0 : Int32), rv b102, rv b111, rv b115, rv b119, .unset] [(.int (2 : Int32)), (.ref b119)])) rfl (by rw [hml]; rfl) rfl (by show 2 * 0 + _ ≤ _; exact Nat.le_of_eq rfl) (hb hby at_193)
        obtain ⟨g345, rfl, hg345, N345q, e345⟩ := Q345
        obtain rfl : q2 = g345 := (hg345.trans (own_at2 (by omega) re109)).symm
        have N345 := Fr.app N344 N345q
        refine own_st st345 ?_
        show own_Goes p e below s _ _ (T345.setTop (mkF m 196 #[own_jv q0, .second, own_jv q1, .second, own_jv q2, .second, iv p3, iv p4, iv p5, iv (2 : Int32), iv (2 : Int32), iv (0 : Int32), rv b102, rv b111, rv b115, rv b119, .unset] [(.long q2)]))
        refine own_st (fun _ k => XS.aload X345.here hx rfl (hb hby at_196) rfl rfl  k) ?_
        show own_Goes p e below s _ _ (T345.setTop (mkF m 198 #[own_jv q0, .second, own_jv q1, .second, own_jv q2, .second, iv p3, iv p4, iv p5, iv (2 : Int32), iv (2 : Int32), iv (0 : Int32), rv b102, rv b111, rv b115, rv b119, .unset] [(.ref b115), (.long q2)]))
        refine own_st (fun _ k => XS.iconst X345.here hx rfl (hb hby at_198) k) ?_
        show own_Goes p e below s _ _ (T345.setTop (mkF m 199 #[own_jv q0, .second, own_jv q1, .second, own_jv q2, .second, iv p3, iv p4, iv p5, iv (2 : Int32), iv (2 : Int32), iv (0 : Int32), rv b102, rv b111, rv b115, rv b119, .unset] [(.int (2 : Int32)), (.ref b115), (.long q2)]))
        refine own_st (fun _ k => own_ldJ X345 hx hZ e345 f343 (j := (2 : Int32)) (by decide) (g := (mkF m 199 #[own_jv q0, .second, own_jv q1, .second, own_jv q2, .second, iv p3, iv p4, iv p5, iv (2 : Int32), iv (2 : Int32), iv (0 : Int32), rv b102, rv b111, rv b115, rv b119, .unset] [(.int (2 : Int32)), (.ref b115), (.long q2)])) rfl rfl (hb hby at_199) _ k) ?_
        show own_Goes p e below s _ _ (T345.setTop (mkF m 200 #[own_jv q0, .second, own_jv q1, .second, own_jv q2, .second, iv p3, iv p4, iv p5, iv (2 : Int32), iv (2 : Int32), iv (0 : Int32), rv b102, rv b111, rv b115, rv b119, .unset] [(.long q2), (.long q2)]))
        refine own_st (fun _ k => XS.lcmp X345.here hx rfl (hb hby at_200) rfl k) ?_
        show own_Goes p e below s _ _ (T345.setTop (mkF m 201 #[own_jv q0, .second, own_jv q1, .second, own_jv q2, .second, iv p3, iv p4, iv p5, iv (2 : Int32), iv (2 : Int32), iv (0 : Int32), rv b102, rv b111, rv b115, rv b119, .unset] [(.int (lcmpW q2 q2))]))
        refine own_st (fun _ k => XS.ifNo X345.here hx rfl (hb hby at_201) rfl ((if0 _ _).trans (teq ((lw_eq _ _).mpr (rfl : q2 = q2))).2) k) ?_
        show own_Goes p e below s _ _ (T345.setTop (mkF m 204 #[own_jv q0, .second, own_jv q1, .second, own_jv q2, .second, iv p3, iv p4, iv p5, iv (2 : Int32), iv (2 : Int32), iv (0 : Int32), rv b102, rv b111, rv b115, rv b119, .unset] []))
        refine own_st (fun _ k => XS.iconst X345.here hx rfl (hb hby at_204) k) ?_
        show own_Goes p e below s _ _ (T345.setTop (mkF m 205 #[own_jv q0, .second, own_jv q1, .second, own_jv q2, .second, iv p3, iv p4, iv p5, iv (2 : Int32), iv (2 : Int32), iv (0 : Int32), rv b102, rv b111, rv b115, rv b119, .unset] [(.int (1 : Int32))]))
        refine own_st (fun _ k => XS.goto X345.here hx rfl (pc0 := 205) (pc' := 209) rfl (hb hby at_205) (by decide) (by decide) k) ?_
        show own_Goes p e below s _ _ (T345.setTop (mkF m 209 #[own_jv q0, .second, own_jv q1, .second, own_jv q2, .second, iv p3, iv p4, iv p5, iv (2 : Int32), iv (2 : Int32), iv (0 : Int32), rv b102, rv b111, rv b115, rv b119, .unset] [(.int (1 : Int32))]))
        refine own_st (fun _ k => XS.istore X345.here hx rfl (hb hby at_209) rfl (l' := #[own_jv q0, .second, own_jv q1, .second, own_jv q2, .second, iv p3, iv p4, iv p5, iv (2 : Int32), iv (2 : Int32), iv (0 : Int32), rv b102, rv b111, rv b115, rv b119, iv (1 : Int32)]) rfl k) ?_
        show own_Goes p e below s _ _ (T345.setTop (mkF m 211 #[own_jv q0, .second, own_jv q1, .second, own_jv q2, .second, iv p3, iv p4, iv p5, iv (2 : Int32), iv (2 : Int32), iv (0 : Int32), rv b102, rv b111, rv b115, rv b119, iv (1 : Int32)] []))
        refine own_st (fun _ k => XS.iload X345.here hx rfl (hb hby at_211) rfl  k) ?_
        show own_Goes p e below s _ _ (T345.setTop (mkF m 213 #[own_jv q0, .second, own_jv q1, .second, own_jv q2, .second, iv p3, iv p4, iv p5, iv (2 : Int32), iv (2 : Int32), iv (0 : Int32), rv b102, rv b111, rv b115, rv b119, iv (1 : Int32)] [(.int (0 : Int32))]))
        refine own_st (fun _ k => XS.ifNo X345.here hx rfl (hb hby at_213) rfl ((if0 _ _).trans (teq (by decide : (0 : Int32) = (0 : Int32))).2) k) ?_
        show own_Goes p e below s _ _ (T345.setTop (mkF m 216 #[own_jv q0, .second, own_jv q1, .second, own_jv q2, .second, iv p3, iv p4, iv p5, iv (2 : Int32), iv (2 : Int32), iv (0 : Int32), rv b102, rv b111, rv b115, rv b119, iv (1 : Int32)] []))
        refine own_st (fun _ k => XS.iload X345.here hx rfl (hb hby at_216) rfl  k) ?_
        show own_Goes p e below s _ _ (T345.setTop (mkF m 218 #[own_jv q0, .second, own_jv q1, .second, own_jv q2, .second, iv p3, iv p4, iv p5, iv (2 : Int32), iv (2 : Int32), iv (0 : Int32), rv b102, rv b111, rv b115, rv b119, iv (1 : Int32)] [(.int (1 : Int32))]))
        refine own_st (fun _ k => XS.ifNo X345.here hx rfl (hb hby at_218) rfl ((if0 _ _).trans (feq (by decide : ¬ ((1 : Int32) = (0 : Int32)))).1) k) ?_
        show own_Goes p e below s _ _ (T345.setTop (mkF m 221 #[own_jv q0, .second, own_jv q1, .second, own_jv q2, .second, iv p3, iv p4, iv p5, iv (2 : Int32), iv (2 : Int32), iv (0 : Int32), rv b102, rv b111, rv b115, rv b119, iv (1 : Int32)] []))
        refine own_st (fun _ k => XS.aload X345.here hx rfl (hb hby at_221) rfl rfl  k) ?_
        show own_Goes p e below s _ _ (T345.setTop (mkF m 223 #[own_jv q0, .second, own_jv q1, .second, own_jv q2, .second, iv p3, iv p4, iv p5, iv (2 : Int32), iv (2 : Int32), iv (0 : Int32), rv b102, rv b111, rv b115, rv b119, iv (1 : Int32)] [(.ref b102)]))
        refine own_st (fun _ k => XS.iconst X345.here hx rfl (hb hby at_223) k) ?_
        show own_Goes p e below s _ _ (T345.setTop (mkF m 224 #[own_jv q0, .second, own_jv q1, .second, own_jv q2, .second, iv p3, iv p4, iv p5, iv (2 : Int32), iv (2 : Int32), iv (0 : Int32), rv b102, rv b111, rv b115, rv b119, iv (1 : Int32)] [(.int (0 : Int32)), (.ref b102)]))
        have f347 := (f333.keep K332 (ninS (own_ne (by omega)) nin0))
        have f348 := (((f121.keep K119 nin0).other W331 (Or.inl (own_ne (by omega)))).keep K332 (ninS (own_ne (by omega)) nin0))
        have f349 := (f335.keep K332 (ninS (own_ne (by omega)) nin0))
        have f350 := (((f124.keep K119 nin0).other W331 (own_ne (by omega))).keep K332 (ninS (own_ne (by omega)) nin0))
        have f351 := (f337.keep K332)
        obtain ⟨v346, T346, L346, X346, Q346, st346⟩ := own_callV X345 hx hZ (C := "com/example/reach2/reach2/model/CodedColumn") (y := (⟨"com/example/reach2/reach2/model/CodedColumn", "get", "(I)J"⟩ : MethodName)) hown (hw _ (List.mem_of_getElem? (i := 43) rfl)) (hw _ (List.mem_of_getElem? (i := 44) rfl)) (hw _ (List.mem_of_getElem? (i := 46) rfl)) (hw _ (List.mem_of_getElem? (i := 45) rfl)) (hw _ (List.mem_of_getElem? (i := 3) rfl)) (hw _ (List.mem_of_getElem? (i := 47) rfl)) (by decide) (W := 0) (rest := []) (argsL := [(.int (0 : Int32))]) (a := b102) (rmGet l Z a0 hw [] b102 (0 : Int32) _ _ _ _ T332.heap n0 (by omega) f347 f348 f349 f350 (by decide)) (by decide) (by decide) (by decide) (by decide) e345 f351 own_pd6 rfl (g := (mkF m 224 #[own_jv q0, .second, own_jv q1, .second, own_jv q2, .second, iv p3, iv p4, iv p5, iv (2 : Int32), iv (2 : Int32), iv (0 : Int32), rv b102, rv b111, rv b115, rv b119, iv (1 : Int32)] [(.int (0 : Int32)), (.ref b102)])) rfl (by rw [hml]; rfl) rfl (by show 2 * 0 + _ ≤ _; exact Nat.le_of_eq rfl) (hb hby at_224)
        obtain ⟨g346, rfl, hg346, N346q, e346⟩ := Q346
        obtain rfl : q0 = g346 := (hg346.trans (own_at (by omega) ((rf109 _ (by omega)).trans ((rf107 _ (by omega)).trans re104)))).symm
        have N346 := Fr.app N345 N346q
        refine own_st st346 ?_
        show own_Goes p e below s _ _ (T346.setTop (mkF m 227 #[own_jv q0, .second, own_jv q1, .second, own_jv q2, .second, iv p3, iv p4, iv p5, iv (2 : Int32), iv (2 : Int32), iv (0 : Int32), rv b102, rv b111, rv b115, rv b119, iv (1 : Int32)] [(.long q0)]))
        refine own_st (fun _ k => XS.lloadN X346.here hx rfl (hb hby at_227) rfl  k) ?_
        show own_Goes p e below s _ _ (T346.setTop (mkF m 228 #[own_jv q0, .second, own_jv q1, .second, own_jv q2, .second, iv p3, iv p4, iv p5, iv (2 : Int32), iv (2 : Int32), iv (0 : Int32), rv b102, rv b111, rv b115, rv b119, iv (1 : Int32)] [(.long q0), (.long q0)]))
        refine own_st (fun _ k => XS.lcmp X346.here hx rfl (hb hby at_228) rfl k) ?_
        show own_Goes p e below s _ _ (T346.setTop (mkF m 229 #[own_jv q0, .second, own_jv q1, .second, own_jv q2, .second, iv p3, iv p4, iv p5, iv (2 : Int32), iv (2 : Int32), iv (0 : Int32), rv b102, rv b111, rv b115, rv b119, iv (1 : Int32)] [(.int (lcmpW q0 q0))]))
        refine own_st (fun _ k => XS.ifNo X346.here hx rfl (hb hby at_229) rfl ((if0 _ _).trans (teq ((lw_eq _ _).mpr (rfl : q0 = q0))).2) k) ?_
        show own_Goes p e below s _ _ (T346.setTop (mkF m 232 #[own_jv q0, .second, own_jv q1, .second, own_jv q2, .second, iv p3, iv p4, iv p5, iv (2 : Int32), iv (2 : Int32), iv (0 : Int32), rv b102, rv b111, rv b115, rv b119, iv (1 : Int32)] []))
        refine own_st (fun _ k => XS.aload X346.here hx rfl (hb hby at_232) rfl rfl  k) ?_
        show own_Goes p e below s _ _ (T346.setTop (mkF m 234 #[own_jv q0, .second, own_jv q1, .second, own_jv q2, .second, iv p3, iv p4, iv p5, iv (2 : Int32), iv (2 : Int32), iv (0 : Int32), rv b102, rv b111, rv b115, rv b119, iv (1 : Int32)] [(.ref b102)]))
        refine own_st (fun _ k => XS.iconst X346.here hx rfl (hb hby at_234) k) ?_
        show own_Goes p e below s _ _ (T346.setTop (mkF m 235 #[own_jv q0, .second, own_jv q1, .second, own_jv q2, .second, iv p3, iv p4, iv p5, iv (2 : Int32), iv (2 : Int32), iv (0 : Int32), rv b102, rv b111, rv b115, rv b119, iv (1 : Int32)] [(.int (1 : Int32)), (.ref b102)]))
        obtain ⟨v352, T352, L352, X352, Q352, st352⟩ := own_callV X346 hx hZ (C := "com/example/reach2/reach2/model/CodedColumn") (y := (⟨"com/example/reach2/reach2/model/CodedColumn", "get", "(I)J"⟩ : MethodName)) hown (hw _ (List.mem_of_getElem? (i := 43) rfl)) (hw _ (List.mem_of_getElem? (i := 44) rfl)) (hw _ (List.mem_of_getElem? (i := 46) rfl)) (hw _ (List.mem_of_getElem? (i := 45) rfl)) (hw _ (List.mem_of_getElem? (i := 3) rfl)) (hw _ (List.mem_of_getElem? (i := 47) rfl)) (by decide) (W := 0) (rest := []) (argsL := [(.int (1 : Int32))]) (a := b102) (rmGet l Z a0 hw [] b102 (1 : Int32) _ _ _ _ T332.heap n0 (by omega) f347 f348 f349 f350 (by decide)) (by decide) (by decide) (by decide) (by decide) e346 f351 own_pd6 rfl (g := (mkF m 235 #[own_jv q0, .second, own_jv q1, .second, own_jv q2, .second, iv p3, iv p4, iv p5, iv (2 : Int32), iv (2 : Int32), iv (0 : Int32), rv b102, rv b111, rv b115, rv b119, iv (1 : Int32)] [(.int (1 : Int32)), (.ref b102)])) rfl (by rw [hml]; rfl) rfl (by show 2 * 0 + _ ≤ _; exact Nat.le_of_eq rfl) (hb hby at_235)
        obtain ⟨g352, rfl, hg352, N352q, e352⟩ := Q352
        obtain rfl : q1 = g352 := (hg352.trans (own_at (by omega) ((rf109 _ (by omega)).trans re107))).symm
        have N352 := Fr.app N346 N352q
        refine own_st st352 ?_
        show own_Goes p e below s _ _ (T352.setTop (mkF m 238 #[own_jv q0, .second, own_jv q1, .second, own_jv q2, .second, iv p3, iv p4, iv p5, iv (2 : Int32), iv (2 : Int32), iv (0 : Int32), rv b102, rv b111, rv b115, rv b119, iv (1 : Int32)] [(.long q1)]))
        refine own_st (fun _ k => XS.lloadN X352.here hx rfl (hb hby at_238) rfl  k) ?_
        show own_Goes p e below s _ _ (T352.setTop (mkF m 239 #[own_jv q0, .second, own_jv q1, .second, own_jv q2, .second, iv p3, iv p4, iv p5, iv (2 : Int32), iv (2 : Int32), iv (0 : Int32), rv b102, rv b111, rv b115, rv b119, iv (1 : Int32)] [(.long q1), (.long q1)]))
        refine own_st (fun _ k => XS.lcmp X352.here hx rfl (hb hby at_239) rfl k) ?_
        show own_Goes p e below s _ _ (T352.setTop (mkF m 240 #[own_jv q0, .second, own_jv q1, .second, own_jv q2, .second, iv p3, iv p4, iv p5, iv (2 : Int32), iv (2 : Int32), iv (0 : Int32), rv b102, rv b111, rv b115, rv b119, iv (1 : Int32)] [(.int (lcmpW q1 q1))]))
        refine own_st (fun _ k => XS.ifNo X352.here hx rfl (hb hby at_240) rfl ((if0 _ _).trans (teq ((lw_eq _ _).mpr (rfl : q1 = q1))).2) k) ?_
        show own_Goes p e below s _ _ (T352.setTop (mkF m 243 #[own_jv q0, .second, own_jv q1, .second, own_jv q2, .second, iv p3, iv p4, iv p5, iv (2 : Int32), iv (2 : Int32), iv (0 : Int32), rv b102, rv b111, rv b115, rv b119, iv (1 : Int32)] []))
        refine own_st (fun _ k => XS.aload X352.here hx rfl (hb hby at_243) rfl rfl  k) ?_
        show own_Goes p e below s _ _ (T352.setTop (mkF m 245 #[own_jv q0, .second, own_jv q1, .second, own_jv q2, .second, iv p3, iv p4, iv p5, iv (2 : Int32), iv (2 : Int32), iv (0 : Int32), rv b102, rv b111, rv b115, rv b119, iv (1 : Int32)] [(.ref b102)]))
        refine own_st (fun _ k => XS.iconst X352.here hx rfl (hb hby at_245) k) ?_
        show own_Goes p e below s _ _ (T352.setTop (mkF m 246 #[own_jv q0, .second, own_jv q1, .second, own_jv q2, .second, iv p3, iv p4, iv p5, iv (2 : Int32), iv (2 : Int32), iv (0 : Int32), rv b102, rv b111, rv b115, rv b119, iv (1 : Int32)] [(.int (2 : Int32)), (.ref b102)]))
        obtain ⟨v353, T353, L353, X353, Q353, st353⟩ := own_callV X352 hx hZ (C := "com/example/reach2/reach2/model/CodedColumn") (y := (⟨"com/example/reach2/reach2/model/CodedColumn", "get", "(I)J"⟩ : MethodName)) hown (hw _ (List.mem_of_getElem? (i := 43) rfl)) (hw _ (List.mem_of_getElem? (i := 44) rfl)) (hw _ (List.mem_of_getElem? (i := 46) rfl)) (hw _ (List.mem_of_getElem? (i := 45) rfl)) (hw _ (List.mem_of_getElem? (i := 3) rfl)) (hw _ (List.mem_of_getElem? (i := 47) rfl)) (by decide) (W := 0) (rest := []) (argsL := [(.int (2 : Int32))]) (a := b102) (rmGet l Z a0 hw [] b102 (2 : Int32) _ _ _ _ T332.heap n0 (by omega) f347 f348 f349 f350 (by decide)) (by decide) (by decide) (by decide) (by decide) e352 f351 own_pd6 rfl (g := (mkF m 246 #[own_jv q0, .second, own_jv q1, .second, own_jv q2, .second, iv p3, iv p4, iv p5, iv (2 : Int32), iv (2 : Int32), iv (0 : Int32), rv b102, rv b111, rv b115, rv b119, iv (1 : Int32)] [(.int (2 : Int32)), (.ref b102)])) rfl (by rw [hml]; rfl) rfl (by show 2 * 0 + _ ≤ _; exact Nat.le_of_eq rfl) (hb hby at_246)
        obtain ⟨g353, rfl, hg353, N353q, e353⟩ := Q353
        obtain rfl : q2 = g353 := (hg353.trans (own_at (by omega) re109)).symm
        have N353 := Fr.app N352 N353q
        refine own_st st353 ?_
        show own_Goes p e below s _ _ (T353.setTop (mkF m 249 #[own_jv q0, .second, own_jv q1, .second, own_jv q2, .second, iv p3, iv p4, iv p5, iv (2 : Int32), iv (2 : Int32), iv (0 : Int32), rv b102, rv b111, rv b115, rv b119, iv (1 : Int32)] [(.long q2)]))
        refine own_st (fun _ k => XS.lload X353.here hx rfl (hb hby at_249) rfl  k) ?_
        show own_Goes p e below s _ _ (T353.setTop (mkF m 251 #[own_jv q0, .second, own_jv q1, .second, own_jv q2, .second, iv p3, iv p4, iv p5, iv (2 : Int32), iv (2 : Int32), iv (0 : Int32), rv b102, rv b111, rv b115, rv b119, iv (1 : Int32)] [(.long q2), (.long q2)]))
        refine own_st (fun _ k => XS.lcmp X353.here hx rfl (hb hby at_251) rfl k) ?_
        show own_Goes p e below s _ _ (T353.setTop (mkF m 252 #[own_jv q0, .second, own_jv q1, .second, own_jv q2, .second, iv p3, iv p4, iv p5, iv (2 : Int32), iv (2 : Int32), iv (0 : Int32), rv b102, rv b111, rv b115, rv b119, iv (1 : Int32)] [(.int (lcmpW q2 q2))]))
        refine own_st (fun _ k => XS.ifNo X353.here hx rfl (hb hby at_252) rfl ((if0 _ _).trans (teq ((lw_eq _ _).mpr (rfl : q2 = q2))).2) k) ?_
        show own_Goes p e below s _ _ (T353.setTop (mkF m 255 #[own_jv q0, .second, own_jv q1, .second, own_jv q2, .second, iv p3, iv p4, iv p5, iv (2 : Int32), iv (2 : Int32), iv (0 : Int32), rv b102, rv b111, rv b115, rv b119, iv (1 : Int32)] []))
        refine own_st (fun _ k => XS.iconst X353.here hx rfl (hb hby at_255) k) ?_
        show own_Goes p e below s _ _ (T353.setTop (mkF m 256 #[own_jv q0, .second, own_jv q1, .second, own_jv q2, .second, iv p3, iv p4, iv p5, iv (2 : Int32), iv (2 : Int32), iv (0 : Int32), rv b102, rv b111, rv b115, rv b119, iv (1 : Int32)] [(.int (1 : Int32))]))
        refine own_st (fun _ k => XS.goto X353.here hx rfl (pc0 := 256) (pc' := 260) rfl (hb hby at_256) (by decide) (by decide) k) ?_
        show own_Goes p e below s _ _ (T353.setTop (mkF m 260 #[own_jv q0, .second, own_jv q1, .second, own_jv q2, .second, iv p3, iv p4, iv p5, iv (2 : Int32), iv (2 : Int32), iv (0 : Int32), rv b102, rv b111, rv b115, rv b119, iv (1 : Int32)] [(.int (1 : Int32))]))
        refine own_st (fun _ k => XS.istore X353.here hx rfl (hb hby at_260) rfl (l' := #[own_jv q0, .second, own_jv q1, .second, own_jv q2, .second, iv p3, iv p4, iv p5, iv (2 : Int32), iv (2 : Int32), iv (0 : Int32), rv b102, rv b111, rv b115, rv b119, iv (1 : Int32)]) rfl k) ?_
        show own_Goes p e below s _ _ (T353.setTop (mkF m 262 #[own_jv q0, .second, own_jv q1, .second, own_jv q2, .second, iv p3, iv p4, iv p5, iv (2 : Int32), iv (2 : Int32), iv (0 : Int32), rv b102, rv b111, rv b115, rv b119, iv (1 : Int32)] []))
        refine own_st (fun _ k => XS.iload X353.here hx rfl (hb hby at_262) rfl  k) ?_
        show own_Goes p e below s _ _ (T353.setTop (mkF m 264 #[own_jv q0, .second, own_jv q1, .second, own_jv q2, .second, iv p3, iv p4, iv p5, iv (2 : Int32), iv (2 : Int32), iv (0 : Int32), rv b102, rv b111, rv b115, rv b119, iv (1 : Int32)] [(.int (1 : Int32))]))
        exact own_retN X353 hx hlk (1 : Int32) hret (Or.inl rfl) rfl (hb hby at_264) (by decide) (by decide) ⟨rfl, N353⟩
  · have c101i : ¬ (p5 &&& (1 : Int32)).toInt = 0 := own_i_ne c101
    refine own_st (fun _ k => XS.ifNo X.here hx rfl (hb hby at_22) rfl ((if0 _ _).trans (feq c101).1) k) ?_
    show own_Goes p e below s _ _ (T.setTop (mkF m 25 #[own_jv q0, .second, own_jv q1, .second, own_jv q2, .second, iv p3, iv p4, iv p5, iv fr, iv to, .unset, .unset, .unset, .unset, .unset, .unset] []))
    refine own_st (fun _ k => XS.iconst X.here hx rfl (hb hby at_25) k) ?_
    show own_Goes p e below s _ _ (T.setTop (mkF m 26 #[own_jv q0, .second, own_jv q1, .second, own_jv q2, .second, iv p3, iv p4, iv p5, iv fr, iv to, .unset, .unset, .unset, .unset, .unset, .unset] [(.int (1 : Int32))]))
    refine own_st (fun _ k => XS.goto X.here hx rfl (pc0 := 26) (pc' := 30) rfl (hb hby at_26) (by decide) (by decide) k) ?_
    show own_Goes p e below s _ _ (T.setTop (mkF m 30 #[own_jv q0, .second, own_jv q1, .second, own_jv q2, .second, iv p3, iv p4, iv p5, iv fr, iv to, .unset, .unset, .unset, .unset, .unset, .unset] [(.int (1 : Int32))]))
    refine own_st (fun _ k => XS.istore X.here hx rfl (hb hby at_30) rfl (l' := #[own_jv q0, .second, own_jv q1, .second, own_jv q2, .second, iv p3, iv p4, iv p5, iv fr, iv to, iv (1 : Int32), .unset, .unset, .unset, .unset, .unset]) rfl k) ?_
    show own_Goes p e below s _ _ (T.setTop (mkF m 32 #[own_jv q0, .second, own_jv q1, .second, own_jv q2, .second, iv p3, iv p4, iv p5, iv fr, iv to, iv (1 : Int32), .unset, .unset, .unset, .unset, .unset] []))
    obtain ⟨T354, h354, X354, e354, E354, A354, D354, -, st354⟩ := newO X hx hZ hown (hw _ (List.mem_of_getElem? (i := 1) rfl)) (hw _ (List.mem_of_getElem? (i := 2) rfl)) (hw _ (List.mem_of_getElem? (i := 3) rfl)) e0 (g := (mkF m 32 #[own_jv q0, .second, own_jv q1, .second, own_jv q2, .second, iv p3, iv p4, iv p5, iv fr, iv to, iv (1 : Int32), .unset, .unset, .unset, .unset, .unset] [])) rfl (hb hby at_32) (by decide) (by decide)
    obtain ⟨b354, g354⟩ : ∃ z, z = h0.size := ⟨_, rfl⟩
    rw [← g354] at A354 D354 st354
    have y354 := own_lt A354.lt
    have z354 := E354.1
    have F354_codes : Fld Z h354 b354 "com/example/reach2/reach2/model/CodedColumn" "codes" "[B" .null := D354 (Or.inl (hw _ (List.mem_of_getElem? (i := 17) rfl))) (ty := (.array .byte)) (by decide)
    have F354_values : Fld Z h354 b354 "com/example/reach2/reach2/model/CodedColumn" "values" "[J" .null := D354 (Or.inl (hw _ (List.mem_of_getElem? (i := 19) rfl))) (ty := (.array .long)) (by decide)
    have F354_lookup : Fld Z h354 b354 "com/example/reach2/reach2/model/CodedColumn" "lookup" "[S" .null := D354 (Or.inl (hw _ (List.mem_of_getElem? (i := 21) rfl))) (ty := (.array .short)) (by decide)
    have F354_distinct : Fld Z h354 b354 "com/example/reach2/reach2/model/CodedColumn" "distinct" "I" (.int (0 : Int32)) := D354 (Or.inl (hw _ (List.mem_of_getElem? (i := 23) rfl))) (ty := .int) (by decide)
    have F354_plain : Fld Z h354 b354 "com/example/reach2/reach2/model/CodedColumn" "plain" "[J" .null := D354 (Or.inl (hw _ (List.mem_of_getElem? (i := 25) rfl))) (ty := (.array .long)) (by decide)
    refine own_st st354 ?_
    show own_Goes p e below s _ _ (T354.setTop (mkF m 35 #[own_jv q0, .second, own_jv q1, .second, own_jv q2, .second, iv p3, iv p4, iv p5, iv fr, iv to, iv (1 : Int32), .unset, .unset, .unset, .unset, .unset] [(.ref b354)]))
    refine own_st (fun _ k => XS.dup X354.here hx rfl (hb hby at_35) rfl rfl k) ?_
    show own_Goes p e below s _ _ (T354.setTop (mkF m 36 #[own_jv q0, .second, own_jv q1, .second, own_jv q2, .second, iv p3, iv p4, iv p5, iv fr, iv to, iv (1 : Int32), .unset, .unset, .unset, .unset, .unset] [(.ref b354), (.ref b354)]))
    refine own_st (fun _ k => XS.iconst X354.here hx rfl (hb hby at_36) k) ?_
    show own_Goes p e below s _ _ (T354.setTop (mkF m 37 #[own_jv q0, .second, own_jv q1, .second, own_jv q2, .second, iv p3, iv p4, iv p5, iv fr, iv to, iv (1 : Int32), .unset, .unset, .unset, .unset, .unset] [(.int (3 : Int32)), (.ref b354), (.ref b354)]))
    obtain ⟨v355, T355, L355, X355, Q355, st355⟩ := own_callI X354 hx hZ (y := (⟨"com/example/reach2/reach2/model/CodedColumn", "<init>", "(I)V"⟩ : MethodName)) hown (hw _ (List.mem_of_getElem? (i := 4) rfl)) (hw _ (List.mem_of_getElem? (i := 5) rfl)) (hw _ (List.mem_of_getElem? (i := 3) rfl)) (hw _ (List.mem_of_getElem? (i := 6) rfl)) rfl (by decide) (W := 1) (rest := [(.ref b354)]) (argsL := [(.int (3 : Int32))]) (a := b354) (rmI1 l Z a0 hw [] b354 _ _ _ _ _  h354 n0 (by omega) A354 F354_codes F354_values F354_lookup F354_distinct F354_plain (by omega) (by omega)) (by decide) (by decide) (by decide) (by decide) e354 own_pd2 rfl (g := (mkF m 37 #[own_jv q0, .second, own_jv q1, .second, own_jv q2, .second, iv p3, iv p4, iv p5, iv fr, iv to, iv (1 : Int32), .unset, .unset, .unset, .unset, .unset] [(.int (3 : Int32)), (.ref b354), (.ref b354)])) rfl (by rw [hml]; rfl) rfl (by show 2 * 0 + _ ≤ _; exact Nat.le_of_eq rfl) (hb hby at_37)
    obtain ⟨ac355, av355, al355, rfl, N355q, K355, g355a, g355b, g355c, g355d, A355, F355_codes, F355_values, F355_lookup, F355_distinct, F355_plain, Vc355, Vv355, Vl355, Yv355, Yl355⟩ := Q355
    have z355 := K355.1
    have N355 := Fr.app N0 N355q
    refine own_st st355 ?_
    show own_Goes p e below s _ _ (T355.setTop (mkF m 40 #[own_jv q0, .second, own_jv q1, .second, own_jv q2, .second, iv p3, iv p4, iv p5, iv fr, iv to, iv (1 : Int32), .unset, .unset, .unset, .unset, .unset] [(.ref b354)]))
    refine own_st (fun _ k => XS.astore X355.here hx rfl (hb hby at_40) rfl rfl (l' := #[own_jv q0, .second, own_jv q1, .second, own_jv q2, .second, iv p3, iv p4, iv p5, iv fr, iv to, iv (1 : Int32), rv b354, .unset, .unset, .unset, .unset]) rfl k) ?_
    show own_Goes p e below s _ _ (T355.setTop (mkF m 42 #[own_jv q0, .second, own_jv q1, .second, own_jv q2, .second, iv p3, iv p4, iv p5, iv fr, iv to, iv (1 : Int32), rv b354, .unset, .unset, .unset, .unset] []))
    refine own_st (fun _ k => XS.aload X355.here hx rfl (hb hby at_42) rfl rfl  k) ?_
    show own_Goes p e below s _ _ (T355.setTop (mkF m 44 #[own_jv q0, .second, own_jv q1, .second, own_jv q2, .second, iv p3, iv p4, iv p5, iv fr, iv to, iv (1 : Int32), rv b354, .unset, .unset, .unset, .unset] [(.ref b354)]))
    refine own_st (fun _ k => XS.iconst X355.here hx rfl (hb hby at_44) k) ?_
    show own_Goes p e below s _ _ (T355.setTop (mkF m 45 #[own_jv q0, .second, own_jv q1, .second, own_jv q2, .second, iv p3, iv p4, iv p5, iv fr, iv to, iv (1 : Int32), rv b354, .unset, .unset, .unset, .unset] [(.int (0 : Int32)), (.ref b354)]))
    refine own_st (fun _ k => XS.lloadN X355.here hx rfl (hb hby at_45) rfl  k) ?_
    show own_Goes p e below s _ _ (T355.setTop (mkF m 46 #[own_jv q0, .second, own_jv q1, .second, own_jv q2, .second, iv p3, iv p4, iv p5, iv fr, iv to, iv (1 : Int32), rv b354, .unset, .unset, .unset, .unset] [(.long q0), (.int (0 : Int32)), (.ref b354)]))
    have ho357 : ([] : List Nat).length ≤ 3 := by decide
    have hd357 : 0 ≤ (0 : Int32).toInt ∧ (0 : Int32).toInt ≤ 100 := by decide
    have f358 := (own_sta_keep (S1.ext E354) K355 (own_pl1 A354))
    obtain ⟨v356, T356, L356, X356, Q356, st356⟩ := own_callV X355 hx hZ (C := "com/example/reach2/reach2/model/CodedColumn") (y := (⟨"com/example/reach2/reach2/model/CodedColumn", "set", "(IJ)V"⟩ : MethodName)) hown (hw _ (List.mem_of_getElem? (i := 26) rfl)) (hw _ (List.mem_of_getElem? (i := 27) rfl)) (hw _ (List.mem_of_getElem? (i := 29) rfl)) (hw _ (List.mem_of_getElem? (i := 28) rfl)) (hw _ (List.mem_of_getElem? (i := 3) rfl)) (hw _ (List.mem_of_getElem? (i := 30) rfl)) (by decide) (W := 0) (rest := []) (argsL := [(.int (0 : Int32)), (.long q0)]) (a := b354) (rmSet l Z a0 hw [] b354 (0 : Int32) q0 ac355 av355 al355 _ _ _ _ ([] : List Nat) T355.heap n0 (by omega) A355 F355_distinct F355_values F355_lookup F355_codes Vv355 Vl355 f358 hd357 ho357 (own_LK0 (0 : Int32) (by decide)) (by omega) (by omega) (by omega) (by omega) (by omega) (by omega) Vc355 (by omega) (by omega) (by omega) (by omega) (by decide)) (by decide) (by decide) (by decide) (by decide) rfl A355 own_pd3 rfl (g := (mkF m 46 #[own_jv q0, .second, own_jv q1, .second, own_jv q2, .second, iv p3, iv p4, iv p5, iv fr, iv to, iv (1 : Int32), rv b354, .unset, .unset, .unset, .unset] [(.long q0), (.int (0 : Int32)), (.ref b354)])) rfl (by rw [hml]; rfl) rfl (by show 2 * 0 + _ ≤ _; exact Nat.le_of_eq rfl) (hb hby at_46)
    obtain ⟨r356, d356, V356, K356f, occ356, rfl, N356q, K356, A356, Fc356, Fd356, Fv356, Fl356, Vc356, Vv356, Vl356, hcp356, hoc356, hlk356, S356⟩ := Q356
    have z356 := K356.1
    obtain ⟨ra356, rb356, rc356, rd356, re356, rf356⟩ := hcp356
    have rn356 := own_nat ra356
    have Vd356 : own_Arf Z T356.heap ac355 .byte 3 (fun k => .int ((fun k => if k = 0 then (nar .byte (r356.toInt8.toInt32)) else (fun _ => (0 : Int32)) k) k)) := Vc356
    have ho356' : occ356.length ≤ 1 := hoc356
    have rd356' : d356.toInt ≤ 1 := rd356
    have rc356' : 0 ≤ d356.toInt := rc356
    have N356 := Fr.app N355 N356q
    refine own_st st356 ?_
    show own_Goes p e below s _ _ (T356.setTop (mkF m 49 #[own_jv q0, .second, own_jv q1, .second, own_jv q2, .second, iv p3, iv p4, iv p5, iv fr, iv to, iv (1 : Int32), rv b354, .unset, .unset, .unset, .unset] []))
    refine own_st (fun _ k => XS.aload X356.here hx rfl (hb hby at_49) rfl rfl  k) ?_
    show own_Goes p e below s _ _ (T356.setTop (mkF m 51 #[own_jv q0, .second, own_jv q1, .second, own_jv q2, .second, iv p3, iv p4, iv p5, iv fr, iv to, iv (1 : Int32), rv b354, .unset, .unset, .unset, .unset] [(.ref b354)]))
    refine own_st (fun _ k => XS.iconst X356.here hx rfl (hb hby at_51) k) ?_
    show own_Goes p e below s _ _ (T356.setTop (mkF m 52 #[own_jv q0, .second, own_jv q1, .second, own_jv q2, .second, iv p3, iv p4, iv p5, iv fr, iv to, iv (1 : Int32), rv b354, .unset, .unset, .unset, .unset] [(.int (1 : Int32)), (.ref b354)]))
    refine own_st (fun _ k => XS.lloadN X356.here hx rfl (hb hby at_52) rfl  k) ?_
    show own_Goes p e below s _ _ (T356.setTop (mkF m 53 #[own_jv q0, .second, own_jv q1, .second, own_jv q2, .second, iv p3, iv p4, iv p5, iv fr, iv to, iv (1 : Int32), rv b354, .unset, .unset, .unset, .unset] [(.long q1), (.int (1 : Int32)), (.ref b354)]))
    have ho360 : occ356.length ≤ 3 := by omega
    have hd360 : 0 ≤ d356.toInt ∧ d356.toInt ≤ 100 := by omega
    obtain ⟨v359, T359, L359, X359, Q359, st359⟩ := own_callV X356 hx hZ (C := "com/example/reach2/reach2/model/CodedColumn") (y := (⟨"com/example/reach2/reach2/model/CodedColumn", "set", "(IJ)V"⟩ : MethodName)) hown (hw _ (List.mem_of_getElem? (i := 26) rfl)) (hw _ (List.mem_of_getElem? (i := 27) rfl)) (hw _ (List.mem_of_getElem? (i := 29) rfl)) (hw _ (List.mem_of_getElem? (i := 28) rfl)) (hw _ (List.mem_of_getElem? (i := 3) rfl)) (hw _ (List.mem_of_getElem? (i := 30) rfl)) (by decide) (W := 0) (rest := []) (argsL := [(.int (1 : Int32)), (.long q1)]) (a := b354) (rmSet l Z a0 hw [] b354 (1 : Int32) q1 ac355 av355 al355 _ _ _ _ occ356 T356.heap n0 (by omega) A356 Fd356 Fv356 Fl356 Fc356 Vv356 Vl356 S356 hd360 ho360 hlk356 (by omega) (by omega) (by omega) (by omega) (by omega) (by omega) Vd356 (by omega) (by omega) (by omega) (by omega) (by decide)) (by decide) (by decide) (by decide) (by decide) rfl A356 own_pd3 rfl (g := (mkF m 53 #[own_jv q0, .second, own_jv q1, .second, own_jv q2, .second, iv p3, iv p4, iv p5, iv fr, iv to, iv (1 : Int32), rv b354, .unset, .unset, .unset, .unset] [(.long q1), (.int (1 : Int32)), (.ref b354)])) rfl (by rw [hml]; rfl) rfl (by show 2 * 0 + _ ≤ _; exact Nat.le_of_eq rfl) (hb hby at_53)
    obtain ⟨r359, d359, V359, K359f, occ359, rfl, N359q, K359, A359, Fc359, Fd359, Fv359, Fl359, Vc359, Vv359, Vl359, hcp359, hoc359, hlk359, S359⟩ := Q359
    have z359 := K359.1
    obtain ⟨ra359, rb359, rc359, rd359, re359, rf359⟩ := hcp359
    have rn359 := own_nat ra359
    have Vd359 : own_Arf Z T359.heap ac355 .byte 3 (fun k => .int ((fun k => if k = 1 then (nar .byte (r359.toInt8.toInt32)) else (fun k => if k = 0 then (nar .byte (r356.toInt8.toInt32)) else (fun _ => (0 : Int32)) k) k) k)) := Vc359
    have N359 := Fr.app N356 N359q
    refine own_st st359 ?_
    show own_Goes p e below s _ _ (T359.setTop (mkF m 56 #[own_jv q0, .second, own_jv q1, .second, own_jv q2, .second, iv p3, iv p4, iv p5, iv fr, iv to, iv (1 : Int32), rv b354, .unset, .unset, .unset, .unset] []))
    refine own_st (fun _ k => XS.aload X359.here hx rfl (hb hby at_56) rfl rfl  k) ?_
    show own_Goes p e below s _ _ (T359.setTop (mkF m 58 #[own_jv q0, .second, own_jv q1, .second, own_jv q2, .second, iv p3, iv p4, iv p5, iv fr, iv to, iv (1 : Int32), rv b354, .unset, .unset, .unset, .unset] [(.ref b354)]))
    refine own_st (fun _ k => XS.iconst X359.here hx rfl (hb hby at_58) k) ?_
    show own_Goes p e below s _ _ (T359.setTop (mkF m 59 #[own_jv q0, .second, own_jv q1, .second, own_jv q2, .second, iv p3, iv p4, iv p5, iv fr, iv to, iv (1 : Int32), rv b354, .unset, .unset, .unset, .unset] [(.int (2 : Int32)), (.ref b354)]))
    refine own_st (fun _ k => XS.lload X359.here hx rfl (hb hby at_59) rfl  k) ?_
    show own_Goes p e below s _ _ (T359.setTop (mkF m 61 #[own_jv q0, .second, own_jv q1, .second, own_jv q2, .second, iv p3, iv p4, iv p5, iv fr, iv to, iv (1 : Int32), rv b354, .unset, .unset, .unset, .unset] [(.long q2), (.int (2 : Int32)), (.ref b354)]))
    have ho362 : occ359.length ≤ 3 := by omega
    have hd362 : 0 ≤ d359.toInt ∧ d359.toInt ≤ 100 := by omega
    obtain ⟨v361, T361, L361, X361, Q361, st361⟩ := own_callV X359 hx hZ (C := "com/example/reach2/reach2/model/CodedColumn") (y := (⟨"com/example/reach2/reach2/model/CodedColumn", "set", "(IJ)V"⟩ : MethodName)) hown (hw _ (List.mem_of_getElem? (i := 26) rfl)) (hw _ (List.mem_of_getElem? (i := 27) rfl)) (hw _ (List.mem_of_getElem? (i := 29) rfl)) (hw _ (List.mem_of_getElem? (i := 28) rfl)) (hw _ (List.mem_of_getElem? (i := 3) rfl)) (hw _ (List.mem_of_getElem? (i := 30) rfl)) (by decide) (W := 0) (rest := []) (argsL := [(.int (2 : Int32)), (.long q2)]) (a := b354) (rmSet l Z a0 hw [] b354 (2 : Int32) q2 ac355 av355 al355 _ _ _ _ occ359 T359.heap n0 (by omega) A359 Fd359 Fv359 Fl359 Fc359 Vv359 Vl359 S359 hd362 ho362 hlk359 (by omega) (by omega) (by omega) (by omega) (by omega) (by omega) Vd359 (by omega) (by omega) (by omega) (by omega) (by decide)) (by decide) (by decide) (by decide) (by decide) rfl A359 own_pd3 rfl (g := (mkF m 61 #[own_jv q0, .second, own_jv q1, .second, own_jv q2, .second, iv p3, iv p4, iv p5, iv fr, iv to, iv (1 : Int32), rv b354, .unset, .unset, .unset, .unset] [(.long q2), (.int (2 : Int32)), (.ref b354)])) rfl (by rw [hml]; rfl) rfl (by show 2 * 0 + _ ≤ _; exact Nat.le_of_eq rfl) (hb hby at_61)
    obtain ⟨r361, d361, V361, K361f, occ361, rfl, N361q, K361, A361, Fc361, Fd361, Fv361, Fl361, Vc361, Vv361, Vl361, hcp361, hoc361, hlk361, S361⟩ := Q361
    have z361 := K361.1
    obtain ⟨ra361, rb361, rc361, rd361, re361, rf361⟩ := hcp361
    have rn361 := own_nat ra361
    have Vd361 : own_Arf Z T361.heap ac355 .byte 3 (fun k => .int ((fun k => if k = 2 then (nar .byte (r361.toInt8.toInt32)) else (fun k => if k = 1 then (nar .byte (r359.toInt8.toInt32)) else (fun k => if k = 0 then (nar .byte (r356.toInt8.toInt32)) else (fun _ => (0 : Int32)) k) k) k) k)) := Vc361
    have N361 := Fr.app N359 N361q
    refine own_st st361 ?_
    show own_Goes p e below s _ _ (T361.setTop (mkF m 64 #[own_jv q0, .second, own_jv q1, .second, own_jv q2, .second, iv p3, iv p4, iv p5, iv fr, iv to, iv (1 : Int32), rv b354, .unset, .unset, .unset, .unset] []))
    refine own_st (fun _ k => XS.iconst X361.here hx rfl (hb hby at_64) k) ?_
    show own_Goes p e below s _ _ (T361.setTop (mkF m 65 #[own_jv q0, .second, own_jv q1, .second, own_jv q2, .second, iv p3, iv p4, iv p5, iv fr, iv to, iv (1 : Int32), rv b354, .unset, .unset, .unset, .unset] [(.int (3 : Int32))]))
    obtain ⟨T363, h363, X363, e363, E363, A363, st363⟩ := own_newP X361 hx hZ (aty := .long) (hw _ (List.mem_of_getElem? (i := 8) rfl)) rfl (g := (mkF m 65 #[own_jv q0, .second, own_jv q1, .second, own_jv q2, .second, iv p3, iv p4, iv p5, iv fr, iv to, iv (1 : Int32), rv b354, .unset, .unset, .unset, .unset] [(.int (3 : Int32))])) rfl (hb hby at_65) rfl (by decide) (cap := 3) (by decide) (by decide) (by decide) (by decide)
    obtain ⟨b363, g363⟩ : ∃ z, z = T361.heap.size := ⟨_, rfl⟩
    rw [← g363] at A363 st363
    have V363 : own_Arf Z h363 b363 .long 3 (fun k => .long ((fun _ => (0 : Int64)) k)) := A363
    have y363 := own_lt V363.lt
    have z363 := E363.1
    refine own_st st363 ?_
    show own_Goes p e below s _ _ (T363.setTop (mkF m 67 #[own_jv q0, .second, own_jv q1, .second, own_jv q2, .second, iv p3, iv p4, iv p5, iv fr, iv to, iv (1 : Int32), rv b354, .unset, .unset, .unset, .unset] [(.ref b363)]))
    refine own_st (fun _ k => XS.dup X363.here hx rfl (hb hby at_67) rfl rfl k) ?_
    show own_Goes p e below s _ _ (T363.setTop (mkF m 68 #[own_jv q0, .second, own_jv q1, .second, own_jv q2, .second, iv p3, iv p4, iv p5, iv fr, iv to, iv (1 : Int32), rv b354, .unset, .unset, .unset, .unset] [(.ref b363), (.ref b363)]))
    refine own_st (fun _ k => XS.iconst X363.here hx rfl (hb hby at_68) k) ?_
    show own_Goes p e below s _ _ (T363.setTop (mkF m 69 #[own_jv q0, .second, own_jv q1, .second, own_jv q2, .second, iv p3, iv p4, iv p5, iv fr, iv to, iv (1 : Int32), rv b354, .unset, .unset, .unset, .unset] [(.int (0 : Int32)), (.ref b363), (.ref b363)]))
    refine own_st (fun _ k => XS.lloadN X363.here hx rfl (hb hby at_69) rfl  k) ?_
    show own_Goes p e below s _ _ (T363.setTop (mkF m 70 #[own_jv q0, .second, own_jv q1, .second, own_jv q2, .second, iv p3, iv p4, iv p5, iv fr, iv to, iv (1 : Int32), rv b354, .unset, .unset, .unset, .unset] [(.long q0), (.int (0 : Int32)), (.ref b363), (.ref b363)]))
    obtain ⟨T364, h364, X364, e364, W364, A364, st364⟩ := own_stJ X363 hx hZ e363 V363 (j := (0 : Int32)) (by decide) (g := (mkF m 70 #[own_jv q0, .second, own_jv q1, .second, own_jv q2, .second, iv p3, iv p4, iv p5, iv fr, iv to, iv (1 : Int32), rv b354, .unset, .unset, .unset, .unset] [(.long q0), (.int (0 : Int32)), (.ref b363), (.ref b363)])) rfl rfl (hb hby at_70)
    have V364 : own_Arf Z h364 b363 .long 3 (fun k => .long ((fun k => if k = 0 then q0 else (fun _ => (0 : Int64)) k) k)) := A364
    have z364 := W364.size
    have N364 := Fr.snoc X364 N361 (by omega)
    refine own_st st364 ?_
    show own_Goes p e below s _ _ (T364.setTop (mkF m 71 #[own_jv q0, .second, own_jv q1, .second, own_jv q2, .second, iv p3, iv p4, iv p5, iv fr, iv to, iv (1 : Int32), rv b354, .unset, .unset, .unset, .unset] [(.ref b363)]))
    refine own_st (fun _ k => XS.dup X364.here hx rfl (hb hby at_71) rfl rfl k) ?_
    show own_Goes p e below s _ _ (T364.setTop (mkF m 72 #[own_jv q0, .second, own_jv q1, .second, own_jv q2, .second, iv p3, iv p4, iv p5, iv fr, iv to, iv (1 : Int32), rv b354, .unset, .unset, .unset, .unset] [(.ref b363), (.ref b363)]))
    refine own_st (fun _ k => XS.iconst X364.here hx rfl (hb hby at_72) k) ?_
    show own_Goes p e below s _ _ (T364.setTop (mkF m 73 #[own_jv q0, .second, own_jv q1, .second, own_jv q2, .second, iv p3, iv p4, iv p5, iv fr, iv to, iv (1 : Int32), rv b354, .unset, .unset, .unset, .unset] [(.int (1 : Int32)), (.ref b363), (.ref b363)]))
    refine own_st (fun _ k => XS.lloadN X364.here hx rfl (hb hby at_73) rfl  k) ?_
    show own_Goes p e below s _ _ (T364.setTop (mkF m 74 #[own_jv q0, .second, own_jv q1, .second, own_jv q2, .second, iv p3, iv p4, iv p5, iv fr, iv to, iv (1 : Int32), rv b354, .unset, .unset, .unset, .unset] [(.long q1), (.int (1 : Int32)), (.ref b363), (.ref b363)]))
    obtain ⟨T365, h365, X365, e365, W365, A365, st365⟩ := own_stJ X364 hx hZ e364 V364 (j := (1 : Int32)) (by decide) (g := (mkF m 74 #[own_jv q0, .second, own_jv q1, .second, own_jv q2, .second, iv p3, iv p4, iv p5, iv fr, iv to, iv (1 : Int32), rv b354, .unset, .unset, .unset, .unset] [(.long q1), (.int (1 : Int32)), (.ref b363), (.ref b363)])) rfl rfl (hb hby at_74)
    have V365 : own_Arf Z h365 b363 .long 3 (fun k => .long ((fun k => if k = 1 then q1 else (fun k => if k = 0 then q0 else (fun _ => (0 : Int64)) k) k) k)) := A365
    have z365 := W365.size
    have N365 := Fr.snoc X365 N364 (by omega)
    refine own_st st365 ?_
    show own_Goes p e below s _ _ (T365.setTop (mkF m 75 #[own_jv q0, .second, own_jv q1, .second, own_jv q2, .second, iv p3, iv p4, iv p5, iv fr, iv to, iv (1 : Int32), rv b354, .unset, .unset, .unset, .unset] [(.ref b363)]))
    refine own_st (fun _ k => XS.dup X365.here hx rfl (hb hby at_75) rfl rfl k) ?_
    show own_Goes p e below s _ _ (T365.setTop (mkF m 76 #[own_jv q0, .second, own_jv q1, .second, own_jv q2, .second, iv p3, iv p4, iv p5, iv fr, iv to, iv (1 : Int32), rv b354, .unset, .unset, .unset, .unset] [(.ref b363), (.ref b363)]))
    refine own_st (fun _ k => XS.iconst X365.here hx rfl (hb hby at_76) k) ?_
    show own_Goes p e below s _ _ (T365.setTop (mkF m 77 #[own_jv q0, .second, own_jv q1, .second, own_jv q2, .second, iv p3, iv p4, iv p5, iv fr, iv to, iv (1 : Int32), rv b354, .unset, .unset, .unset, .unset] [(.int (2 : Int32)), (.ref b363), (.ref b363)]))
    refine own_st (fun _ k => XS.lload X365.here hx rfl (hb hby at_77) rfl  k) ?_
    show own_Goes p e below s _ _ (T365.setTop (mkF m 79 #[own_jv q0, .second, own_jv q1, .second, own_jv q2, .second, iv p3, iv p4, iv p5, iv fr, iv to, iv (1 : Int32), rv b354, .unset, .unset, .unset, .unset] [(.long q2), (.int (2 : Int32)), (.ref b363), (.ref b363)]))
    obtain ⟨T366, h366, X366, e366, W366, A366, st366⟩ := own_stJ X365 hx hZ e365 V365 (j := (2 : Int32)) (by decide) (g := (mkF m 79 #[own_jv q0, .second, own_jv q1, .second, own_jv q2, .second, iv p3, iv p4, iv p5, iv fr, iv to, iv (1 : Int32), rv b354, .unset, .unset, .unset, .unset] [(.long q2), (.int (2 : Int32)), (.ref b363), (.ref b363)])) rfl rfl (hb hby at_79)
    have V366 : own_Arf Z h366 b363 .long 3 (fun k => .long ((fun k => if k = 2 then q2 else (fun k => if k = 1 then q1 else (fun k => if k = 0 then q0 else (fun _ => (0 : Int64)) k) k) k) k)) := A366
    have z366 := W366.size
    have N366 := Fr.snoc X366 N365 (by omega)
    refine own_st st366 ?_
    show own_Goes p e below s _ _ (T366.setTop (mkF m 80 #[own_jv q0, .second, own_jv q1, .second, own_jv q2, .second, iv p3, iv p4, iv p5, iv fr, iv to, iv (1 : Int32), rv b354, .unset, .unset, .unset, .unset] [(.ref b363)]))
    refine own_st (fun _ k => XS.astore X366.here hx rfl (hb hby at_80) rfl rfl (l' := #[own_jv q0, .second, own_jv q1, .second, own_jv q2, .second, iv p3, iv p4, iv p5, iv fr, iv to, iv (1 : Int32), rv b354, rv b363, .unset, .unset, .unset]) rfl k) ?_
    show own_Goes p e below s _ _ (T366.setTop (mkF m 82 #[own_jv q0, .second, own_jv q1, .second, own_jv q2, .second, iv p3, iv p4, iv p5, iv fr, iv to, iv (1 : Int32), rv b354, rv b363, .unset, .unset, .unset] []))
    refine own_st (fun _ k => XS.iload X366.here hx rfl (hb hby at_82) rfl  k) ?_
    show own_Goes p e below s _ _ (T366.setTop (mkF m 84 #[own_jv q0, .second, own_jv q1, .second, own_jv q2, .second, iv p3, iv p4, iv p5, iv fr, iv to, iv (1 : Int32), rv b354, rv b363, .unset, .unset, .unset] [(.int (1 : Int32))]))
    refine own_st (fun _ k => XS.ifNo X366.here hx rfl (hb hby at_84) rfl ((if0 _ _).trans (feq (by decide : ¬ ((1 : Int32) = (0 : Int32)))).1) k) ?_
    show own_Goes p e below s _ _ (T366.setTop (mkF m 87 #[own_jv q0, .second, own_jv q1, .second, own_jv q2, .second, iv p3, iv p4, iv p5, iv fr, iv to, iv (1 : Int32), rv b354, rv b363, .unset, .unset, .unset] []))
    refine own_st (fun _ k => XS.iconst X366.here hx rfl (hb hby at_87) k) ?_
    show own_Goes p e below s _ _ (T366.setTop (mkF m 88 #[own_jv q0, .second, own_jv q1, .second, own_jv q2, .second, iv p3, iv p4, iv p5, iv fr, iv to, iv (1 : Int32), rv b354, rv b363, .unset, .unset, .unset] [(.int (3 : Int32))]))
    obtain ⟨T367, h367, X367, e367, E367, A367, st367⟩ := own_newP X366 hx hZ (aty := .long) (hw _ (List.mem_of_getElem? (i := 8) rfl)) e366 (g := (mkF m 88 #[own_jv q0, .second, own_jv q1, .second, own_jv q2, .second, iv p3, iv p4, iv p5, iv fr, iv to, iv (1 : Int32), rv b354, rv b363, .unset, .unset, .unset] [(.int (3 : Int32))])) rfl (hb hby at_88) rfl (by decide) (cap := 3) (by decide) (by decide) (by decide) (by decide)
    obtain ⟨b367, g367⟩ : ∃ z, z = h366.size := ⟨_, rfl⟩
    rw [← g367] at A367 st367
    have V367 : own_Arf Z h367 b367 .long 3 (fun k => .long ((fun _ => (0 : Int64)) k)) := A367
    have y367 := own_lt V367.lt
    have z367 := E367.1
    refine own_st st367 ?_
    show own_Goes p e below s _ _ (T367.setTop (mkF m 90 #[own_jv q0, .second, own_jv q1, .second, own_jv q2, .second, iv p3, iv p4, iv p5, iv fr, iv to, iv (1 : Int32), rv b354, rv b363, .unset, .unset, .unset] [(.ref b367)]))
    refine own_st (fun _ k => XS.dup X367.here hx rfl (hb hby at_90) rfl rfl k) ?_
    show own_Goes p e below s _ _ (T367.setTop (mkF m 91 #[own_jv q0, .second, own_jv q1, .second, own_jv q2, .second, iv p3, iv p4, iv p5, iv fr, iv to, iv (1 : Int32), rv b354, rv b363, .unset, .unset, .unset] [(.ref b367), (.ref b367)]))
    refine own_st (fun _ k => XS.iconst X367.here hx rfl (hb hby at_91) k) ?_
    show own_Goes p e below s _ _ (T367.setTop (mkF m 92 #[own_jv q0, .second, own_jv q1, .second, own_jv q2, .second, iv p3, iv p4, iv p5, iv fr, iv to, iv (1 : Int32), rv b354, rv b363, .unset, .unset, .unset] [(.int (0 : Int32)), (.ref b367), (.ref b367)]))
    refine own_st (fun _ k => XS.lloadN X367.here hx rfl (hb hby at_92) rfl  k) ?_
    show own_Goes p e below s _ _ (T367.setTop (mkF m 93 #[own_jv q0, .second, own_jv q1, .second, own_jv q2, .second, iv p3, iv p4, iv p5, iv fr, iv to, iv (1 : Int32), rv b354, rv b363, .unset, .unset, .unset] [(.long q0), (.int (0 : Int32)), (.ref b367), (.ref b367)]))
    obtain ⟨T368, h368, X368, e368, W368, A368, st368⟩ := own_stJ X367 hx hZ e367 V367 (j := (0 : Int32)) (by decide) (g := (mkF m 93 #[own_jv q0, .second, own_jv q1, .second, own_jv q2, .second, iv p3, iv p4, iv p5, iv fr, iv to, iv (1 : Int32), rv b354, rv b363, .unset, .unset, .unset] [(.long q0), (.int (0 : Int32)), (.ref b367), (.ref b367)])) rfl rfl (hb hby at_93)
    have V368 : own_Arf Z h368 b367 .long 3 (fun k => .long ((fun k => if k = 0 then q0 else (fun _ => (0 : Int64)) k) k)) := A368
    have z368 := W368.size
    have N368 := Fr.snoc X368 N366 (by omega)
    refine own_st st368 ?_
    show own_Goes p e below s _ _ (T368.setTop (mkF m 94 #[own_jv q0, .second, own_jv q1, .second, own_jv q2, .second, iv p3, iv p4, iv p5, iv fr, iv to, iv (1 : Int32), rv b354, rv b363, .unset, .unset, .unset] [(.ref b367)]))
    refine own_st (fun _ k => XS.dup X368.here hx rfl (hb hby at_94) rfl rfl k) ?_
    show own_Goes p e below s _ _ (T368.setTop (mkF m 95 #[own_jv q0, .second, own_jv q1, .second, own_jv q2, .second, iv p3, iv p4, iv p5, iv fr, iv to, iv (1 : Int32), rv b354, rv b363, .unset, .unset, .unset] [(.ref b367), (.ref b367)]))
    refine own_st (fun _ k => XS.iconst X368.here hx rfl (hb hby at_95) k) ?_
    show own_Goes p e below s _ _ (T368.setTop (mkF m 96 #[own_jv q0, .second, own_jv q1, .second, own_jv q2, .second, iv p3, iv p4, iv p5, iv fr, iv to, iv (1 : Int32), rv b354, rv b363, .unset, .unset, .unset] [(.int (1 : Int32)), (.ref b367), (.ref b367)]))
    refine own_st (fun _ k => XS.lloadN X368.here hx rfl (hb hby at_96) rfl  k) ?_
    show own_Goes p e below s _ _ (T368.setTop (mkF m 97 #[own_jv q0, .second, own_jv q1, .second, own_jv q2, .second, iv p3, iv p4, iv p5, iv fr, iv to, iv (1 : Int32), rv b354, rv b363, .unset, .unset, .unset] [(.long q1), (.int (1 : Int32)), (.ref b367), (.ref b367)]))
    obtain ⟨T369, h369, X369, e369, W369, A369, st369⟩ := own_stJ X368 hx hZ e368 V368 (j := (1 : Int32)) (by decide) (g := (mkF m 97 #[own_jv q0, .second, own_jv q1, .second, own_jv q2, .second, iv p3, iv p4, iv p5, iv fr, iv to, iv (1 : Int32), rv b354, rv b363, .unset, .unset, .unset] [(.long q1), (.int (1 : Int32)), (.ref b367), (.ref b367)])) rfl rfl (hb hby at_97)
    have V369 : own_Arf Z h369 b367 .long 3 (fun k => .long ((fun k => if k = 1 then q1 else (fun k => if k = 0 then q0 else (fun _ => (0 : Int64)) k) k) k)) := A369
    have z369 := W369.size
    have N369 := Fr.snoc X369 N368 (by omega)
    refine own_st st369 ?_
    show own_Goes p e below s _ _ (T369.setTop (mkF m 98 #[own_jv q0, .second, own_jv q1, .second, own_jv q2, .second, iv p3, iv p4, iv p5, iv fr, iv to, iv (1 : Int32), rv b354, rv b363, .unset, .unset, .unset] [(.ref b367)]))
    refine own_st (fun _ k => XS.dup X369.here hx rfl (hb hby at_98) rfl rfl k) ?_
    show own_Goes p e below s _ _ (T369.setTop (mkF m 99 #[own_jv q0, .second, own_jv q1, .second, own_jv q2, .second, iv p3, iv p4, iv p5, iv fr, iv to, iv (1 : Int32), rv b354, rv b363, .unset, .unset, .unset] [(.ref b367), (.ref b367)]))
    refine own_st (fun _ k => XS.iconst X369.here hx rfl (hb hby at_99) k) ?_
    show own_Goes p e below s _ _ (T369.setTop (mkF m 100 #[own_jv q0, .second, own_jv q1, .second, own_jv q2, .second, iv p3, iv p4, iv p5, iv fr, iv to, iv (1 : Int32), rv b354, rv b363, .unset, .unset, .unset] [(.int (2 : Int32)), (.ref b367), (.ref b367)]))
    refine own_st (fun _ k => XS.lload X369.here hx rfl (hb hby at_100) rfl  k) ?_
    show own_Goes p e below s _ _ (T369.setTop (mkF m 102 #[own_jv q0, .second, own_jv q1, .second, own_jv q2, .second, iv p3, iv p4, iv p5, iv fr, iv to, iv (1 : Int32), rv b354, rv b363, .unset, .unset, .unset] [(.long q2), (.int (2 : Int32)), (.ref b367), (.ref b367)]))
    obtain ⟨T370, h370, X370, e370, W370, A370, st370⟩ := own_stJ X369 hx hZ e369 V369 (j := (2 : Int32)) (by decide) (g := (mkF m 102 #[own_jv q0, .second, own_jv q1, .second, own_jv q2, .second, iv p3, iv p4, iv p5, iv fr, iv to, iv (1 : Int32), rv b354, rv b363, .unset, .unset, .unset] [(.long q2), (.int (2 : Int32)), (.ref b367), (.ref b367)])) rfl rfl (hb hby at_102)
    have V370 : own_Arf Z h370 b367 .long 3 (fun k => .long ((fun k => if k = 2 then q2 else (fun k => if k = 1 then q1 else (fun k => if k = 0 then q0 else (fun _ => (0 : Int64)) k) k) k) k)) := A370
    have z370 := W370.size
    have N370 := Fr.snoc X370 N369 (by omega)
    refine own_st st370 ?_
    show own_Goes p e below s _ _ (T370.setTop (mkF m 103 #[own_jv q0, .second, own_jv q1, .second, own_jv q2, .second, iv p3, iv p4, iv p5, iv fr, iv to, iv (1 : Int32), rv b354, rv b363, .unset, .unset, .unset] [(.ref b367)]))
    refine own_st (fun _ k => XS.goto X370.here hx rfl (pc0 := 103) (pc' := 121) rfl (hb hby at_103) (by decide) (by decide) k) ?_
    show own_Goes p e below s _ _ (T370.setTop (mkF m 121 #[own_jv q0, .second, own_jv q1, .second, own_jv q2, .second, iv p3, iv p4, iv p5, iv fr, iv to, iv (1 : Int32), rv b354, rv b363, .unset, .unset, .unset] [(.ref b367)]))
    refine own_st (fun _ k => XS.astore X370.here hx rfl (hb hby at_121) rfl rfl (l' := #[own_jv q0, .second, own_jv q1, .second, own_jv q2, .second, iv p3, iv p4, iv p5, iv fr, iv to, iv (1 : Int32), rv b354, rv b363, rv b367, .unset, .unset]) rfl k) ?_
    show own_Goes p e below s _ _ (T370.setTop (mkF m 123 #[own_jv q0, .second, own_jv q1, .second, own_jv q2, .second, iv p3, iv p4, iv p5, iv fr, iv to, iv (1 : Int32), rv b354, rv b363, rv b367, .unset, .unset] []))
    refine own_st (fun _ k => XS.iload X370.here hx rfl (hb hby at_123) rfl  k) ?_
    show own_Goes p e below s _ _ (T370.setTop (mkF m 125 #[own_jv q0, .second, own_jv q1, .second, own_jv q2, .second, iv p3, iv p4, iv p5, iv fr, iv to, iv (1 : Int32), rv b354, rv b363, rv b367, .unset, .unset] [(.int (1 : Int32))]))
    refine own_st (fun _ k => XS.ifNo X370.here hx rfl (hb hby at_125) rfl ((if0 _ _).trans (feq (by decide : ¬ ((1 : Int32) = (0 : Int32)))).1) k) ?_
    show own_Goes p e below s _ _ (T370.setTop (mkF m 128 #[own_jv q0, .second, own_jv q1, .second, own_jv q2, .second, iv p3, iv p4, iv p5, iv fr, iv to, iv (1 : Int32), rv b354, rv b363, rv b367, .unset, .unset] []))
    refine own_st (fun _ k => XS.aload X370.here hx rfl (hb hby at_128) rfl rfl  k) ?_
    show own_Goes p e below s _ _ (T370.setTop (mkF m 130 #[own_jv q0, .second, own_jv q1, .second, own_jv q2, .second, iv p3, iv p4, iv p5, iv fr, iv to, iv (1 : Int32), rv b354, rv b363, rv b367, .unset, .unset] [(.ref b354)]))
    refine own_st (fun _ k => XS.goto X370.here hx rfl (pc0 := 130) (pc' := 139) rfl (hb hby at_130) (by decide) (by decide) k) ?_
    show own_Goes p e below s _ _ (T370.setTop (mkF m 139 #[own_jv q0, .second, own_jv q1, .second, own_jv q2, .second, iv p3, iv p4, iv p5, iv fr, iv to, iv (1 : Int32), rv b354, rv b363, rv b367, .unset, .unset] [(.ref b354)]))
    refine own_st (fun _ k => XS.astore X370.here hx rfl (hb hby at_139) rfl rfl (l' := #[own_jv q0, .second, own_jv q1, .second, own_jv q2, .second, iv p3, iv p4, iv p5, iv fr, iv to, iv (1 : Int32), rv b354, rv b363, rv b367, rv b354, .unset]) rfl k) ?_
    show own_Goes p e below s _ _ (T370.setTop (mkF m 141 #[own_jv q0, .second, own_jv q1, .second, own_jv q2, .second, iv p3, iv p4, iv p5, iv fr, iv to, iv (1 : Int32), rv b354, rv b363, rv b367, rv b354, .unset] []))
    rcases own_3 hfr with rfl | rfl | rfl
    · show own_Goes p e below s _ _ (T370.setTop (mkF m 141 #[own_jv q0, .second, own_jv q1, .second, own_jv q2, .second, iv p3, iv p4, iv p5, iv (0 : Int32), iv to, iv (1 : Int32), rv b354, rv b363, rv b367, rv b354, .unset] []))
      rcases own_3 hto with rfl | rfl | rfl
      · show own_Goes p e below s _ _ (T370.setTop (mkF m 141 #[own_jv q0, .second, own_jv q1, .second, own_jv q2, .second, iv p3, iv p4, iv p5, iv (0 : Int32), iv (0 : Int32), iv (1 : Int32), rv b354, rv b363, rv b367, rv b354, .unset] []))
        refine own_st (fun _ k => XS.aload X370.here hx rfl (hb hby at_141) rfl rfl  k) ?_
        show own_Goes p e below s _ _ (T370.setTop (mkF m 143 #[own_jv q0, .second, own_jv q1, .second, own_jv q2, .second, iv p3, iv p4, iv p5, iv (0 : Int32), iv (0 : Int32), iv (1 : Int32), rv b354, rv b363, rv b367, rv b354, .unset] [(.ref b367)]))
        refine own_st (fun _ k => XS.iload X370.here hx rfl (hb hby at_143) rfl  k) ?_
        show own_Goes p e below s _ _ (T370.setTop (mkF m 145 #[own_jv q0, .second, own_jv q1, .second, own_jv q2, .second, iv p3, iv p4, iv p5, iv (0 : Int32), iv (0 : Int32), iv (1 : Int32), rv b354, rv b363, rv b367, rv b354, .unset] [(.int (0 : Int32)), (.ref b367)]))
        refine own_st (fun _ k => XS.aload X370.here hx rfl (hb hby at_145) rfl rfl  k) ?_
        show own_Goes p e below s _ _ (T370.setTop (mkF m 147 #[own_jv q0, .second, own_jv q1, .second, own_jv q2, .second, iv p3, iv p4, iv p5, iv (0 : Int32), iv (0 : Int32), iv (1 : Int32), rv b354, rv b363, rv b367, rv b354, .unset] [(.ref b363), (.int (0 : Int32)), (.ref b367)]))
        refine own_st (fun _ k => XS.iload X370.here hx rfl (hb hby at_147) rfl  k) ?_
        show own_Goes p e below s _ _ (T370.setTop (mkF m 149 #[own_jv q0, .second, own_jv q1, .second, own_jv q2, .second, iv p3, iv p4, iv p5, iv (0 : Int32), iv (0 : Int32), iv (1 : Int32), rv b354, rv b363, rv b367, rv b354, .unset] [(.int (0 : Int32)), (.ref b363), (.int (0 : Int32)), (.ref b367)]))
        have f371 := ((((V366.ext E367).other W368 (own_ne (by omega))).other W369 (own_ne (by omega))).other W370 (own_ne (by omega)))
        refine own_st (fun _ k => own_ldJ X370 hx hZ e370 f371 (j := (0 : Int32)) (by decide) (g := (mkF m 149 #[own_jv q0, .second, own_jv q1, .second, own_jv q2, .second, iv p3, iv p4, iv p5, iv (0 : Int32), iv (0 : Int32), iv (1 : Int32), rv b354, rv b363, rv b367, rv b354, .unset] [(.int (0 : Int32)), (.ref b363), (.int (0 : Int32)), (.ref b367)])) rfl rfl (hb hby at_149) _ k) ?_
        show own_Goes p e below s _ _ (T370.setTop (mkF m 150 #[own_jv q0, .second, own_jv q1, .second, own_jv q2, .second, iv p3, iv p4, iv p5, iv (0 : Int32), iv (0 : Int32), iv (1 : Int32), rv b354, rv b363, rv b367, rv b354, .unset] [(.long q0), (.int (0 : Int32)), (.ref b367)]))
        obtain ⟨T372, h372, X372, e372, W372, A372, st372⟩ := own_stJ X370 hx hZ e370 V370 (j := (0 : Int32)) (by decide) (g := (mkF m 150 #[own_jv q0, .second, own_jv q1, .second, own_jv q2, .second, iv p3, iv p4, iv p5, iv (0 : Int32), iv (0 : Int32), iv (1 : Int32), rv b354, rv b363, rv b367, rv b354, .unset] [(.long q0), (.int (0 : Int32)), (.ref b367)])) rfl rfl (hb hby at_150)
        have V372 : own_Arf Z h372 b367 .long 3 (fun k => .long ((fun k => if k = 0 then q0 else (fun k => if k = 2 then q2 else (fun k => if k = 1 then q1 else (fun k => if k = 0 then q0 else (fun _ => (0 : Int64)) k) k) k) k) k)) := A372
        have z372 := W372.size
        have N372 := Fr.snoc X372 N370 (by omega)
        refine own_st st372 ?_
        show own_Goes p e below s _ _ (T372.setTop (mkF m 151 #[own_jv q0, .second, own_jv q1, .second, own_jv q2, .second, iv p3, iv p4, iv p5, iv (0 : Int32), iv (0 : Int32), iv (1 : Int32), rv b354, rv b363, rv b367, rv b354, .unset] []))
        refine own_st (fun _ k => XS.aload X372.here hx rfl (hb hby at_151) rfl rfl  k) ?_
        show own_Goes p e below s _ _ (T372.setTop (mkF m 153 #[own_jv q0, .second, own_jv q1, .second, own_jv q2, .second, iv p3, iv p4, iv p5, iv (0 : Int32), iv (0 : Int32), iv (1 : Int32), rv b354, rv b363, rv b367, rv b354, .unset] [(.ref b354)]))
        refine own_st (fun _ k => XS.iload X372.here hx rfl (hb hby at_153) rfl  k) ?_
        show own_Goes p e below s _ _ (T372.setTop (mkF m 155 #[own_jv q0, .second, own_jv q1, .second, own_jv q2, .second, iv p3, iv p4, iv p5, iv (0 : Int32), iv (0 : Int32), iv (1 : Int32), rv b354, rv b363, rv b367, rv b354, .unset] [(.int (0 : Int32)), (.ref b354)]))
        refine own_st (fun _ k => XS.aload X372.here hx rfl (hb hby at_155) rfl rfl  k) ?_
        show own_Goes p e below s _ _ (T372.setTop (mkF m 157 #[own_jv q0, .second, own_jv q1, .second, own_jv q2, .second, iv p3, iv p4, iv p5, iv (0 : Int32), iv (0 : Int32), iv (1 : Int32), rv b354, rv b363, rv b367, rv b354, .unset] [(.ref b354), (.int (0 : Int32)), (.ref b354)]))
        refine own_st (fun _ k => XS.iload X372.here hx rfl (hb hby at_157) rfl  k) ?_
        show own_Goes p e below s _ _ (T372.setTop (mkF m 159 #[own_jv q0, .second, own_jv q1, .second, own_jv q2, .second, iv p3, iv p4, iv p5, iv (0 : Int32), iv (0 : Int32), iv (1 : Int32), rv b354, rv b363, rv b367, rv b354, .unset] [(.int (0 : Int32)), (.ref b354), (.int (0 : Int32)), (.ref b354)]))
        have f374 := (((((((((Fc361.ext E363).other W364 (Or.inl (own_ne (by omega)))).other W365 (Or.inl (own_ne (by omega)))).other W366 (Or.inl (own_ne (by omega)))).ext E367).other W368 (Or.inl (own_ne (by omega)))).other W369 (Or.inl (own_ne (by omega)))).other W370 (Or.inl (own_ne (by omega)))).other W372 (Or.inl (own_ne (by omega))))
        have f375 := (((((((((Vd361.ext E363).other W364 (own_ne (by omega))).other W365 (own_ne (by omega))).other W366 (own_ne (by omega))).ext E367).other W368 (own_ne (by omega))).other W369 (own_ne (by omega))).other W370 (own_ne (by omega))).other W372 (own_ne (by omega)))
        have f376 := (((((((((A361.ext E363).wr W364).wr W365).wr W366).ext E367).wr W368).wr W369).wr W370).wr W372)
        obtain ⟨v373, T373, L373, X373, Q373, st373⟩ := own_callV X372 hx hZ (C := "com/example/reach2/reach2/model/CodedColumn") (y := (⟨"com/example/reach2/reach2/model/CodedColumn", "copyTo", "(ILcom/example/reach2/reach2/model/CodedColumn;I)V"⟩ : MethodName)) hown (hw _ (List.mem_of_getElem? (i := 38) rfl)) (hw _ (List.mem_of_getElem? (i := 39) rfl)) (hw _ (List.mem_of_getElem? (i := 41) rfl)) (hw _ (List.mem_of_getElem? (i := 40) rfl)) (hw _ (List.mem_of_getElem? (i := 3) rfl)) (hw _ (List.mem_of_getElem? (i := 42) rfl)) (by decide) (W := 0) (rest := []) (argsL := [(.int (0 : Int32)), (.ref b354), (.int (0 : Int32))]) (a := b354) (rmCT l Z a0 hw [] b354 (0 : Int32) b354 (0 : Int32) ac355 ac355 _ _ h372 n0 (by omega) f374 f374 f375 f375 (by decide) (by decide) (by omega)) (by decide) (by decide) (by decide) (by decide) e372 f376 own_pd5 rfl (g := (mkF m 159 #[own_jv q0, .second, own_jv q1, .second, own_jv q2, .second, iv p3, iv p4, iv p5, iv (0 : Int32), iv (0 : Int32), iv (1 : Int32), rv b354, rv b363, rv b367, rv b354, .unset] [(.int (0 : Int32)), (.ref b354), (.int (0 : Int32)), (.ref b354)])) rfl (by rw [hml]; rfl) rfl (by show 2 * 0 + _ ≤ _; exact Nat.le_of_eq rfl) (hb hby at_159)
        obtain ⟨rfl, N373q, K373, V373⟩ := Q373
        have z373 := K373.1
        have Vt373 : own_Arf Z T373.heap ac355 .byte 3 (fun k => .int ((fun k => if k = 0 then (nar .byte (nar .byte (r356.toInt8.toInt32))) else (fun k => if k = 2 then (nar .byte (r361.toInt8.toInt32)) else (fun k => if k = 1 then (nar .byte (r359.toInt8.toInt32)) else (fun k => if k = 0 then (nar .byte (r356.toInt8.toInt32)) else (fun _ => (0 : Int32)) k) k) k) k) k)) := V373
        have N373 := Fr.app N372 N373q
        refine own_st st373 ?_
        show own_Goes p e below s _ _ (T373.setTop (mkF m 162 #[own_jv q0, .second, own_jv q1, .second, own_jv q2, .second, iv p3, iv p4, iv p5, iv (0 : Int32), iv (0 : Int32), iv (1 : Int32), rv b354, rv b363, rv b367, rv b354, .unset] []))
        refine own_st (fun _ k => XS.aload X373.here hx rfl (hb hby at_162) rfl rfl  k) ?_
        show own_Goes p e below s _ _ (T373.setTop (mkF m 164 #[own_jv q0, .second, own_jv q1, .second, own_jv q2, .second, iv p3, iv p4, iv p5, iv (0 : Int32), iv (0 : Int32), iv (1 : Int32), rv b354, rv b363, rv b367, rv b354, .unset] [(.ref b354)]))
        refine own_st (fun _ k => XS.iconst X373.here hx rfl (hb hby at_164) k) ?_
        show own_Goes p e below s _ _ (T373.setTop (mkF m 165 #[own_jv q0, .second, own_jv q1, .second, own_jv q2, .second, iv p3, iv p4, iv p5, iv (0 : Int32), iv (0 : Int32), iv (1 : Int32), rv b354, rv b363, rv b367, rv b354, .unset] [(.int (0 : Int32)), (.ref b354)]))
        have f378 := (f374.keep K373 (ninS (own_ne (by omega)) nin0))
        have f379 := ((((((((((Fv361.ext E363).other W364 (Or.inl (own_ne (by omega)))).other W365 (Or.inl (own_ne (by omega)))).other W366 (Or.inl (own_ne (by omega)))).ext E367).other W368 (Or.inl (own_ne (by omega)))).other W369 (Or.inl (own_ne (by omega)))).other W370 (Or.inl (own_ne (by omega)))).other W372 (Or.inl (own_ne (by omega)))).keep K373 (ninS (own_ne (by omega)) nin0))
        have f380 := ((((((((((Vv361.ext E363).other W364 (own_ne (by omega))).other W365 (own_ne (by omega))).other W366 (own_ne (by omega))).ext E367).other W368 (own_ne (by omega))).other W369 (own_ne (by omega))).other W370 (own_ne (by omega))).other W372 (own_ne (by omega))).keep K373 (ninS (own_ne (by omega)) nin0))
        have f381 := (f376.keep K373)
        obtain ⟨v377, T377, L377, X377, Q377, st377⟩ := own_callV X373 hx hZ (C := "com/example/reach2/reach2/model/CodedColumn") (y := (⟨"com/example/reach2/reach2/model/CodedColumn", "get", "(I)J"⟩ : MethodName)) hown (hw _ (List.mem_of_getElem? (i := 43) rfl)) (hw _ (List.mem_of_getElem? (i := 44) rfl)) (hw _ (List.mem_of_getElem? (i := 46) rfl)) (hw _ (List.mem_of_getElem? (i := 45) rfl)) (hw _ (List.mem_of_getElem? (i := 3) rfl)) (hw _ (List.mem_of_getElem? (i := 47) rfl)) (by decide) (W := 0) (rest := []) (argsL := [(.int (0 : Int32))]) (a := b354) (rmGet l Z a0 hw [] b354 (0 : Int32) _ _ _ _ T373.heap n0 (by omega) f378 f379 Vt373 f380 (by decide)) (by decide) (by decide) (by decide) (by decide) rfl f381 own_pd6 rfl (g := (mkF m 165 #[own_jv q0, .second, own_jv q1, .second, own_jv q2, .second, iv p3, iv p4, iv p5, iv (0 : Int32), iv (0 : Int32), iv (1 : Int32), rv b354, rv b363, rv b367, rv b354, .unset] [(.int (0 : Int32)), (.ref b354)])) rfl (by rw [hml]; rfl) rfl (by show 2 * 0 + _ ≤ _; exact Nat.le_of_eq rfl) (hb hby at_165)
        obtain ⟨g377, rfl, hg377, N377q, e377⟩ := Q377
        obtain rfl : q0 = g377 := (hg377.trans (own_at2 (by omega) ((rf361 _ (by omega)).trans ((rf359 _ (by omega)).trans re356)))).symm
        have N377 := Fr.app N373 N377q
        refine own_st st377 ?_
        show own_Goes p e below s _ _ (T377.setTop (mkF m 168 #[own_jv q0, .second, own_jv q1, .second, own_jv q2, .second, iv p3, iv p4, iv p5, iv (0 : Int32), iv (0 : Int32), iv (1 : Int32), rv b354, rv b363, rv b367, rv b354, .unset] [(.long q0)]))
        refine own_st (fun _ k => XS.aload X377.here hx rfl (hb hby at_168) rfl rfl  k) ?_
        show own_Goes p e below s _ _ (T377.setTop (mkF m 170 #[own_jv q0, .second, own_jv q1, .second, own_jv q2, .second, iv p3, iv p4, iv p5, iv (0 : Int32), iv (0 : Int32), iv (1 : Int32), rv b354, rv b363, rv b367, rv b354, .unset] [(.ref b367), (.long q0)]))
        refine own_st (fun _ k => XS.iconst X377.here hx rfl (hb hby at_170) k) ?_
        show own_Goes p e below s _ _ (T377.setTop (mkF m 171 #[own_jv q0, .second, own_jv q1, .second, own_jv q2, .second, iv p3, iv p4, iv p5, iv (0 : Int32), iv (0 : Int32), iv (1 : Int32), rv b354, rv b363, rv b367, rv b354, .unset] [(.int (0 : Int32)), (.ref b367), (.long q0)]))
        have f382 := (V372.keep K373 (ninS (own_ne (by omega)) nin0))
        refine own_st (fun _ k => own_ldJ X377 hx hZ e377 f382 (j := (0 : Int32)) (by decide) (g := (mkF m 171 #[own_jv q0, .second, own_jv q1, .second, own_jv q2, .second, iv p3, iv p4, iv p5, iv (0 : Int32), iv (0 : Int32), iv (1 : Int32), rv b354, rv b363, rv b367, rv b354, .unset] [(.int (0 : Int32)), (.ref b367), (.long q0)])) rfl rfl (hb hby at_171) _ k) ?_
        show own_Goes p e below s _ _ (T377.setTop (mkF m 172 #[own_jv q0, .second, own_jv q1, .second, own_jv q2, .second, iv p3, iv p4, iv p5, iv (0 : Int32), iv (0 : Int32), iv (1 : Int32), rv b354, rv b363, rv b367, rv b354, .unset] [(.long q0), (.long q0)]))
        refine own_st (fun _ k => XS.lcmp X377.here hx rfl (hb hby at_172) rfl k) ?_
        show own_Goes p e below s _ _ (T377.setTop (mkF m 173 #[own_jv q0, .second, own_jv q1, .second, own_jv q2, .second, iv p3, iv p4, iv p5, iv (0 : Int32), iv (0 : Int32), iv (1 : Int32), rv b354, rv b363, rv b367, rv b354, .unset] [(.int (lcmpW q0 q0))]))
        refine own_st (fun _ k => XS.ifNo X377.here hx rfl (hb hby at_173) rfl ((if0 _ _).trans (teq ((lw_eq _ _).mpr (rfl : q0 = q0))).2) k) ?_
        show own_Goes p e below s _ _ (T377.setTop (mkF m 176 #[own_jv q0, .second, own_jv q1, .second, own_jv q2, .second, iv p3, iv p4, iv p5, iv (0 : Int32), iv (0 : Int32), iv (1 : Int32), rv b354, rv b363, rv b367, rv b354, .unset] []))
        refine own_st (fun _ k => XS.aload X377.here hx rfl (hb hby at_176) rfl rfl  k) ?_
        show own_Goes p e below s _ _ (T377.setTop (mkF m 178 #[own_jv q0, .second, own_jv q1, .second, own_jv q2, .second, iv p3, iv p4, iv p5, iv (0 : Int32), iv (0 : Int32), iv (1 : Int32), rv b354, rv b363, rv b367, rv b354, .unset] [(.ref b354)]))
        refine own_st (fun _ k => XS.iconst X377.here hx rfl (hb hby at_178) k) ?_
        show own_Goes p e below s _ _ (T377.setTop (mkF m 179 #[own_jv q0, .second, own_jv q1, .second, own_jv q2, .second, iv p3, iv p4, iv p5, iv (0 : Int32), iv (0 : Int32), iv (1 : Int32), rv b354, rv b363, rv b367, rv b354, .unset] [(.int (1 : Int32)), (.ref b354)]))
        obtain ⟨v383, T383, L383, X383, Q383, st383⟩ := own_callV X377 hx hZ (C := "com/example/reach2/reach2/model/CodedColumn") (y := (⟨"com/example/reach2/reach2/model/CodedColumn", "get", "(I)J"⟩ : MethodName)) hown (hw _ (List.mem_of_getElem? (i := 43) rfl)) (hw _ (List.mem_of_getElem? (i := 44) rfl)) (hw _ (List.mem_of_getElem? (i := 46) rfl)) (hw _ (List.mem_of_getElem? (i := 45) rfl)) (hw _ (List.mem_of_getElem? (i := 3) rfl)) (hw _ (List.mem_of_getElem? (i := 47) rfl)) (by decide) (W := 0) (rest := []) (argsL := [(.int (1 : Int32))]) (a := b354) (rmGet l Z a0 hw [] b354 (1 : Int32) _ _ _ _ T373.heap n0 (by omega) f378 f379 Vt373 f380 (by decide)) (by decide) (by decide) (by decide) (by decide) e377 f381 own_pd6 rfl (g := (mkF m 179 #[own_jv q0, .second, own_jv q1, .second, own_jv q2, .second, iv p3, iv p4, iv p5, iv (0 : Int32), iv (0 : Int32), iv (1 : Int32), rv b354, rv b363, rv b367, rv b354, .unset] [(.int (1 : Int32)), (.ref b354)])) rfl (by rw [hml]; rfl) rfl (by show 2 * 0 + _ ≤ _; exact Nat.le_of_eq rfl) (hb hby at_179)
        obtain ⟨g383, rfl, hg383, N383q, e383⟩ := Q383
        obtain rfl : q1 = g383 := (hg383.trans (own_at (by omega) ((rf361 _ (by omega)).trans re359))).symm
        have N383 := Fr.app N377 N383q
        refine own_st st383 ?_
        show own_Goes p e below s _ _ (T383.setTop (mkF m 182 #[own_jv q0, .second, own_jv q1, .second, own_jv q2, .second, iv p3, iv p4, iv p5, iv (0 : Int32), iv (0 : Int32), iv (1 : Int32), rv b354, rv b363, rv b367, rv b354, .unset] [(.long q1)]))
        refine own_st (fun _ k => XS.aload X383.here hx rfl (hb hby at_182) rfl rfl  k) ?_
        show own_Goes p e below s _ _ (T383.setTop (mkF m 184 #[own_jv q0, .second, own_jv q1, .second, own_jv q2, .second, iv p3, iv p4, iv p5, iv (0 : Int32), iv (0 : Int32), iv (1 : Int32), rv b354, rv b363, rv b367, rv b354, .unset] [(.ref b367), (.long q1)]))
        refine own_st (fun _ k => XS.iconst X383.here hx rfl (hb hby at_184) k) ?_
        show own_Goes p e below s _ _ (T383.setTop (mkF m 185 #[own_jv q0, .second, own_jv q1, .second, own_jv q2, .second, iv p3, iv p4, iv p5, iv (0 : Int32), iv (0 : Int32), iv (1 : Int32), rv b354, rv b363, rv b367, rv b354, .unset] [(.int (1 : Int32)), (.ref b367), (.long q1)]))
        refine own_st (fun _ k => own_ldJ X383 hx hZ e383 f382 (j := (1 : Int32)) (by decide) (g := (mkF m 185 #[own_jv q0, .second, own_jv q1, .second, own_jv q2, .second, iv p3, iv p4, iv p5, iv (0 : Int32), iv (0 : Int32), iv (1 : Int32), rv b354, rv b363, rv b367, rv b354, .unset] [(.int (1 : Int32)), (.ref b367), (.long q1)])) rfl rfl (hb hby at_185) _ k) ?_
        show own_Goes p e below s _ _ (T383.setTop (mkF m 186 #[own_jv q0, .second, own_jv q1, .second, own_jv q2, .second, iv p3, iv p4, iv p5, iv (0 : Int32), iv (0 : Int32), iv (1 : Int32), rv b354, rv b363, rv b367, rv b354, .unset] [(.long q1), (.long q1)]))
        refine own_st (fun _ k => XS.lcmp X383.here hx rfl (hb hby at_186) rfl k) ?_
        show own_Goes p e below s _ _ (T383.setTop (mkF m 187 #[own_jv q0, .second, own_jv q1, .second, own_jv q2, .second, iv p3, iv p4, iv p5, iv (0 : Int32), iv (0 : Int32), iv (1 : Int32), rv b354, rv b363, rv b367, rv b354, .unset] [(.int (lcmpW q1 q1))]))
        refine own_st (fun _ k => XS.ifNo X383.here hx rfl (hb hby at_187) rfl ((if0 _ _).trans (teq ((lw_eq _ _).mpr (rfl : q1 = q1))).2) k) ?_
        show own_Goes p e below s _ _ (T383.setTop (mkF m 190 #[own_jv q0, .second, own_jv q1, .second, own_jv q2, .second, iv p3, iv p4, iv p5, iv (0 : Int32), iv (0 : Int32), iv (1 : Int32), rv b354, rv b363, rv b367, rv b354, .unset] []))
        refine own_st (fun _ k => XS.aload X383.here hx rfl (hb hby at_190) rfl rfl  k) ?_
        show own_Goes p e below s _ _ (T383.setTop (mkF m 192 #[own_jv q0, .second, own_jv q1, .second, own_jv q2, .second, iv p3, iv p4, iv p5, iv (0 : Int32), iv (0 : Int32), iv (1 : Int32), rv b354, rv b363, rv b367, rv b354, .unset] [(.ref b354)]))
        refine own_st (fun _ k => XS.iconst X383.here hx rfl (hb hby at_192) k) ?_
        show own_Goes p e below s _ _ (T383.setTop (mkF m 193 #[own_jv q0, .second, own_jv q1, .second, own_jv q2, .second, iv p3, iv p4, iv p5, iv (0 : Int32), iv (0 : Int32), iv (1 : Int32), rv b354, rv b363, rv b367, rv b354, .unset] [(.int (2 : Int32)), (.ref b354)]))
        obtain ⟨v384, T384, L384, X384, Q384, st384⟩ := own_callV X383 hx hZ (C := "com/example/reach2/reach2/model/CodedColumn") (y := (⟨"com/example/reach2/reach2/model/CodedColumn", "get", "(I)J"⟩ : MethodName)) hown (hw _ (List.mem_of_getElem? (i := 43) rfl)) (hw _ (List.mem_of_getElem? (i := 44) rfl)) (hw _ (List.mem_of_getElem? (i := 46) rfl)) (hw _ (List.mem_of_getElem? (i := 45) rfl)) (hw _ (List.mem_of_getElem? (i := 3) rfl)) (hw _ (List.mem_of_getElem? (i := 47) rfl)) (by decide) (W := 0) (rest := []) (argsL := [(.int (2 : Int32))]) (a := b354) (rmGet l Z a0 hw [] b354 (2 : Int32) _ _ _ _ T373.heap n0 (by omega) f378 f379 Vt373 f380 (by decide)) (by decide) (by decide) (by decide) (by decide) e383 f381 own_pd6 rfl (g := (mkF m 193 #[own_jv q0, .second, own_jv q1, .second, own_jv q2, .second, iv p3, iv p4, iv p5, iv (0 : Int32), iv (0 : Int32), iv (1 : Int32), rv b354, rv b363, rv b367, rv b354, .unset] [(.int (2 : Int32)), (.ref b354)])) rfl (by rw [hml]; rfl) rfl (by show 2 * 0 + _ ≤ _; exact Nat.le_of_eq rfl) (hb hby at_193)
        obtain ⟨g384, rfl, hg384, N384q, e384⟩ := Q384
        obtain rfl : q2 = g384 := (hg384.trans (own_at (by omega) re361)).symm
        have N384 := Fr.app N383 N384q
        refine own_st st384 ?_
        show own_Goes p e below s _ _ (T384.setTop (mkF m 196 #[own_jv q0, .second, own_jv q1, .second, own_jv q2, .second, iv p3, iv p4, iv p5, iv (0 : Int32), iv (0 : Int32), iv (1 : Int32), rv b354, rv b363, rv b367, rv b354, .unset] [(.long q2)]))
        refine own_st (fun _ k => XS.aload X384.here hx rfl (hb hby at_196) rfl rfl  k) ?_
        show own_Goes p e below s _ _ (T384.setTop (mkF m 198 #[own_jv q0, .second, own_jv q1, .second, own_jv q2, .second, iv p3, iv p4, iv p5, iv (0 : Int32), iv (0 : Int32), iv (1 : Int32), rv b354, rv b363, rv b367, rv b354, .unset] [(.ref b367), (.long q2)]))
        refine own_st (fun _ k => XS.iconst X384.here hx rfl (hb hby at_198) k) ?_
        show own_Goes p e below s _ _ (T384.setTop (mkF m 199 #[own_jv q0, .second, own_jv q1, .second, own_jv q2, .second, iv p3, iv p4, iv p5, iv (0 : Int32), iv (0 : Int32), iv (1 : Int32), rv b354, rv b363, rv b367, rv b354, .unset] [(.int (2 : Int32)), (.ref b367), (.long q2)]))
        refine own_st (fun _ k => own_ldJ X384 hx hZ e384 f382 (j := (2 : Int32)) (by decide) (g := (mkF m 199 #[own_jv q0, .second, own_jv q1, .second, own_jv q2, .second, iv p3, iv p4, iv p5, iv (0 : Int32), iv (0 : Int32), iv (1 : Int32), rv b354, rv b363, rv b367, rv b354, .unset] [(.int (2 : Int32)), (.ref b367), (.long q2)])) rfl rfl (hb hby at_199) _ k) ?_
        show own_Goes p e below s _ _ (T384.setTop (mkF m 200 #[own_jv q0, .second, own_jv q1, .second, own_jv q2, .second, iv p3, iv p4, iv p5, iv (0 : Int32), iv (0 : Int32), iv (1 : Int32), rv b354, rv b363, rv b367, rv b354, .unset] [(.long q2), (.long q2)]))
        refine own_st (fun _ k => XS.lcmp X384.here hx rfl (hb hby at_200) rfl k) ?_
        show own_Goes p e below s _ _ (T384.setTop (mkF m 201 #[own_jv q0, .second, own_jv q1, .second, own_jv q2, .second, iv p3, iv p4, iv p5, iv (0 : Int32), iv (0 : Int32), iv (1 : Int32), rv b354, rv b363, rv b367, rv b354, .unset] [(.int (lcmpW q2 q2))]))
        refine own_st (fun _ k => XS.ifNo X384.here hx rfl (hb hby at_201) rfl ((if0 _ _).trans (teq ((lw_eq _ _).mpr (rfl : q2 = q2))).2) k) ?_
        show own_Goes p e below s _ _ (T384.setTop (mkF m 204 #[own_jv q0, .second, own_jv q1, .second, own_jv q2, .second, iv p3, iv p4, iv p5, iv (0 : Int32), iv (0 : Int32), iv (1 : Int32), rv b354, rv b363, rv b367, rv b354, .unset] []))
        refine own_st (fun _ k => XS.iconst X384.here hx rfl (hb hby at_204) k) ?_
        show own_Goes p e below s _ _ (T384.setTop (mkF m 205 #[own_jv q0, .second, own_jv q1, .second, own_jv q2, .second, iv p3, iv p4, iv p5, iv (0 : Int32), iv (0 : Int32), iv (1 : Int32), rv b354, rv b363, rv b367, rv b354, .unset] [(.int (1 : Int32))]))
        refine own_st (fun _ k => XS.goto X384.here hx rfl (pc0 := 205) (pc' := 209) rfl (hb hby at_205) (by decide) (by decide) k) ?_
        show own_Goes p e below s _ _ (T384.setTop (mkF m 209 #[own_jv q0, .second, own_jv q1, .second, own_jv q2, .second, iv p3, iv p4, iv p5, iv (0 : Int32), iv (0 : Int32), iv (1 : Int32), rv b354, rv b363, rv b367, rv b354, .unset] [(.int (1 : Int32))]))
        refine own_st (fun _ k => XS.istore X384.here hx rfl (hb hby at_209) rfl (l' := #[own_jv q0, .second, own_jv q1, .second, own_jv q2, .second, iv p3, iv p4, iv p5, iv (0 : Int32), iv (0 : Int32), iv (1 : Int32), rv b354, rv b363, rv b367, rv b354, iv (1 : Int32)]) rfl k) ?_
        show own_Goes p e below s _ _ (T384.setTop (mkF m 211 #[own_jv q0, .second, own_jv q1, .second, own_jv q2, .second, iv p3, iv p4, iv p5, iv (0 : Int32), iv (0 : Int32), iv (1 : Int32), rv b354, rv b363, rv b367, rv b354, iv (1 : Int32)] []))
        refine own_st (fun _ k => XS.iload X384.here hx rfl (hb hby at_211) rfl  k) ?_
        show own_Goes p e below s _ _ (T384.setTop (mkF m 213 #[own_jv q0, .second, own_jv q1, .second, own_jv q2, .second, iv p3, iv p4, iv p5, iv (0 : Int32), iv (0 : Int32), iv (1 : Int32), rv b354, rv b363, rv b367, rv b354, iv (1 : Int32)] [(.int (1 : Int32))]))
        refine own_st (fun _ k => XS.ifYes X384.here hx rfl (pc0 := 213) (pc' := 262) rfl (hb hby at_213) rfl ((if0 _ _).trans (feq (by decide : ¬ ((1 : Int32) = (0 : Int32)))).2) (by decide) (by decide) k) ?_
        show own_Goes p e below s _ _ (T384.setTop (mkF m 262 #[own_jv q0, .second, own_jv q1, .second, own_jv q2, .second, iv p3, iv p4, iv p5, iv (0 : Int32), iv (0 : Int32), iv (1 : Int32), rv b354, rv b363, rv b367, rv b354, iv (1 : Int32)] []))
        refine own_st (fun _ k => XS.iload X384.here hx rfl (hb hby at_262) rfl  k) ?_
        show own_Goes p e below s _ _ (T384.setTop (mkF m 264 #[own_jv q0, .second, own_jv q1, .second, own_jv q2, .second, iv p3, iv p4, iv p5, iv (0 : Int32), iv (0 : Int32), iv (1 : Int32), rv b354, rv b363, rv b367, rv b354, iv (1 : Int32)] [(.int (1 : Int32))]))
        exact own_retN X384 hx hlk (1 : Int32) hret (Or.inl rfl) rfl (hb hby at_264) (by decide) (by decide) ⟨rfl, N384⟩
      · show own_Goes p e below s _ _ (T370.setTop (mkF m 141 #[own_jv q0, .second, own_jv q1, .second, own_jv q2, .second, iv p3, iv p4, iv p5, iv (0 : Int32), iv (1 : Int32), iv (1 : Int32), rv b354, rv b363, rv b367, rv b354, .unset] []))
        refine own_st (fun _ k => XS.aload X370.here hx rfl (hb hby at_141) rfl rfl  k) ?_
        show own_Goes p e below s _ _ (T370.setTop (mkF m 143 #[own_jv q0, .second, own_jv q1, .second, own_jv q2, .second, iv p3, iv p4, iv p5, iv (0 : Int32), iv (1 : Int32), iv (1 : Int32), rv b354, rv b363, rv b367, rv b354, .unset] [(.ref b367)]))
        refine own_st (fun _ k => XS.iload X370.here hx rfl (hb hby at_143) rfl  k) ?_
        show own_Goes p e below s _ _ (T370.setTop (mkF m 145 #[own_jv q0, .second, own_jv q1, .second, own_jv q2, .second, iv p3, iv p4, iv p5, iv (0 : Int32), iv (1 : Int32), iv (1 : Int32), rv b354, rv b363, rv b367, rv b354, .unset] [(.int (1 : Int32)), (.ref b367)]))
        refine own_st (fun _ k => XS.aload X370.here hx rfl (hb hby at_145) rfl rfl  k) ?_
        show own_Goes p e below s _ _ (T370.setTop (mkF m 147 #[own_jv q0, .second, own_jv q1, .second, own_jv q2, .second, iv p3, iv p4, iv p5, iv (0 : Int32), iv (1 : Int32), iv (1 : Int32), rv b354, rv b363, rv b367, rv b354, .unset] [(.ref b363), (.int (1 : Int32)), (.ref b367)]))
        refine own_st (fun _ k => XS.iload X370.here hx rfl (hb hby at_147) rfl  k) ?_
        show own_Goes p e below s _ _ (T370.setTop (mkF m 149 #[own_jv q0, .second, own_jv q1, .second, own_jv q2, .second, iv p3, iv p4, iv p5, iv (0 : Int32), iv (1 : Int32), iv (1 : Int32), rv b354, rv b363, rv b367, rv b354, .unset] [(.int (0 : Int32)), (.ref b363), (.int (1 : Int32)), (.ref b367)]))
        have f385 := ((((V366.ext E367).other W368 (own_ne (by omega))).other W369 (own_ne (by omega))).other W370 (own_ne (by omega)))
        refine own_st (fun _ k => own_ldJ X370 hx hZ e370 f385 (j := (0 : Int32)) (by decide) (g := (mkF m 149 #[own_jv q0, .second, own_jv q1, .second, own_jv q2, .second, iv p3, iv p4, iv p5, iv (0 : Int32), iv (1 : Int32), iv (1 : Int32), rv b354, rv b363, rv b367, rv b354, .unset] [(.int (0 : Int32)), (.ref b363), (.int (1 : Int32)), (.ref b367)])) rfl rfl (hb hby at_149) _ k) ?_
        show own_Goes p e below s _ _ (T370.setTop (mkF m 150 #[own_jv q0, .second, own_jv q1, .second, own_jv q2, .second, iv p3, iv p4, iv p5, iv (0 : Int32), iv (1 : Int32), iv (1 : Int32), rv b354, rv b363, rv b367, rv b354, .unset] [(.long q0), (.int (1 : Int32)), (.ref b367)]))
        obtain ⟨T386, h386, X386, e386, W386, A386, st386⟩ := own_stJ X370 hx hZ e370 V370 (j := (1 : Int32)) (by decide) (g := (mkF m 150 #[own_jv q0, .second, own_jv q1, .second, own_jv q2, .second, iv p3, iv p4, iv p5, iv (0 : Int32), iv (1 : Int32), iv (1 : Int32), rv b354, rv b363, rv b367, rv b354, .unset] [(.long q0), (.int (1 : Int32)), (.ref b367)])) rfl rfl (hb hby at_150)
        have V386 : own_Arf Z h386 b367 .long 3 (fun k => .long ((fun k => if k = 1 then q0 else (fun k => if k = 2 then q2 else (fun k => if k = 1 then q1 else (fun k => if k = 0 then q0 else (fun _ => (0 : Int64)) k) k) k) k) k)) := A386
        have z386 := W386.size
        have N386 := Fr.snoc X386 N370 (by omega)
        refine own_st st386 ?_
        show own_Goes p e below s _ _ (T386.setTop (mkF m 151 #[own_jv q0, .second, own_jv q1, .second, own_jv q2, .second, iv p3, iv p4, iv p5, iv (0 : Int32), iv (1 : Int32), iv (1 : Int32), rv b354, rv b363, rv b367, rv b354, .unset] []))
        refine own_st (fun _ k => XS.aload X386.here hx rfl (hb hby at_151) rfl rfl  k) ?_
        show own_Goes p e below s _ _ (T386.setTop (mkF m 153 #[own_jv q0, .second, own_jv q1, .second, own_jv q2, .second, iv p3, iv p4, iv p5, iv (0 : Int32), iv (1 : Int32), iv (1 : Int32), rv b354, rv b363, rv b367, rv b354, .unset] [(.ref b354)]))
        refine own_st (fun _ k => XS.iload X386.here hx rfl (hb hby at_153) rfl  k) ?_
        show own_Goes p e below s _ _ (T386.setTop (mkF m 155 #[own_jv q0, .second, own_jv q1, .second, own_jv q2, .second, iv p3, iv p4, iv p5, iv (0 : Int32), iv (1 : Int32), iv (1 : Int32), rv b354, rv b363, rv b367, rv b354, .unset] [(.int (0 : Int32)), (.ref b354)]))
        refine own_st (fun _ k => XS.aload X386.here hx rfl (hb hby at_155) rfl rfl  k) ?_
        show own_Goes p e below s _ _ (T386.setTop (mkF m 157 #[own_jv q0, .second, own_jv q1, .second, own_jv q2, .second, iv p3, iv p4, iv p5, iv (0 : Int32), iv (1 : Int32), iv (1 : Int32), rv b354, rv b363, rv b367, rv b354, .unset] [(.ref b354), (.int (0 : Int32)), (.ref b354)]))
        refine own_st (fun _ k => XS.iload X386.here hx rfl (hb hby at_157) rfl  k) ?_
        show own_Goes p e below s _ _ (T386.setTop (mkF m 159 #[own_jv q0, .second, own_jv q1, .second, own_jv q2, .second, iv p3, iv p4, iv p5, iv (0 : Int32), iv (1 : Int32), iv (1 : Int32), rv b354, rv b363, rv b367, rv b354, .unset] [(.int (1 : Int32)), (.ref b354), (.int (0 : Int32)), (.ref b354)]))
        have f388 := (((((((((Fc361.ext E363).other W364 (Or.inl (own_ne (by omega)))).other W365 (Or.inl (own_ne (by omega)))).other W366 (Or.inl (own_ne (by omega)))).ext E367).other W368 (Or.inl (own_ne (by omega)))).other W369 (Or.inl (own_ne (by omega)))).other W370 (Or.inl (own_ne (by omega)))).other W386 (Or.inl (own_ne (by omega))))
        have f389 := (((((((((Vd361.ext E363).other W364 (own_ne (by omega))).other W365 (own_ne (by omega))).other W366 (own_ne (by omega))).ext E367).other W368 (own_ne (by omega))).other W369 (own_ne (by omega))).other W370 (own_ne (by omega))).other W386 (own_ne (by omega)))
        have f390 := (((((((((A361.ext E363).wr W364).wr W365).wr W366).ext E367).wr W368).wr W369).wr W370).wr W386)
        obtain ⟨v387, T387, L387, X387, Q387, st387⟩ := own_callV X386 hx hZ (C := "com/example/reach2/reach2/model/CodedColumn") (y := (⟨"com/example/reach2/reach2/model/CodedColumn", "copyTo", "(ILcom/example/reach2/reach2/model/CodedColumn;I)V"⟩ : MethodName)) hown (hw _ (List.mem_of_getElem? (i := 38) rfl)) (hw _ (List.mem_of_getElem? (i := 39) rfl)) (hw _ (List.mem_of_getElem? (i := 41) rfl)) (hw _ (List.mem_of_getElem? (i := 40) rfl)) (hw _ (List.mem_of_getElem? (i := 3) rfl)) (hw _ (List.mem_of_getElem? (i := 42) rfl)) (by decide) (W := 0) (rest := []) (argsL := [(.int (0 : Int32)), (.ref b354), (.int (1 : Int32))]) (a := b354) (rmCT l Z a0 hw [] b354 (0 : Int32) b354 (1 : Int32) ac355 ac355 _ _ h386 n0 (by omega) f388 f388 f389 f389 (by decide) (by decide) (by omega)) (by decide) (by decide) (by decide) (by decide) e386 f390 own_pd5 rfl (g := (mkF m 159 #[own_jv q0, .second, own_jv q1, .second, own_jv q2, .second, iv p3, iv p4, iv p5, iv (0 : Int32), iv (1 : Int32), iv (1 : Int32), rv b354, rv b363, rv b367, rv b354, .unset] [(.int (1 : Int32)), (.ref b354), (.int (0 : Int32)), (.ref b354)])) rfl (by rw [hml]; rfl) rfl (by show 2 * 0 + _ ≤ _; exact Nat.le_of_eq rfl) (hb hby at_159)
        obtain ⟨rfl, N387q, K387, V387⟩ := Q387
        have z387 := K387.1
        have Vt387 : own_Arf Z T387.heap ac355 .byte 3 (fun k => .int ((fun k => if k = 1 then (nar .byte (nar .byte (r356.toInt8.toInt32))) else (fun k => if k = 2 then (nar .byte (r361.toInt8.toInt32)) else (fun k => if k = 1 then (nar .byte (r359.toInt8.toInt32)) else (fun k => if k = 0 then (nar .byte (r356.toInt8.toInt32)) else (fun _ => (0 : Int32)) k) k) k) k) k)) := V387
        have N387 := Fr.app N386 N387q
        refine own_st st387 ?_
        show own_Goes p e below s _ _ (T387.setTop (mkF m 162 #[own_jv q0, .second, own_jv q1, .second, own_jv q2, .second, iv p3, iv p4, iv p5, iv (0 : Int32), iv (1 : Int32), iv (1 : Int32), rv b354, rv b363, rv b367, rv b354, .unset] []))
        refine own_st (fun _ k => XS.aload X387.here hx rfl (hb hby at_162) rfl rfl  k) ?_
        show own_Goes p e below s _ _ (T387.setTop (mkF m 164 #[own_jv q0, .second, own_jv q1, .second, own_jv q2, .second, iv p3, iv p4, iv p5, iv (0 : Int32), iv (1 : Int32), iv (1 : Int32), rv b354, rv b363, rv b367, rv b354, .unset] [(.ref b354)]))
        refine own_st (fun _ k => XS.iconst X387.here hx rfl (hb hby at_164) k) ?_
        show own_Goes p e below s _ _ (T387.setTop (mkF m 165 #[own_jv q0, .second, own_jv q1, .second, own_jv q2, .second, iv p3, iv p4, iv p5, iv (0 : Int32), iv (1 : Int32), iv (1 : Int32), rv b354, rv b363, rv b367, rv b354, .unset] [(.int (0 : Int32)), (.ref b354)]))
        have f392 := (f388.keep K387 (ninS (own_ne (by omega)) nin0))
        have f393 := ((((((((((Fv361.ext E363).other W364 (Or.inl (own_ne (by omega)))).other W365 (Or.inl (own_ne (by omega)))).other W366 (Or.inl (own_ne (by omega)))).ext E367).other W368 (Or.inl (own_ne (by omega)))).other W369 (Or.inl (own_ne (by omega)))).other W370 (Or.inl (own_ne (by omega)))).other W386 (Or.inl (own_ne (by omega)))).keep K387 (ninS (own_ne (by omega)) nin0))
        have f394 := ((((((((((Vv361.ext E363).other W364 (own_ne (by omega))).other W365 (own_ne (by omega))).other W366 (own_ne (by omega))).ext E367).other W368 (own_ne (by omega))).other W369 (own_ne (by omega))).other W370 (own_ne (by omega))).other W386 (own_ne (by omega))).keep K387 (ninS (own_ne (by omega)) nin0))
        have f395 := (f390.keep K387)
        obtain ⟨v391, T391, L391, X391, Q391, st391⟩ := own_callV X387 hx hZ (C := "com/example/reach2/reach2/model/CodedColumn") (y := (⟨"com/example/reach2/reach2/model/CodedColumn", "get", "(I)J"⟩ : MethodName)) hown (hw _ (List.mem_of_getElem? (i := 43) rfl)) (hw _ (List.mem_of_getElem? (i := 44) rfl)) (hw _ (List.mem_of_getElem? (i := 46) rfl)) (hw _ (List.mem_of_getElem? (i := 45) rfl)) (hw _ (List.mem_of_getElem? (i := 3) rfl)) (hw _ (List.mem_of_getElem? (i := 47) rfl)) (by decide) (W := 0) (rest := []) (argsL := [(.int (0 : Int32))]) (a := b354) (rmGet l Z a0 hw [] b354 (0 : Int32) _ _ _ _ T387.heap n0 (by omega) f392 f393 Vt387 f394 (by decide)) (by decide) (by decide) (by decide) (by decide) rfl f395 own_pd6 rfl (g := (mkF m 165 #[own_jv q0, .second, own_jv q1, .second, own_jv q2, .second, iv p3, iv p4, iv p5, iv (0 : Int32), iv (1 : Int32), iv (1 : Int32), rv b354, rv b363, rv b367, rv b354, .unset] [(.int (0 : Int32)), (.ref b354)])) rfl (by rw [hml]; rfl) rfl (by show 2 * 0 + _ ≤ _; exact Nat.le_of_eq rfl) (hb hby at_165)
        obtain ⟨g391, rfl, hg391, N391q, e391⟩ := Q391
        obtain rfl : q0 = g391 := (hg391.trans (own_at (by omega) ((rf361 _ (by omega)).trans ((rf359 _ (by omega)).trans re356)))).symm
        have N391 := Fr.app N387 N391q
        refine own_st st391 ?_
        show own_Goes p e below s _ _ (T391.setTop (mkF m 168 #[own_jv q0, .second, own_jv q1, .second, own_jv q2, .second, iv p3, iv p4, iv p5, iv (0 : Int32), iv (1 : Int32), iv (1 : Int32), rv b354, rv b363, rv b367, rv b354, .unset] [(.long q0)]))
        refine own_st (fun _ k => XS.aload X391.here hx rfl (hb hby at_168) rfl rfl  k) ?_
        show own_Goes p e below s _ _ (T391.setTop (mkF m 170 #[own_jv q0, .second, own_jv q1, .second, own_jv q2, .second, iv p3, iv p4, iv p5, iv (0 : Int32), iv (1 : Int32), iv (1 : Int32), rv b354, rv b363, rv b367, rv b354, .unset] [(.ref b367), (.long q0)]))
        refine own_st (fun _ k => XS.iconst X391.here hx rfl (hb hby at_170) k) ?_
        show own_Goes p e below s _ _ (T391.setTop (mkF m 171 #[own_jv q0, .second, own_jv q1, .second, own_jv q2, .second, iv p3, iv p4, iv p5, iv (0 : Int32), iv (1 : Int32), iv (1 : Int32), rv b354, rv b363, rv b367, rv b354, .unset] [(.int (0 : Int32)), (.ref b367), (.long q0)]))
        have f396 := (V386.keep K387 (ninS (own_ne (by omega)) nin0))
        refine own_st (fun _ k => own_ldJ X391 hx hZ e391 f396 (j := (0 : Int32)) (by decide) (g := (mkF m 171 #[own_jv q0, .second, own_jv q1, .second, own_jv q2, .second, iv p3, iv p4, iv p5, iv (0 : Int32), iv (1 : Int32), iv (1 : Int32), rv b354, rv b363, rv b367, rv b354, .unset] [(.int (0 : Int32)), (.ref b367), (.long q0)])) rfl rfl (hb hby at_171) _ k) ?_
        show own_Goes p e below s _ _ (T391.setTop (mkF m 172 #[own_jv q0, .second, own_jv q1, .second, own_jv q2, .second, iv p3, iv p4, iv p5, iv (0 : Int32), iv (1 : Int32), iv (1 : Int32), rv b354, rv b363, rv b367, rv b354, .unset] [(.long q0), (.long q0)]))
        refine own_st (fun _ k => XS.lcmp X391.here hx rfl (hb hby at_172) rfl k) ?_
        show own_Goes p e below s _ _ (T391.setTop (mkF m 173 #[own_jv q0, .second, own_jv q1, .second, own_jv q2, .second, iv p3, iv p4, iv p5, iv (0 : Int32), iv (1 : Int32), iv (1 : Int32), rv b354, rv b363, rv b367, rv b354, .unset] [(.int (lcmpW q0 q0))]))
        refine own_st (fun _ k => XS.ifNo X391.here hx rfl (hb hby at_173) rfl ((if0 _ _).trans (teq ((lw_eq _ _).mpr (rfl : q0 = q0))).2) k) ?_
        show own_Goes p e below s _ _ (T391.setTop (mkF m 176 #[own_jv q0, .second, own_jv q1, .second, own_jv q2, .second, iv p3, iv p4, iv p5, iv (0 : Int32), iv (1 : Int32), iv (1 : Int32), rv b354, rv b363, rv b367, rv b354, .unset] []))
        refine own_st (fun _ k => XS.aload X391.here hx rfl (hb hby at_176) rfl rfl  k) ?_
        show own_Goes p e below s _ _ (T391.setTop (mkF m 178 #[own_jv q0, .second, own_jv q1, .second, own_jv q2, .second, iv p3, iv p4, iv p5, iv (0 : Int32), iv (1 : Int32), iv (1 : Int32), rv b354, rv b363, rv b367, rv b354, .unset] [(.ref b354)]))
        refine own_st (fun _ k => XS.iconst X391.here hx rfl (hb hby at_178) k) ?_
        show own_Goes p e below s _ _ (T391.setTop (mkF m 179 #[own_jv q0, .second, own_jv q1, .second, own_jv q2, .second, iv p3, iv p4, iv p5, iv (0 : Int32), iv (1 : Int32), iv (1 : Int32), rv b354, rv b363, rv b367, rv b354, .unset] [(.int (1 : Int32)), (.ref b354)]))
        obtain ⟨v397, T397, L397, X397, Q397, st397⟩ := own_callV X391 hx hZ (C := "com/example/reach2/reach2/model/CodedColumn") (y := (⟨"com/example/reach2/reach2/model/CodedColumn", "get", "(I)J"⟩ : MethodName)) hown (hw _ (List.mem_of_getElem? (i := 43) rfl)) (hw _ (List.mem_of_getElem? (i := 44) rfl)) (hw _ (List.mem_of_getElem? (i := 46) rfl)) (hw _ (List.mem_of_getElem? (i := 45) rfl)) (hw _ (List.mem_of_getElem? (i := 3) rfl)) (hw _ (List.mem_of_getElem? (i := 47) rfl)) (by decide) (W := 0) (rest := []) (argsL := [(.int (1 : Int32))]) (a := b354) (rmGet l Z a0 hw [] b354 (1 : Int32) _ _ _ _ T387.heap n0 (by omega) f392 f393 Vt387 f394 (by decide)) (by decide) (by decide) (by decide) (by decide) e391 f395 own_pd6 rfl (g := (mkF m 179 #[own_jv q0, .second, own_jv q1, .second, own_jv q2, .second, iv p3, iv p4, iv p5, iv (0 : Int32), iv (1 : Int32), iv (1 : Int32), rv b354, rv b363, rv b367, rv b354, .unset] [(.int (1 : Int32)), (.ref b354)])) rfl (by rw [hml]; rfl) rfl (by show 2 * 0 + _ ≤ _; exact Nat.le_of_eq rfl) (hb hby at_179)
        obtain ⟨g397, rfl, hg397, N397q, e397⟩ := Q397
        obtain rfl : q0 = g397 := (hg397.trans (own_at2 (by omega) ((rf361 _ (by omega)).trans ((rf359 _ (by omega)).trans re356)))).symm
        have N397 := Fr.app N391 N397q
        refine own_st st397 ?_
        show own_Goes p e below s _ _ (T397.setTop (mkF m 182 #[own_jv q0, .second, own_jv q1, .second, own_jv q2, .second, iv p3, iv p4, iv p5, iv (0 : Int32), iv (1 : Int32), iv (1 : Int32), rv b354, rv b363, rv b367, rv b354, .unset] [(.long q0)]))
        refine own_st (fun _ k => XS.aload X397.here hx rfl (hb hby at_182) rfl rfl  k) ?_
        show own_Goes p e below s _ _ (T397.setTop (mkF m 184 #[own_jv q0, .second, own_jv q1, .second, own_jv q2, .second, iv p3, iv p4, iv p5, iv (0 : Int32), iv (1 : Int32), iv (1 : Int32), rv b354, rv b363, rv b367, rv b354, .unset] [(.ref b367), (.long q0)]))
        refine own_st (fun _ k => XS.iconst X397.here hx rfl (hb hby at_184) k) ?_
        show own_Goes p e below s _ _ (T397.setTop (mkF m 185 #[own_jv q0, .second, own_jv q1, .second, own_jv q2, .second, iv p3, iv p4, iv p5, iv (0 : Int32), iv (1 : Int32), iv (1 : Int32), rv b354, rv b363, rv b367, rv b354, .unset] [(.int (1 : Int32)), (.ref b367), (.long q0)]))
        refine own_st (fun _ k => own_ldJ X397 hx hZ e397 f396 (j := (1 : Int32)) (by decide) (g := (mkF m 185 #[own_jv q0, .second, own_jv q1, .second, own_jv q2, .second, iv p3, iv p4, iv p5, iv (0 : Int32), iv (1 : Int32), iv (1 : Int32), rv b354, rv b363, rv b367, rv b354, .unset] [(.int (1 : Int32)), (.ref b367), (.long q0)])) rfl rfl (hb hby at_185) _ k) ?_
        show own_Goes p e below s _ _ (T397.setTop (mkF m 186 #[own_jv q0, .second, own_jv q1, .second, own_jv q2, .second, iv p3, iv p4, iv p5, iv (0 : Int32), iv (1 : Int32), iv (1 : Int32), rv b354, rv b363, rv b367, rv b354, .unset] [(.long q0), (.long q0)]))
        refine own_st (fun _ k => XS.lcmp X397.here hx rfl (hb hby at_186) rfl k) ?_
        show own_Goes p e below s _ _ (T397.setTop (mkF m 187 #[own_jv q0, .second, own_jv q1, .second, own_jv q2, .second, iv p3, iv p4, iv p5, iv (0 : Int32), iv (1 : Int32), iv (1 : Int32), rv b354, rv b363, rv b367, rv b354, .unset] [(.int (lcmpW q0 q0))]))
        refine own_st (fun _ k => XS.ifNo X397.here hx rfl (hb hby at_187) rfl ((if0 _ _).trans (teq ((lw_eq _ _).mpr (rfl : q0 = q0))).2) k) ?_
        show own_Goes p e below s _ _ (T397.setTop (mkF m 190 #[own_jv q0, .second, own_jv q1, .second, own_jv q2, .second, iv p3, iv p4, iv p5, iv (0 : Int32), iv (1 : Int32), iv (1 : Int32), rv b354, rv b363, rv b367, rv b354, .unset] []))
        refine own_st (fun _ k => XS.aload X397.here hx rfl (hb hby at_190) rfl rfl  k) ?_
        show own_Goes p e below s _ _ (T397.setTop (mkF m 192 #[own_jv q0, .second, own_jv q1, .second, own_jv q2, .second, iv p3, iv p4, iv p5, iv (0 : Int32), iv (1 : Int32), iv (1 : Int32), rv b354, rv b363, rv b367, rv b354, .unset] [(.ref b354)]))
        refine own_st (fun _ k => XS.iconst X397.here hx rfl (hb hby at_192) k) ?_
        show own_Goes p e below s _ _ (T397.setTop (mkF m 193 #[own_jv q0, .second, own_jv q1, .second, own_jv q2, .second, iv p3, iv p4, iv p5, iv (0 : Int32), iv (1 : Int32), iv (1 : Int32), rv b354, rv b363, rv b367, rv b354, .unset] [(.int (2 : Int32)), (.ref b354)]))
        obtain ⟨v398, T398, L398, X398, Q398, st398⟩ := own_callV X397 hx hZ (C := "com/example/reach2/reach2/model/CodedColumn") (y := (⟨"com/example/reach2/reach2/model/CodedColumn", "get", "(I)J"⟩ : MethodName)) hown (hw _ (List.mem_of_getElem? (i := 43) rfl)) (hw _ (List.mem_of_getElem? (i := 44) rfl)) (hw _ (List.mem_of_getElem? (i := 46) rfl)) (hw _ (List.mem_of_getElem? (i := 45) rfl)) (hw _ (List.mem_of_getElem? (i := 3) rfl)) (hw _ (List.mem_of_getElem? (i := 47) rfl)) (by decide) (W := 0) (rest := []) (argsL := [(.int (2 : Int32))]) (a := b354) (rmGet l Z a0 hw [] b354 (2 : Int32) _ _ _ _ T387.heap n0 (by omega) f392 f393 Vt387 f394 (by decide)) (by decide) (by decide) (by decide) (by decide) e397 f395 own_pd6 rfl (g := (mkF m 193 #[own_jv q0, .second, own_jv q1, .second, own_jv q2, .second, iv p3, iv p4, iv p5, iv (0 : Int32), iv (1 : Int32), iv (1 : Int32), rv b354, rv b363, rv b367, rv b354, .unset] [(.int (2 : Int32)), (.ref b354)])) rfl (by rw [hml]; rfl) rfl (by show 2 * 0 + _ ≤ _; exact Nat.le_of_eq rfl) (hb hby at_193)
        obtain ⟨g398, rfl, hg398, N398q, e398⟩ := Q398
        obtain rfl : q2 = g398 := (hg398.trans (own_at (by omega) re361)).symm
        have N398 := Fr.app N397 N398q
        refine own_st st398 ?_
        show own_Goes p e below s _ _ (T398.setTop (mkF m 196 #[own_jv q0, .second, own_jv q1, .second, own_jv q2, .second, iv p3, iv p4, iv p5, iv (0 : Int32), iv (1 : Int32), iv (1 : Int32), rv b354, rv b363, rv b367, rv b354, .unset] [(.long q2)]))
        refine own_st (fun _ k => XS.aload X398.here hx rfl (hb hby at_196) rfl rfl  k) ?_
        show own_Goes p e below s _ _ (T398.setTop (mkF m 198 #[own_jv q0, .second, own_jv q1, .second, own_jv q2, .second, iv p3, iv p4, iv p5, iv (0 : Int32), iv (1 : Int32), iv (1 : Int32), rv b354, rv b363, rv b367, rv b354, .unset] [(.ref b367), (.long q2)]))
        refine own_st (fun _ k => XS.iconst X398.here hx rfl (hb hby at_198) k) ?_
        show own_Goes p e below s _ _ (T398.setTop (mkF m 199 #[own_jv q0, .second, own_jv q1, .second, own_jv q2, .second, iv p3, iv p4, iv p5, iv (0 : Int32), iv (1 : Int32), iv (1 : Int32), rv b354, rv b363, rv b367, rv b354, .unset] [(.int (2 : Int32)), (.ref b367), (.long q2)]))
        refine own_st (fun _ k => own_ldJ X398 hx hZ e398 f396 (j := (2 : Int32)) (by decide) (g := (mkF m 199 #[own_jv q0, .second, own_jv q1, .second, own_jv q2, .second, iv p3, iv p4, iv p5, iv (0 : Int32), iv (1 : Int32), iv (1 : Int32), rv b354, rv b363, rv b367, rv b354, .unset] [(.int (2 : Int32)), (.ref b367), (.long q2)])) rfl rfl (hb hby at_199) _ k) ?_
        show own_Goes p e below s _ _ (T398.setTop (mkF m 200 #[own_jv q0, .second, own_jv q1, .second, own_jv q2, .second, iv p3, iv p4, iv p5, iv (0 : Int32), iv (1 : Int32), iv (1 : Int32), rv b354, rv b363, rv b367, rv b354, .unset] [(.long q2), (.long q2)]))
        refine own_st (fun _ k => XS.lcmp X398.here hx rfl (hb hby at_200) rfl k) ?_
        show own_Goes p e below s _ _ (T398.setTop (mkF m 201 #[own_jv q0, .second, own_jv q1, .second, own_jv q2, .second, iv p3, iv p4, iv p5, iv (0 : Int32), iv (1 : Int32), iv (1 : Int32), rv b354, rv b363, rv b367, rv b354, .unset] [(.int (lcmpW q2 q2))]))
        refine own_st (fun _ k => XS.ifNo X398.here hx rfl (hb hby at_201) rfl ((if0 _ _).trans (teq ((lw_eq _ _).mpr (rfl : q2 = q2))).2) k) ?_
        show own_Goes p e below s _ _ (T398.setTop (mkF m 204 #[own_jv q0, .second, own_jv q1, .second, own_jv q2, .second, iv p3, iv p4, iv p5, iv (0 : Int32), iv (1 : Int32), iv (1 : Int32), rv b354, rv b363, rv b367, rv b354, .unset] []))
        refine own_st (fun _ k => XS.iconst X398.here hx rfl (hb hby at_204) k) ?_
        show own_Goes p e below s _ _ (T398.setTop (mkF m 205 #[own_jv q0, .second, own_jv q1, .second, own_jv q2, .second, iv p3, iv p4, iv p5, iv (0 : Int32), iv (1 : Int32), iv (1 : Int32), rv b354, rv b363, rv b367, rv b354, .unset] [(.int (1 : Int32))]))
        refine own_st (fun _ k => XS.goto X398.here hx rfl (pc0 := 205) (pc' := 209) rfl (hb hby at_205) (by decide) (by decide) k) ?_
        show own_Goes p e below s _ _ (T398.setTop (mkF m 209 #[own_jv q0, .second, own_jv q1, .second, own_jv q2, .second, iv p3, iv p4, iv p5, iv (0 : Int32), iv (1 : Int32), iv (1 : Int32), rv b354, rv b363, rv b367, rv b354, .unset] [(.int (1 : Int32))]))
        refine own_st (fun _ k => XS.istore X398.here hx rfl (hb hby at_209) rfl (l' := #[own_jv q0, .second, own_jv q1, .second, own_jv q2, .second, iv p3, iv p4, iv p5, iv (0 : Int32), iv (1 : Int32), iv (1 : Int32), rv b354, rv b363, rv b367, rv b354, iv (1 : Int32)]) rfl k) ?_
        show own_Goes p e below s _ _ (T398.setTop (mkF m 211 #[own_jv q0, .second, own_jv q1, .second, own_jv q2, .second, iv p3, iv p4, iv p5, iv (0 : Int32), iv (1 : Int32), iv (1 : Int32), rv b354, rv b363, rv b367, rv b354, iv (1 : Int32)] []))
        refine own_st (fun _ k => XS.iload X398.here hx rfl (hb hby at_211) rfl  k) ?_
        show own_Goes p e below s _ _ (T398.setTop (mkF m 213 #[own_jv q0, .second, own_jv q1, .second, own_jv q2, .second, iv p3, iv p4, iv p5, iv (0 : Int32), iv (1 : Int32), iv (1 : Int32), rv b354, rv b363, rv b367, rv b354, iv (1 : Int32)] [(.int (1 : Int32))]))
        refine own_st (fun _ k => XS.ifYes X398.here hx rfl (pc0 := 213) (pc' := 262) rfl (hb hby at_213) rfl ((if0 _ _).trans (feq (by decide : ¬ ((1 : Int32) = (0 : Int32)))).2) (by decide) (by decide) k) ?_
        show own_Goes p e below s _ _ (T398.setTop (mkF m 262 #[own_jv q0, .second, own_jv q1, .second, own_jv q2, .second, iv p3, iv p4, iv p5, iv (0 : Int32), iv (1 : Int32), iv (1 : Int32), rv b354, rv b363, rv b367, rv b354, iv (1 : Int32)] []))
        refine own_st (fun _ k => XS.iload X398.here hx rfl (hb hby at_262) rfl  k) ?_
        show own_Goes p e below s _ _ (T398.setTop (mkF m 264 #[own_jv q0, .second, own_jv q1, .second, own_jv q2, .second, iv p3, iv p4, iv p5, iv (0 : Int32), iv (1 : Int32), iv (1 : Int32), rv b354, rv b363, rv b367, rv b354, iv (1 : Int32)] [(.int (1 : Int32))]))
        exact own_retN X398 hx hlk (1 : Int32) hret (Or.inl rfl) rfl (hb hby at_264) (by decide) (by decide) ⟨rfl, N398⟩
      · show own_Goes p e below s _ _ (T370.setTop (mkF m 141 #[own_jv q0, .second, own_jv q1, .second, own_jv q2, .second, iv p3, iv p4, iv p5, iv (0 : Int32), iv (2 : Int32), iv (1 : Int32), rv b354, rv b363, rv b367, rv b354, .unset] []))
        refine own_st (fun _ k => XS.aload X370.here hx rfl (hb hby at_141) rfl rfl  k) ?_
        show own_Goes p e below s _ _ (T370.setTop (mkF m 143 #[own_jv q0, .second, own_jv q1, .second, own_jv q2, .second, iv p3, iv p4, iv p5, iv (0 : Int32), iv (2 : Int32), iv (1 : Int32), rv b354, rv b363, rv b367, rv b354, .unset] [(.ref b367)]))
        refine own_st (fun _ k => XS.iload X370.here hx rfl (hb hby at_143) rfl  k) ?_
        show own_Goes p e below s _ _ (T370.setTop (mkF m 145 #[own_jv q0, .second, own_jv q1, .second, own_jv q2, .second, iv p3, iv p4, iv p5, iv (0 : Int32), iv (2 : Int32), iv (1 : Int32), rv b354, rv b363, rv b367, rv b354, .unset] [(.int (2 : Int32)), (.ref b367)]))
        refine own_st (fun _ k => XS.aload X370.here hx rfl (hb hby at_145) rfl rfl  k) ?_
        show own_Goes p e below s _ _ (T370.setTop (mkF m 147 #[own_jv q0, .second, own_jv q1, .second, own_jv q2, .second, iv p3, iv p4, iv p5, iv (0 : Int32), iv (2 : Int32), iv (1 : Int32), rv b354, rv b363, rv b367, rv b354, .unset] [(.ref b363), (.int (2 : Int32)), (.ref b367)]))
        refine own_st (fun _ k => XS.iload X370.here hx rfl (hb hby at_147) rfl  k) ?_
        show own_Goes p e below s _ _ (T370.setTop (mkF m 149 #[own_jv q0, .second, own_jv q1, .second, own_jv q2, .second, iv p3, iv p4, iv p5, iv (0 : Int32), iv (2 : Int32), iv (1 : Int32), rv b354, rv b363, rv b367, rv b354, .unset] [(.int (0 : Int32)), (.ref b363), (.int (2 : Int32)), (.ref b367)]))
        have f399 := ((((V366.ext E367).other W368 (own_ne (by omega))).other W369 (own_ne (by omega))).other W370 (own_ne (by omega)))
        refine own_st (fun _ k => own_ldJ X370 hx hZ e370 f399 (j := (0 : Int32)) (by decide) (g := (mkF m 149 #[own_jv q0, .second, own_jv q1, .second, own_jv q2, .second, iv p3, iv p4, iv p5, iv (0 : Int32), iv (2 : Int32), iv (1 : Int32), rv b354, rv b363, rv b367, rv b354, .unset] [(.int (0 : Int32)), (.ref b363), (.int (2 : Int32)), (.ref b367)])) rfl rfl (hb hby at_149) _ k) ?_
        show own_Goes p e below s _ _ (T370.setTop (mkF m 150 #[own_jv q0, .second, own_jv q1, .second, own_jv q2, .second, iv p3, iv p4, iv p5, iv (0 : Int32), iv (2 : Int32), iv (1 : Int32), rv b354, rv b363, rv b367, rv b354, .unset] [(.long q0), (.int (2 : Int32)), (.ref b367)]))
        obtain ⟨T400, h400, X400, e400, W400, A400, st400⟩ := own_stJ X370 hx hZ e370 V370 (j := (2 : Int32)) (by decide) (g := (mkF m 150 #[own_jv q0, .second, own_jv q1, .second, own_jv q2, .second, iv p3, iv p4, iv p5, iv (0 : Int32), iv (2 : Int32), iv (1 : Int32), rv b354, rv b363, rv b367, rv b354, .unset] [(.long q0), (.int (2 : Int32)), (.ref b367)])) rfl rfl (hb hby at_150)
        have V400 : own_Arf Z h400 b367 .long 3 (fun k => .long ((fun k => if k = 2 then q0 else (fun k => if k = 2 then q2 else (fun k => if k = 1 then q1 else (fun k => if k = 0 then q0 else (fun _ => (0 : Int64)) k) k) k) k) k)) := A400
        have z400 := W400.size
        have N400 := Fr.snoc X400 N370 (by omega)
        refine own_st st400 ?_
        show own_Goes p e below s _ _ (T400.setTop (mkF m 151 #[own_jv q0, .second, own_jv q1, .second, own_jv q2, .second, iv p3, iv p4, iv p5, iv (0 : Int32), iv (2 : Int32), iv (1 : Int32), rv b354, rv b363, rv b367, rv b354, .unset] []))
        refine own_st (fun _ k => XS.aload X400.here hx rfl (hb hby at_151) rfl rfl  k) ?_
        show own_Goes p e below s _ _ (T400.setTop (mkF m 153 #[own_jv q0, .second, own_jv q1, .second, own_jv q2, .second, iv p3, iv p4, iv p5, iv (0 : Int32), iv (2 : Int32), iv (1 : Int32), rv b354, rv b363, rv b367, rv b354, .unset] [(.ref b354)]))
        refine own_st (fun _ k => XS.iload X400.here hx rfl (hb hby at_153) rfl  k) ?_
        show own_Goes p e below s _ _ (T400.setTop (mkF m 155 #[own_jv q0, .second, own_jv q1, .second, own_jv q2, .second, iv p3, iv p4, iv p5, iv (0 : Int32), iv (2 : Int32), iv (1 : Int32), rv b354, rv b363, rv b367, rv b354, .unset] [(.int (0 : Int32)), (.ref b354)]))
        refine own_st (fun _ k => XS.aload X400.here hx rfl (hb hby at_155) rfl rfl  k) ?_
        show own_Goes p e below s _ _ (T400.setTop (mkF m 157 #[own_jv q0, .second, own_jv q1, .second, own_jv q2, .second, iv p3, iv p4, iv p5, iv (0 : Int32), iv (2 : Int32), iv (1 : Int32), rv b354, rv b363, rv b367, rv b354, .unset] [(.ref b354), (.int (0 : Int32)), (.ref b354)]))
        refine own_st (fun _ k => XS.iload X400.here hx rfl (hb hby at_157) rfl  k) ?_
        show own_Goes p e below s _ _ (T400.setTop (mkF m 159 #[own_jv q0, .second, own_jv q1, .second, own_jv q2, .second, iv p3, iv p4, iv p5, iv (0 : Int32), iv (2 : Int32), iv (1 : Int32), rv b354, rv b363, rv b367, rv b354, .unset] [(.int (2 : Int32)), (.ref b354), (.int (0 : Int32)), (.ref b354)]))
        have f402 := (((((((((Fc361.ext E363).other W364 (Or.inl (own_ne (by omega)))).other W365 (Or.inl (own_ne (by omega)))).other W366 (Or.inl (own_ne (by omega)))).ext E367).other W368 (Or.inl (own_ne (by omega)))).other W369 (Or.inl (own_ne (by omega)))).other W370 (Or.inl (own_ne (by omega)))).other W400 (Or.inl (own_ne (by omega))))
        have f403 := (((((((((Vd361.ext E363).other W364 (own_ne (by omega))).other W365 (own_ne (by omega))).other W366 (own_ne (by omega))).ext E367).other W368 (own_ne (by omega))).other W369 (own_ne (by omega))).other W370 (own_ne (by omega))).other W400 (own_ne (by omega)))
        have f404 := (((((((((A361.ext E363).wr W364).wr W365).wr W366).ext E367).wr W368).wr W369).wr W370).wr W400)
        obtain ⟨v401, T401, L401, X401, Q401, st401⟩ := own_callV X400 hx hZ (C := "com/example/reach2/reach2/model/CodedColumn") (y := (⟨"com/example/reach2/reach2/model/CodedColumn", "copyTo", "(ILcom/example/reach2/reach2/model/CodedColumn;I)V"⟩ : MethodName)) hown (hw _ (List.mem_of_getElem? (i := 38) rfl)) (hw _ (List.mem_of_getElem? (i := 39) rfl)) (hw _ (List.mem_of_getElem? (i := 41) rfl)) (hw _ (List.mem_of_getElem? (i := 40) rfl)) (hw _ (List.mem_of_getElem? (i := 3) rfl)) (hw _ (List.mem_of_getElem? (i := 42) rfl)) (by decide) (W := 0) (rest := []) (argsL := [(.int (0 : Int32)), (.ref b354), (.int (2 : Int32))]) (a := b354) (rmCT l Z a0 hw [] b354 (0 : Int32) b354 (2 : Int32) ac355 ac355 _ _ h400 n0 (by omega) f402 f402 f403 f403 (by decide) (by decide) (by omega)) (by decide) (by decide) (by decide) (by decide) e400 f404 own_pd5 rfl (g := (mkF m 159 #[own_jv q0, .second, own_jv q1, .second, own_jv q2, .second, iv p3, iv p4, iv p5, iv (0 : Int32), iv (2 : Int32), iv (1 : Int32), rv b354, rv b363, rv b367, rv b354, .unset] [(.int (2 : Int32)), (.ref b354), (.int (0 : Int32)), (.ref b354)])) rfl (by rw [hml]; rfl) rfl (by show 2 * 0 + _ ≤ _; exact Nat.le_of_eq rfl) (hb hby at_159)
        obtain ⟨rfl, N401q, K401, V401⟩ := Q401
        have z401 := K401.1
        have Vt401 : own_Arf Z T401.heap ac355 .byte 3 (fun k => .int ((fun k => if k = 2 then (nar .byte (nar .byte (r356.toInt8.toInt32))) else (fun k => if k = 2 then (nar .byte (r361.toInt8.toInt32)) else (fun k => if k = 1 then (nar .byte (r359.toInt8.toInt32)) else (fun k => if k = 0 then (nar .byte (r356.toInt8.toInt32)) else (fun _ => (0 : Int32)) k) k) k) k) k)) := V401
        have N401 := Fr.app N400 N401q
        refine own_st st401 ?_
        show own_Goes p e below s _ _ (T401.setTop (mkF m 162 #[own_jv q0, .second, own_jv q1, .second, own_jv q2, .second, iv p3, iv p4, iv p5, iv (0 : Int32), iv (2 : Int32), iv (1 : Int32), rv b354, rv b363, rv b367, rv b354, .unset] []))
        refine own_st (fun _ k => XS.aload X401.here hx rfl (hb hby at_162) rfl rfl  k) ?_
        show own_Goes p e below s _ _ (T401.setTop (mkF m 164 #[own_jv q0, .second, own_jv q1, .second, own_jv q2, .second, iv p3, iv p4, iv p5, iv (0 : Int32), iv (2 : Int32), iv (1 : Int32), rv b354, rv b363, rv b367, rv b354, .unset] [(.ref b354)]))
        refine own_st (fun _ k => XS.iconst X401.here hx rfl (hb hby at_164) k) ?_
        show own_Goes p e below s _ _ (T401.setTop (mkF m 165 #[own_jv q0, .second, own_jv q1, .second, own_jv q2, .second, iv p3, iv p4, iv p5, iv (0 : Int32), iv (2 : Int32), iv (1 : Int32), rv b354, rv b363, rv b367, rv b354, .unset] [(.int (0 : Int32)), (.ref b354)]))
        have f406 := (f402.keep K401 (ninS (own_ne (by omega)) nin0))
        have f407 := ((((((((((Fv361.ext E363).other W364 (Or.inl (own_ne (by omega)))).other W365 (Or.inl (own_ne (by omega)))).other W366 (Or.inl (own_ne (by omega)))).ext E367).other W368 (Or.inl (own_ne (by omega)))).other W369 (Or.inl (own_ne (by omega)))).other W370 (Or.inl (own_ne (by omega)))).other W400 (Or.inl (own_ne (by omega)))).keep K401 (ninS (own_ne (by omega)) nin0))
        have f408 := ((((((((((Vv361.ext E363).other W364 (own_ne (by omega))).other W365 (own_ne (by omega))).other W366 (own_ne (by omega))).ext E367).other W368 (own_ne (by omega))).other W369 (own_ne (by omega))).other W370 (own_ne (by omega))).other W400 (own_ne (by omega))).keep K401 (ninS (own_ne (by omega)) nin0))
        have f409 := (f404.keep K401)
        obtain ⟨v405, T405, L405, X405, Q405, st405⟩ := own_callV X401 hx hZ (C := "com/example/reach2/reach2/model/CodedColumn") (y := (⟨"com/example/reach2/reach2/model/CodedColumn", "get", "(I)J"⟩ : MethodName)) hown (hw _ (List.mem_of_getElem? (i := 43) rfl)) (hw _ (List.mem_of_getElem? (i := 44) rfl)) (hw _ (List.mem_of_getElem? (i := 46) rfl)) (hw _ (List.mem_of_getElem? (i := 45) rfl)) (hw _ (List.mem_of_getElem? (i := 3) rfl)) (hw _ (List.mem_of_getElem? (i := 47) rfl)) (by decide) (W := 0) (rest := []) (argsL := [(.int (0 : Int32))]) (a := b354) (rmGet l Z a0 hw [] b354 (0 : Int32) _ _ _ _ T401.heap n0 (by omega) f406 f407 Vt401 f408 (by decide)) (by decide) (by decide) (by decide) (by decide) rfl f409 own_pd6 rfl (g := (mkF m 165 #[own_jv q0, .second, own_jv q1, .second, own_jv q2, .second, iv p3, iv p4, iv p5, iv (0 : Int32), iv (2 : Int32), iv (1 : Int32), rv b354, rv b363, rv b367, rv b354, .unset] [(.int (0 : Int32)), (.ref b354)])) rfl (by rw [hml]; rfl) rfl (by show 2 * 0 + _ ≤ _; exact Nat.le_of_eq rfl) (hb hby at_165)
        obtain ⟨g405, rfl, hg405, N405q, e405⟩ := Q405
        obtain rfl : q0 = g405 := (hg405.trans (own_at (by omega) ((rf361 _ (by omega)).trans ((rf359 _ (by omega)).trans re356)))).symm
        have N405 := Fr.app N401 N405q
        refine own_st st405 ?_
        show own_Goes p e below s _ _ (T405.setTop (mkF m 168 #[own_jv q0, .second, own_jv q1, .second, own_jv q2, .second, iv p3, iv p4, iv p5, iv (0 : Int32), iv (2 : Int32), iv (1 : Int32), rv b354, rv b363, rv b367, rv b354, .unset] [(.long q0)]))
        refine own_st (fun _ k => XS.aload X405.here hx rfl (hb hby at_168) rfl rfl  k) ?_
        show own_Goes p e below s _ _ (T405.setTop (mkF m 170 #[own_jv q0, .second, own_jv q1, .second, own_jv q2, .second, iv p3, iv p4, iv p5, iv (0 : Int32), iv (2 : Int32), iv (1 : Int32), rv b354, rv b363, rv b367, rv b354, .unset] [(.ref b367), (.long q0)]))
        refine own_st (fun _ k => XS.iconst X405.here hx rfl (hb hby at_170) k) ?_
        show own_Goes p e below s _ _ (T405.setTop (mkF m 171 #[own_jv q0, .second, own_jv q1, .second, own_jv q2, .second, iv p3, iv p4, iv p5, iv (0 : Int32), iv (2 : Int32), iv (1 : Int32), rv b354, rv b363, rv b367, rv b354, .unset] [(.int (0 : Int32)), (.ref b367), (.long q0)]))
        have f410 := (V400.keep K401 (ninS (own_ne (by omega)) nin0))
        refine own_st (fun _ k => own_ldJ X405 hx hZ e405 f410 (j := (0 : Int32)) (by decide) (g := (mkF m 171 #[own_jv q0, .second, own_jv q1, .second, own_jv q2, .second, iv p3, iv p4, iv p5, iv (0 : Int32), iv (2 : Int32), iv (1 : Int32), rv b354, rv b363, rv b367, rv b354, .unset] [(.int (0 : Int32)), (.ref b367), (.long q0)])) rfl rfl (hb hby at_171) _ k) ?_
        show own_Goes p e below s _ _ (T405.setTop (mkF m 172 #[own_jv q0, .second, own_jv q1, .second, own_jv q2, .second, iv p3, iv p4, iv p5, iv (0 : Int32), iv (2 : Int32), iv (1 : Int32), rv b354, rv b363, rv b367, rv b354, .unset] [(.long q0), (.long q0)]))
        refine own_st (fun _ k => XS.lcmp X405.here hx rfl (hb hby at_172) rfl k) ?_
        show own_Goes p e below s _ _ (T405.setTop (mkF m 173 #[own_jv q0, .second, own_jv q1, .second, own_jv q2, .second, iv p3, iv p4, iv p5, iv (0 : Int32), iv (2 : Int32), iv (1 : Int32), rv b354, rv b363, rv b367, rv b354, .unset] [(.int (lcmpW q0 q0))]))
        refine own_st (fun _ k => XS.ifNo X405.here hx rfl (hb hby at_173) rfl ((if0 _ _).trans (teq ((lw_eq _ _).mpr (rfl : q0 = q0))).2) k) ?_
        show own_Goes p e below s _ _ (T405.setTop (mkF m 176 #[own_jv q0, .second, own_jv q1, .second, own_jv q2, .second, iv p3, iv p4, iv p5, iv (0 : Int32), iv (2 : Int32), iv (1 : Int32), rv b354, rv b363, rv b367, rv b354, .unset] []))
        refine own_st (fun _ k => XS.aload X405.here hx rfl (hb hby at_176) rfl rfl  k) ?_
        show own_Goes p e below s _ _ (T405.setTop (mkF m 178 #[own_jv q0, .second, own_jv q1, .second, own_jv q2, .second, iv p3, iv p4, iv p5, iv (0 : Int32), iv (2 : Int32), iv (1 : Int32), rv b354, rv b363, rv b367, rv b354, .unset] [(.ref b354)]))
        refine own_st (fun _ k => XS.iconst X405.here hx rfl (hb hby at_178) k) ?_
        show own_Goes p e below s _ _ (T405.setTop (mkF m 179 #[own_jv q0, .second, own_jv q1, .second, own_jv q2, .second, iv p3, iv p4, iv p5, iv (0 : Int32), iv (2 : Int32), iv (1 : Int32), rv b354, rv b363, rv b367, rv b354, .unset] [(.int (1 : Int32)), (.ref b354)]))
        obtain ⟨v411, T411, L411, X411, Q411, st411⟩ := own_callV X405 hx hZ (C := "com/example/reach2/reach2/model/CodedColumn") (y := (⟨"com/example/reach2/reach2/model/CodedColumn", "get", "(I)J"⟩ : MethodName)) hown (hw _ (List.mem_of_getElem? (i := 43) rfl)) (hw _ (List.mem_of_getElem? (i := 44) rfl)) (hw _ (List.mem_of_getElem? (i := 46) rfl)) (hw _ (List.mem_of_getElem? (i := 45) rfl)) (hw _ (List.mem_of_getElem? (i := 3) rfl)) (hw _ (List.mem_of_getElem? (i := 47) rfl)) (by decide) (W := 0) (rest := []) (argsL := [(.int (1 : Int32))]) (a := b354) (rmGet l Z a0 hw [] b354 (1 : Int32) _ _ _ _ T401.heap n0 (by omega) f406 f407 Vt401 f408 (by decide)) (by decide) (by decide) (by decide) (by decide) e405 f409 own_pd6 rfl (g := (mkF m 179 #[own_jv q0, .second, own_jv q1, .second, own_jv q2, .second, iv p3, iv p4, iv p5, iv (0 : Int32), iv (2 : Int32), iv (1 : Int32), rv b354, rv b363, rv b367, rv b354, .unset] [(.int (1 : Int32)), (.ref b354)])) rfl (by rw [hml]; rfl) rfl (by show 2 * 0 + _ ≤ _; exact Nat.le_of_eq rfl) (hb hby at_179)
        obtain ⟨g411, rfl, hg411, N411q, e411⟩ := Q411
        obtain rfl : q1 = g411 := (hg411.trans (own_at (by omega) ((rf361 _ (by omega)).trans re359))).symm
        have N411 := Fr.app N405 N411q
        refine own_st st411 ?_
        show own_Goes p e below s _ _ (T411.setTop (mkF m 182 #[own_jv q0, .second, own_jv q1, .second, own_jv q2, .second, iv p3, iv p4, iv p5, iv (0 : Int32), iv (2 : Int32), iv (1 : Int32), rv b354, rv b363, rv b367, rv b354, .unset] [(.long q1)]))
        refine own_st (fun _ k => XS.aload X411.here hx rfl (hb hby at_182) rfl rfl  k) ?_
        show own_Goes p e below s _ _ (T411.setTop (mkF m 184 #[own_jv q0, .second, own_jv q1, .second, own_jv q2, .second, iv p3, iv p4, iv p5, iv (0 : Int32), iv (2 : Int32), iv (1 : Int32), rv b354, rv b363, rv b367, rv b354, .unset] [(.ref b367), (.long q1)]))
        refine own_st (fun _ k => XS.iconst X411.here hx rfl (hb hby at_184) k) ?_
        show own_Goes p e below s _ _ (T411.setTop (mkF m 185 #[own_jv q0, .second, own_jv q1, .second, own_jv q2, .second, iv p3, iv p4, iv p5, iv (0 : Int32), iv (2 : Int32), iv (1 : Int32), rv b354, rv b363, rv b367, rv b354, .unset] [(.int (1 : Int32)), (.ref b367), (.long q1)]))
        refine own_st (fun _ k => own_ldJ X411 hx hZ e411 f410 (j := (1 : Int32)) (by decide) (g := (mkF m 185 #[own_jv q0, .second, own_jv q1, .second, own_jv q2, .second, iv p3, iv p4, iv p5, iv (0 : Int32), iv (2 : Int32), iv (1 : Int32), rv b354, rv b363, rv b367, rv b354, .unset] [(.int (1 : Int32)), (.ref b367), (.long q1)])) rfl rfl (hb hby at_185) _ k) ?_
        show own_Goes p e below s _ _ (T411.setTop (mkF m 186 #[own_jv q0, .second, own_jv q1, .second, own_jv q2, .second, iv p3, iv p4, iv p5, iv (0 : Int32), iv (2 : Int32), iv (1 : Int32), rv b354, rv b363, rv b367, rv b354, .unset] [(.long q1), (.long q1)]))
        refine own_st (fun _ k => XS.lcmp X411.here hx rfl (hb hby at_186) rfl k) ?_
        show own_Goes p e below s _ _ (T411.setTop (mkF m 187 #[own_jv q0, .second, own_jv q1, .second, own_jv q2, .second, iv p3, iv p4, iv p5, iv (0 : Int32), iv (2 : Int32), iv (1 : Int32), rv b354, rv b363, rv b367, rv b354, .unset] [(.int (lcmpW q1 q1))]))
        refine own_st (fun _ k => XS.ifNo X411.here hx rfl (hb hby at_187) rfl ((if0 _ _).trans (teq ((lw_eq _ _).mpr (rfl : q1 = q1))).2) k) ?_
        show own_Goes p e below s _ _ (T411.setTop (mkF m 190 #[own_jv q0, .second, own_jv q1, .second, own_jv q2, .second, iv p3, iv p4, iv p5, iv (0 : Int32), iv (2 : Int32), iv (1 : Int32), rv b354, rv b363, rv b367, rv b354, .unset] []))
        refine own_st (fun _ k => XS.aload X411.here hx rfl (hb hby at_190) rfl rfl  k) ?_
        show own_Goes p e below s _ _ (T411.setTop (mkF m 192 #[own_jv q0, .second, own_jv q1, .second, own_jv q2, .second, iv p3, iv p4, iv p5, iv (0 : Int32), iv (2 : Int32), iv (1 : Int32), rv b354, rv b363, rv b367, rv b354, .unset] [(.ref b354)]))
        refine own_st (fun _ k => XS.iconst X411.here hx rfl (hb hby at_192) k) ?_
        show own_Goes p e below s _ _ (T411.setTop (mkF m 193 #[own_jv q0, .second, own_jv q1, .second, own_jv q2, .second, iv p3, iv p4, iv p5, iv (0 : Int32), iv (2 : Int32), iv (1 : Int32), rv b354, rv b363, rv b367, rv b354, .unset] [(.int (2 : Int32)), (.ref b354)]))
        obtain ⟨v412, T412, L412, X412, Q412, st412⟩ := own_callV X411 hx hZ (C := "com/example/reach2/reach2/model/CodedColumn") (y := (⟨"com/example/reach2/reach2/model/CodedColumn", "get", "(I)J"⟩ : MethodName)) hown (hw _ (List.mem_of_getElem? (i := 43) rfl)) (hw _ (List.mem_of_getElem? (i := 44) rfl)) (hw _ (List.mem_of_getElem? (i := 46) rfl)) (hw _ (List.mem_of_getElem? (i := 45) rfl)) (hw _ (List.mem_of_getElem? (i := 3) rfl)) (hw _ (List.mem_of_getElem? (i := 47) rfl)) (by decide) (W := 0) (rest := []) (argsL := [(.int (2 : Int32))]) (a := b354) (rmGet l Z a0 hw [] b354 (2 : Int32) _ _ _ _ T401.heap n0 (by omega) f406 f407 Vt401 f408 (by decide)) (by decide) (by decide) (by decide) (by decide) e411 f409 own_pd6 rfl (g := (mkF m 193 #[own_jv q0, .second, own_jv q1, .second, own_jv q2, .second, iv p3, iv p4, iv p5, iv (0 : Int32), iv (2 : Int32), iv (1 : Int32), rv b354, rv b363, rv b367, rv b354, .unset] [(.int (2 : Int32)), (.ref b354)])) rfl (by rw [hml]; rfl) rfl (by show 2 * 0 + _ ≤ _; exact Nat.le_of_eq rfl) (hb hby at_193)
        obtain ⟨g412, rfl, hg412, N412q, e412⟩ := Q412
        obtain rfl : q0 = g412 := (hg412.trans (own_at2 (by omega) ((rf361 _ (by omega)).trans ((rf359 _ (by omega)).trans re356)))).symm
        have N412 := Fr.app N411 N412q
        refine own_st st412 ?_
        show own_Goes p e below s _ _ (T412.setTop (mkF m 196 #[own_jv q0, .second, own_jv q1, .second, own_jv q2, .second, iv p3, iv p4, iv p5, iv (0 : Int32), iv (2 : Int32), iv (1 : Int32), rv b354, rv b363, rv b367, rv b354, .unset] [(.long q0)]))
        refine own_st (fun _ k => XS.aload X412.here hx rfl (hb hby at_196) rfl rfl  k) ?_
        show own_Goes p e below s _ _ (T412.setTop (mkF m 198 #[own_jv q0, .second, own_jv q1, .second, own_jv q2, .second, iv p3, iv p4, iv p5, iv (0 : Int32), iv (2 : Int32), iv (1 : Int32), rv b354, rv b363, rv b367, rv b354, .unset] [(.ref b367), (.long q0)]))
        refine own_st (fun _ k => XS.iconst X412.here hx rfl (hb hby at_198) k) ?_
        show own_Goes p e below s _ _ (T412.setTop (mkF m 199 #[own_jv q0, .second, own_jv q1, .second, own_jv q2, .second, iv p3, iv p4, iv p5, iv (0 : Int32), iv (2 : Int32), iv (1 : Int32), rv b354, rv b363, rv b367, rv b354, .unset] [(.int (2 : Int32)), (.ref b367), (.long q0)]))
        refine own_st (fun _ k => own_ldJ X412 hx hZ e412 f410 (j := (2 : Int32)) (by decide) (g := (mkF m 199 #[own_jv q0, .second, own_jv q1, .second, own_jv q2, .second, iv p3, iv p4, iv p5, iv (0 : Int32), iv (2 : Int32), iv (1 : Int32), rv b354, rv b363, rv b367, rv b354, .unset] [(.int (2 : Int32)), (.ref b367), (.long q0)])) rfl rfl (hb hby at_199) _ k) ?_
        show own_Goes p e below s _ _ (T412.setTop (mkF m 200 #[own_jv q0, .second, own_jv q1, .second, own_jv q2, .second, iv p3, iv p4, iv p5, iv (0 : Int32), iv (2 : Int32), iv (1 : Int32), rv b354, rv b363, rv b367, rv b354, .unset] [(.long q0), (.long q0)]))
        refine own_st (fun _ k => XS.lcmp X412.here hx rfl (hb hby at_200) rfl k) ?_
        show own_Goes p e below s _ _ (T412.setTop (mkF m 201 #[own_jv q0, .second, own_jv q1, .second, own_jv q2, .second, iv p3, iv p4, iv p5, iv (0 : Int32), iv (2 : Int32), iv (1 : Int32), rv b354, rv b363, rv b367, rv b354, .unset] [(.int (lcmpW q0 q0))]))
        refine own_st (fun _ k => XS.ifNo X412.here hx rfl (hb hby at_201) rfl ((if0 _ _).trans (teq ((lw_eq _ _).mpr (rfl : q0 = q0))).2) k) ?_
        show own_Goes p e below s _ _ (T412.setTop (mkF m 204 #[own_jv q0, .second, own_jv q1, .second, own_jv q2, .second, iv p3, iv p4, iv p5, iv (0 : Int32), iv (2 : Int32), iv (1 : Int32), rv b354, rv b363, rv b367, rv b354, .unset] []))
        refine own_st (fun _ k => XS.iconst X412.here hx rfl (hb hby at_204) k) ?_
        show own_Goes p e below s _ _ (T412.setTop (mkF m 205 #[own_jv q0, .second, own_jv q1, .second, own_jv q2, .second, iv p3, iv p4, iv p5, iv (0 : Int32), iv (2 : Int32), iv (1 : Int32), rv b354, rv b363, rv b367, rv b354, .unset] [(.int (1 : Int32))]))
        refine own_st (fun _ k => XS.goto X412.here hx rfl (pc0 := 205) (pc' := 209) rfl (hb hby at_205) (by decide) (by decide) k) ?_
        show own_Goes p e below s _ _ (T412.setTop (mkF m 209 #[own_jv q0, .second, own_jv q1, .second, own_jv q2, .second, iv p3, iv p4, iv p5, iv (0 : Int32), iv (2 : Int32), iv (1 : Int32), rv b354, rv b363, rv b367, rv b354, .unset] [(.int (1 : Int32))]))
        refine own_st (fun _ k => XS.istore X412.here hx rfl (hb hby at_209) rfl (l' := #[own_jv q0, .second, own_jv q1, .second, own_jv q2, .second, iv p3, iv p4, iv p5, iv (0 : Int32), iv (2 : Int32), iv (1 : Int32), rv b354, rv b363, rv b367, rv b354, iv (1 : Int32)]) rfl k) ?_
        show own_Goes p e below s _ _ (T412.setTop (mkF m 211 #[own_jv q0, .second, own_jv q1, .second, own_jv q2, .second, iv p3, iv p4, iv p5, iv (0 : Int32), iv (2 : Int32), iv (1 : Int32), rv b354, rv b363, rv b367, rv b354, iv (1 : Int32)] []))
        refine own_st (fun _ k => XS.iload X412.here hx rfl (hb hby at_211) rfl  k) ?_
        show own_Goes p e below s _ _ (T412.setTop (mkF m 213 #[own_jv q0, .second, own_jv q1, .second, own_jv q2, .second, iv p3, iv p4, iv p5, iv (0 : Int32), iv (2 : Int32), iv (1 : Int32), rv b354, rv b363, rv b367, rv b354, iv (1 : Int32)] [(.int (1 : Int32))]))
        refine own_st (fun _ k => XS.ifYes X412.here hx rfl (pc0 := 213) (pc' := 262) rfl (hb hby at_213) rfl ((if0 _ _).trans (feq (by decide : ¬ ((1 : Int32) = (0 : Int32)))).2) (by decide) (by decide) k) ?_
        show own_Goes p e below s _ _ (T412.setTop (mkF m 262 #[own_jv q0, .second, own_jv q1, .second, own_jv q2, .second, iv p3, iv p4, iv p5, iv (0 : Int32), iv (2 : Int32), iv (1 : Int32), rv b354, rv b363, rv b367, rv b354, iv (1 : Int32)] []))
        refine own_st (fun _ k => XS.iload X412.here hx rfl (hb hby at_262) rfl  k) ?_
        show own_Goes p e below s _ _ (T412.setTop (mkF m 264 #[own_jv q0, .second, own_jv q1, .second, own_jv q2, .second, iv p3, iv p4, iv p5, iv (0 : Int32), iv (2 : Int32), iv (1 : Int32), rv b354, rv b363, rv b367, rv b354, iv (1 : Int32)] [(.int (1 : Int32))]))
        exact own_retN X412 hx hlk (1 : Int32) hret (Or.inl rfl) rfl (hb hby at_264) (by decide) (by decide) ⟨rfl, N412⟩
    · show own_Goes p e below s _ _ (T370.setTop (mkF m 141 #[own_jv q0, .second, own_jv q1, .second, own_jv q2, .second, iv p3, iv p4, iv p5, iv (1 : Int32), iv to, iv (1 : Int32), rv b354, rv b363, rv b367, rv b354, .unset] []))
      rcases own_3 hto with rfl | rfl | rfl
      · show own_Goes p e below s _ _ (T370.setTop (mkF m 141 #[own_jv q0, .second, own_jv q1, .second, own_jv q2, .second, iv p3, iv p4, iv p5, iv (1 : Int32), iv (0 : Int32), iv (1 : Int32), rv b354, rv b363, rv b367, rv b354, .unset] []))
        refine own_st (fun _ k => XS.aload X370.here hx rfl (hb hby at_141) rfl rfl  k) ?_
        show own_Goes p e below s _ _ (T370.setTop (mkF m 143 #[own_jv q0, .second, own_jv q1, .second, own_jv q2, .second, iv p3, iv p4, iv p5, iv (1 : Int32), iv (0 : Int32), iv (1 : Int32), rv b354, rv b363, rv b367, rv b354, .unset] [(.ref b367)]))
        refine own_st (fun _ k => XS.iload X370.here hx rfl (hb hby at_143) rfl  k) ?_
        show own_Goes p e below s _ _ (T370.setTop (mkF m 145 #[own_jv q0, .second, own_jv q1, .second, own_jv q2, .second, iv p3, iv p4, iv p5, iv (1 : Int32), iv (0 : Int32), iv (1 : Int32), rv b354, rv b363, rv b367, rv b354, .unset] [(.int (0 : Int32)), (.ref b367)]))
        refine own_st (fun _ k => XS.aload X370.here hx rfl (hb hby at_145) rfl rfl  k) ?_
        show own_Goes p e below s _ _ (T370.setTop (mkF m 147 #[own_jv q0, .second, own_jv q1, .second, own_jv q2, .second, iv p3, iv p4, iv p5, iv (1 : Int32), iv (0 : Int32), iv (1 : Int32), rv b354, rv b363, rv b367, rv b354, .unset] [(.ref b363), (.int (0 : Int32)), (.ref b367)]))
        refine own_st (fun _ k => XS.iload X370.here hx rfl (hb hby at_147) rfl  k) ?_
        show own_Goes p e below s _ _ (T370.setTop (mkF m 149 #[own_jv q0, .second, own_jv q1, .second, own_jv q2, .second, iv p3, iv p4, iv p5, iv (1 : Int32), iv (0 : Int32), iv (1 : Int32), rv b354, rv b363, rv b367, rv b354, .unset] [(.int (1 : Int32)), (.ref b363), (.int (0 : Int32)), (.ref b367)]))
        have f413 := ((((V366.ext E367).other W368 (own_ne (by omega))).other W369 (own_ne (by omega))).other W370 (own_ne (by omega)))
        refine own_st (fun _ k => own_ldJ X370 hx hZ e370 f413 (j := (1 : Int32)) (by decide) (g := (mkF m 149 #[own_jv q0, .second, own_jv q1, .second, own_jv q2, .second, iv p3, iv p4, iv p5, iv (1 : Int32), iv (0 : Int32), iv (1 : Int32), rv b354, rv b363, rv b367, rv b354, .unset] [(.int (1 : Int32)), (.ref b363), (.int (0 : Int32)), (.ref b367)])) rfl rfl (hb hby at_149) _ k) ?_
        show own_Goes p e below s _ _ (T370.setTop (mkF m 150 #[own_jv q0, .second, own_jv q1, .second, own_jv q2, .second, iv p3, iv p4, iv p5, iv (1 : Int32), iv (0 : Int32), iv (1 : Int32), rv b354, rv b363, rv b367, rv b354, .unset] [(.long q1), (.int (0 : Int32)), (.ref b367)]))
        obtain ⟨T414, h414, X414, e414, W414, A414, st414⟩ := own_stJ X370 hx hZ e370 V370 (j := (0 : Int32)) (by decide) (g := (mkF m 150 #[own_jv q0, .second, own_jv q1, .second, own_jv q2, .second, iv p3, iv p4, iv p5, iv (1 : Int32), iv (0 : Int32), iv (1 : Int32), rv b354, rv b363, rv b367, rv b354, .unset] [(.long q1), (.int (0 : Int32)), (.ref b367)])) rfl rfl (hb hby at_150)
        have V414 : own_Arf Z h414 b367 .long 3 (fun k => .long ((fun k => if k = 0 then q1 else (fun k => if k = 2 then q2 else (fun k => if k = 1 then q1 else (fun k => if k = 0 then q0 else (fun _ => (0 : Int64)) k) k) k) k) k)) := A414
        have z414 := W414.size
        have N414 := Fr.snoc X414 N370 (by omega)
        refine own_st st414 ?_
        show own_Goes p e below s _ _ (T414.setTop (mkF m 151 #[own_jv q0, .second, own_jv q1, .second, own_jv q2, .second, iv p3, iv p4, iv p5, iv (1 : Int32), iv (0 : Int32), iv (1 : Int32), rv b354, rv b363, rv b367, rv b354, .unset] []))
        refine own_st (fun _ k => XS.aload X414.here hx rfl (hb hby at_151) rfl rfl  k) ?_
        show own_Goes p e below s _ _ (T414.setTop (mkF m 153 #[own_jv q0, .second, own_jv q1, .second, own_jv q2, .second, iv p3, iv p4, iv p5, iv (1 : Int32), iv (0 : Int32), iv (1 : Int32), rv b354, rv b363, rv b367, rv b354, .unset] [(.ref b354)]))
        refine own_st (fun _ k => XS.iload X414.here hx rfl (hb hby at_153) rfl  k) ?_
        show own_Goes p e below s _ _ (T414.setTop (mkF m 155 #[own_jv q0, .second, own_jv q1, .second, own_jv q2, .second, iv p3, iv p4, iv p5, iv (1 : Int32), iv (0 : Int32), iv (1 : Int32), rv b354, rv b363, rv b367, rv b354, .unset] [(.int (1 : Int32)), (.ref b354)]))
        refine own_st (fun _ k => XS.aload X414.here hx rfl (hb hby at_155) rfl rfl  k) ?_
        show own_Goes p e below s _ _ (T414.setTop (mkF m 157 #[own_jv q0, .second, own_jv q1, .second, own_jv q2, .second, iv p3, iv p4, iv p5, iv (1 : Int32), iv (0 : Int32), iv (1 : Int32), rv b354, rv b363, rv b367, rv b354, .unset] [(.ref b354), (.int (1 : Int32)), (.ref b354)]))
        refine own_st (fun _ k => XS.iload X414.here hx rfl (hb hby at_157) rfl  k) ?_
        show own_Goes p e below s _ _ (T414.setTop (mkF m 159 #[own_jv q0, .second, own_jv q1, .second, own_jv q2, .second, iv p3, iv p4, iv p5, iv (1 : Int32), iv (0 : Int32), iv (1 : Int32), rv b354, rv b363, rv b367, rv b354, .unset] [(.int (0 : Int32)), (.ref b354), (.int (1 : Int32)), (.ref b354)]))
        have f416 := (((((((((Fc361.ext E363).other W364 (Or.inl (own_ne (by omega)))).other W365 (Or.inl (own_ne (by omega)))).other W366 (Or.inl (own_ne (by omega)))).ext E367).other W368 (Or.inl (own_ne (by omega)))).other W369 (Or.inl (own_ne (by omega)))).other W370 (Or.inl (own_ne (by omega)))).other W414 (Or.inl (own_ne (by omega))))
        have f417 := (((((((((Vd361.ext E363).other W364 (own_ne (by omega))).other W365 (own_ne (by omega))).other W366 (own_ne (by omega))).ext E367).other W368 (own_ne (by omega))).other W369 (own_ne (by omega))).other W370 (own_ne (by omega))).other W414 (own_ne (by omega)))
        have f418 := (((((((((A361.ext E363).wr W364).wr W365).wr W366).ext E367).wr W368).wr W369).wr W370).wr W414)
        obtain ⟨v415, T415, L415, X415, Q415, st415⟩ := own_callV X414 hx hZ (C := "com/example/reach2/reach2/model/CodedColumn") (y := (⟨"com/example/reach2/reach2/model/CodedColumn", "copyTo", "(ILcom/example/reach2/reach2/model/CodedColumn;I)V"⟩ : MethodName)) hown (hw _ (List.mem_of_getElem? (i := 38) rfl)) (hw _ (List.mem_of_getElem? (i := 39) rfl)) (hw _ (List.mem_of_getElem? (i := 41) rfl)) (hw _ (List.mem_of_getElem? (i := 40) rfl)) (hw _ (List.mem_of_getElem? (i := 3) rfl)) (hw _ (List.mem_of_getElem? (i := 42) rfl)) (by decide) (W := 0) (rest := []) (argsL := [(.int (1 : Int32)), (.ref b354), (.int (0 : Int32))]) (a := b354) (rmCT l Z a0 hw [] b354 (1 : Int32) b354 (0 : Int32) ac355 ac355 _ _ h414 n0 (by omega) f416 f416 f417 f417 (by decide) (by decide) (by omega)) (by decide) (by decide) (by decide) (by decide) e414 f418 own_pd5 rfl (g := (mkF m 159 #[own_jv q0, .second, own_jv q1, .second, own_jv q2, .second, iv p3, iv p4, iv p5, iv (1 : Int32), iv (0 : Int32), iv (1 : Int32), rv b354, rv b363, rv b367, rv b354, .unset] [(.int (0 : Int32)), (.ref b354), (.int (1 : Int32)), (.ref b354)])) rfl (by rw [hml]; rfl) rfl (by show 2 * 0 + _ ≤ _; exact Nat.le_of_eq rfl) (hb hby at_159)
        obtain ⟨rfl, N415q, K415, V415⟩ := Q415
        have z415 := K415.1
        have Vt415 : own_Arf Z T415.heap ac355 .byte 3 (fun k => .int ((fun k => if k = 0 then (nar .byte (nar .byte (r359.toInt8.toInt32))) else (fun k => if k = 2 then (nar .byte (r361.toInt8.toInt32)) else (fun k => if k = 1 then (nar .byte (r359.toInt8.toInt32)) else (fun k => if k = 0 then (nar .byte (r356.toInt8.toInt32)) else (fun _ => (0 : Int32)) k) k) k) k) k)) := V415
        have N415 := Fr.app N414 N415q
        refine own_st st415 ?_
        show own_Goes p e below s _ _ (T415.setTop (mkF m 162 #[own_jv q0, .second, own_jv q1, .second, own_jv q2, .second, iv p3, iv p4, iv p5, iv (1 : Int32), iv (0 : Int32), iv (1 : Int32), rv b354, rv b363, rv b367, rv b354, .unset] []))
        refine own_st (fun _ k => XS.aload X415.here hx rfl (hb hby at_162) rfl rfl  k) ?_
        show own_Goes p e below s _ _ (T415.setTop (mkF m 164 #[own_jv q0, .second, own_jv q1, .second, own_jv q2, .second, iv p3, iv p4, iv p5, iv (1 : Int32), iv (0 : Int32), iv (1 : Int32), rv b354, rv b363, rv b367, rv b354, .unset] [(.ref b354)]))
        refine own_st (fun _ k => XS.iconst X415.here hx rfl (hb hby at_164) k) ?_
        show own_Goes p e below s _ _ (T415.setTop (mkF m 165 #[own_jv q0, .second, own_jv q1, .second, own_jv q2, .second, iv p3, iv p4, iv p5, iv (1 : Int32), iv (0 : Int32), iv (1 : Int32), rv b354, rv b363, rv b367, rv b354, .unset] [(.int (0 : Int32)), (.ref b354)]))
        have f420 := (f416.keep K415 (ninS (own_ne (by omega)) nin0))
        have f421 := ((((((((((Fv361.ext E363).other W364 (Or.inl (own_ne (by omega)))).other W365 (Or.inl (own_ne (by omega)))).other W366 (Or.inl (own_ne (by omega)))).ext E367).other W368 (Or.inl (own_ne (by omega)))).other W369 (Or.inl (own_ne (by omega)))).other W370 (Or.inl (own_ne (by omega)))).other W414 (Or.inl (own_ne (by omega)))).keep K415 (ninS (own_ne (by omega)) nin0))
        have f422 := ((((((((((Vv361.ext E363).other W364 (own_ne (by omega))).other W365 (own_ne (by omega))).other W366 (own_ne (by omega))).ext E367).other W368 (own_ne (by omega))).other W369 (own_ne (by omega))).other W370 (own_ne (by omega))).other W414 (own_ne (by omega))).keep K415 (ninS (own_ne (by omega)) nin0))
        have f423 := (f418.keep K415)
        obtain ⟨v419, T419, L419, X419, Q419, st419⟩ := own_callV X415 hx hZ (C := "com/example/reach2/reach2/model/CodedColumn") (y := (⟨"com/example/reach2/reach2/model/CodedColumn", "get", "(I)J"⟩ : MethodName)) hown (hw _ (List.mem_of_getElem? (i := 43) rfl)) (hw _ (List.mem_of_getElem? (i := 44) rfl)) (hw _ (List.mem_of_getElem? (i := 46) rfl)) (hw _ (List.mem_of_getElem? (i := 45) rfl)) (hw _ (List.mem_of_getElem? (i := 3) rfl)) (hw _ (List.mem_of_getElem? (i := 47) rfl)) (by decide) (W := 0) (rest := []) (argsL := [(.int (0 : Int32))]) (a := b354) (rmGet l Z a0 hw [] b354 (0 : Int32) _ _ _ _ T415.heap n0 (by omega) f420 f421 Vt415 f422 (by decide)) (by decide) (by decide) (by decide) (by decide) rfl f423 own_pd6 rfl (g := (mkF m 165 #[own_jv q0, .second, own_jv q1, .second, own_jv q2, .second, iv p3, iv p4, iv p5, iv (1 : Int32), iv (0 : Int32), iv (1 : Int32), rv b354, rv b363, rv b367, rv b354, .unset] [(.int (0 : Int32)), (.ref b354)])) rfl (by rw [hml]; rfl) rfl (by show 2 * 0 + _ ≤ _; exact Nat.le_of_eq rfl) (hb hby at_165)
        obtain ⟨g419, rfl, hg419, N419q, e419⟩ := Q419
        obtain rfl : q1 = g419 := (hg419.trans (own_at2 (by omega) ((rf361 _ (by omega)).trans re359))).symm
        have N419 := Fr.app N415 N419q
        refine own_st st419 ?_
        show own_Goes p e below s _ _ (T419.setTop (mkF m 168 #[own_jv q0, .second, own_jv q1, .second, own_jv q2, .second, iv p3, iv p4, iv p5, iv (1 : Int32), iv (0 : Int32), iv (1 : Int32), rv b354, rv b363, rv b367, rv b354, .unset] [(.long q1)]))
        refine own_st (fun _ k => XS.aload X419.here hx rfl (hb hby at_168) rfl rfl  k) ?_
        show own_Goes p e below s _ _ (T419.setTop (mkF m 170 #[own_jv q0, .second, own_jv q1, .second, own_jv q2, .second, iv p3, iv p4, iv p5, iv (1 : Int32), iv (0 : Int32), iv (1 : Int32), rv b354, rv b363, rv b367, rv b354, .unset] [(.ref b367), (.long q1)]))
        refine own_st (fun _ k => XS.iconst X419.here hx rfl (hb hby at_170) k) ?_
        show own_Goes p e below s _ _ (T419.setTop (mkF m 171 #[own_jv q0, .second, own_jv q1, .second, own_jv q2, .second, iv p3, iv p4, iv p5, iv (1 : Int32), iv (0 : Int32), iv (1 : Int32), rv b354, rv b363, rv b367, rv b354, .unset] [(.int (0 : Int32)), (.ref b367), (.long q1)]))
        have f424 := (V414.keep K415 (ninS (own_ne (by omega)) nin0))
        refine own_st (fun _ k => own_ldJ X419 hx hZ e419 f424 (j := (0 : Int32)) (by decide) (g := (mkF m 171 #[own_jv q0, .second, own_jv q1, .second, own_jv q2, .second, iv p3, iv p4, iv p5, iv (1 : Int32), iv (0 : Int32), iv (1 : Int32), rv b354, rv b363, rv b367, rv b354, .unset] [(.int (0 : Int32)), (.ref b367), (.long q1)])) rfl rfl (hb hby at_171) _ k) ?_
        show own_Goes p e below s _ _ (T419.setTop (mkF m 172 #[own_jv q0, .second, own_jv q1, .second, own_jv q2, .second, iv p3, iv p4, iv p5, iv (1 : Int32), iv (0 : Int32), iv (1 : Int32), rv b354, rv b363, rv b367, rv b354, .unset] [(.long q1), (.long q1)]))
        refine own_st (fun _ k => XS.lcmp X419.here hx rfl (hb hby at_172) rfl k) ?_
        show own_Goes p e below s _ _ (T419.setTop (mkF m 173 #[own_jv q0, .second, own_jv q1, .second, own_jv q2, .second, iv p3, iv p4, iv p5, iv (1 : Int32), iv (0 : Int32), iv (1 : Int32), rv b354, rv b363, rv b367, rv b354, .unset] [(.int (lcmpW q1 q1))]))
        refine own_st (fun _ k => XS.ifNo X419.here hx rfl (hb hby at_173) rfl ((if0 _ _).trans (teq ((lw_eq _ _).mpr (rfl : q1 = q1))).2) k) ?_
        show own_Goes p e below s _ _ (T419.setTop (mkF m 176 #[own_jv q0, .second, own_jv q1, .second, own_jv q2, .second, iv p3, iv p4, iv p5, iv (1 : Int32), iv (0 : Int32), iv (1 : Int32), rv b354, rv b363, rv b367, rv b354, .unset] []))
        refine own_st (fun _ k => XS.aload X419.here hx rfl (hb hby at_176) rfl rfl  k) ?_
        show own_Goes p e below s _ _ (T419.setTop (mkF m 178 #[own_jv q0, .second, own_jv q1, .second, own_jv q2, .second, iv p3, iv p4, iv p5, iv (1 : Int32), iv (0 : Int32), iv (1 : Int32), rv b354, rv b363, rv b367, rv b354, .unset] [(.ref b354)]))
        refine own_st (fun _ k => XS.iconst X419.here hx rfl (hb hby at_178) k) ?_
        show own_Goes p e below s _ _ (T419.setTop (mkF m 179 #[own_jv q0, .second, own_jv q1, .second, own_jv q2, .second, iv p3, iv p4, iv p5, iv (1 : Int32), iv (0 : Int32), iv (1 : Int32), rv b354, rv b363, rv b367, rv b354, .unset] [(.int (1 : Int32)), (.ref b354)]))
        obtain ⟨v425, T425, L425, X425, Q425, st425⟩ := own_callV X419 hx hZ (C := "com/example/reach2/reach2/model/CodedColumn") (y := (⟨"com/example/reach2/reach2/model/CodedColumn", "get", "(I)J"⟩ : MethodName)) hown (hw _ (List.mem_of_getElem? (i := 43) rfl)) (hw _ (List.mem_of_getElem? (i := 44) rfl)) (hw _ (List.mem_of_getElem? (i := 46) rfl)) (hw _ (List.mem_of_getElem? (i := 45) rfl)) (hw _ (List.mem_of_getElem? (i := 3) rfl)) (hw _ (List.mem_of_getElem? (i := 47) rfl)) (by decide) (W := 0) (rest := []) (argsL := [(.int (1 : Int32))]) (a := b354) (rmGet l Z a0 hw [] b354 (1 : Int32) _ _ _ _ T415.heap n0 (by omega) f420 f421 Vt415 f422 (by decide)) (by decide) (by decide) (by decide) (by decide) e419 f423 own_pd6 rfl (g := (mkF m 179 #[own_jv q0, .second, own_jv q1, .second, own_jv q2, .second, iv p3, iv p4, iv p5, iv (1 : Int32), iv (0 : Int32), iv (1 : Int32), rv b354, rv b363, rv b367, rv b354, .unset] [(.int (1 : Int32)), (.ref b354)])) rfl (by rw [hml]; rfl) rfl (by show 2 * 0 + _ ≤ _; exact Nat.le_of_eq rfl) (hb hby at_179)
        obtain ⟨g425, rfl, hg425, N425q, e425⟩ := Q425
        obtain rfl : q1 = g425 := (hg425.trans (own_at (by omega) ((rf361 _ (by omega)).trans re359))).symm
        have N425 := Fr.app N419 N425q
        refine own_st st425 ?_
        show own_Goes p e below s _ _ (T425.setTop (mkF m 182 #[own_jv q0, .second, own_jv q1, .second, own_jv q2, .second, iv p3, iv p4, iv p5, iv (1 : Int32), iv (0 : Int32), iv (1 : Int32), rv b354, rv b363, rv b367, rv b354, .unset] [(.long q1)]))
        refine own_st (fun _ k => XS.aload X425.here hx rfl (hb hby at_182) rfl rfl  k) ?_
        show own_Goes p e below s _ _ (T425.setTop (mkF m 184 #[own_jv q0, .second, own_jv q1, .second, own_jv q2, .second, iv p3, iv p4, iv p5, iv (1 : Int32), iv (0 : Int32), iv (1 : Int32), rv b354, rv b363, rv b367, rv b354, .unset] [(.ref b367), (.long q1)]))
        refine own_st (fun _ k => XS.iconst X425.here hx rfl (hb hby at_184) k) ?_
        show own_Goes p e below s _ _ (T425.setTop (mkF m 185 #[own_jv q0, .second, own_jv q1, .second, own_jv q2, .second, iv p3, iv p4, iv p5, iv (1 : Int32), iv (0 : Int32), iv (1 : Int32), rv b354, rv b363, rv b367, rv b354, .unset] [(.int (1 : Int32)), (.ref b367), (.long q1)]))
        refine own_st (fun _ k => own_ldJ X425 hx hZ e425 f424 (j := (1 : Int32)) (by decide) (g := (mkF m 185 #[own_jv q0, .second, own_jv q1, .second, own_jv q2, .second, iv p3, iv p4, iv p5, iv (1 : Int32), iv (0 : Int32), iv (1 : Int32), rv b354, rv b363, rv b367, rv b354, .unset] [(.int (1 : Int32)), (.ref b367), (.long q1)])) rfl rfl (hb hby at_185) _ k) ?_
        show own_Goes p e below s _ _ (T425.setTop (mkF m 186 #[own_jv q0, .second, own_jv q1, .second, own_jv q2, .second, iv p3, iv p4, iv p5, iv (1 : Int32), iv (0 : Int32), iv (1 : Int32), rv b354, rv b363, rv b367, rv b354, .unset] [(.long q1), (.long q1)]))
        refine own_st (fun _ k => XS.lcmp X425.here hx rfl (hb hby at_186) rfl k) ?_
        show own_Goes p e below s _ _ (T425.setTop (mkF m 187 #[own_jv q0, .second, own_jv q1, .second, own_jv q2, .second, iv p3, iv p4, iv p5, iv (1 : Int32), iv (0 : Int32), iv (1 : Int32), rv b354, rv b363, rv b367, rv b354, .unset] [(.int (lcmpW q1 q1))]))
        refine own_st (fun _ k => XS.ifNo X425.here hx rfl (hb hby at_187) rfl ((if0 _ _).trans (teq ((lw_eq _ _).mpr (rfl : q1 = q1))).2) k) ?_
        show own_Goes p e below s _ _ (T425.setTop (mkF m 190 #[own_jv q0, .second, own_jv q1, .second, own_jv q2, .second, iv p3, iv p4, iv p5, iv (1 : Int32), iv (0 : Int32), iv (1 : Int32), rv b354, rv b363, rv b367, rv b354, .unset] []))
        refine own_st (fun _ k => XS.aload X425.here hx rfl (hb hby at_190) rfl rfl  k) ?_
        show own_Goes p e below s _ _ (T425.setTop (mkF m 192 #[own_jv q0, .second, own_jv q1, .second, own_jv q2, .second, iv p3, iv p4, iv p5, iv (1 : Int32), iv (0 : Int32), iv (1 : Int32), rv b354, rv b363, rv b367, rv b354, .unset] [(.ref b354)]))
        refine own_st (fun _ k => XS.iconst X425.here hx rfl (hb hby at_192) k) ?_
        show own_Goes p e below s _ _ (T425.setTop (mkF m 193 #[own_jv q0, .second, own_jv q1, .second, own_jv q2, .second, iv p3, iv p4, iv p5, iv (1 : Int32), iv (0 : Int32), iv (1 : Int32), rv b354, rv b363, rv b367, rv b354, .unset] [(.int (2 : Int32)), (.ref b354)]))
        obtain ⟨v426, T426, L426, X426, Q426, st426⟩ := own_callV X425 hx hZ (C := "com/example/reach2/reach2/model/CodedColumn") (y := (⟨"com/example/reach2/reach2/model/CodedColumn", "get", "(I)J"⟩ : MethodName)) hown (hw _ (List.mem_of_getElem? (i := 43) rfl)) (hw _ (List.mem_of_getElem? (i := 44) rfl)) (hw _ (List.mem_of_getElem? (i := 46) rfl)) (hw _ (List.mem_of_getElem? (i := 45) rfl)) (hw _ (List.mem_of_getElem? (i := 3) rfl)) (hw _ (List.mem_of_getElem? (i := 47) rfl)) (by decide) (W := 0) (rest := []) (argsL := [(.int (2 : Int32))]) (a := b354) (rmGet l Z a0 hw [] b354 (2 : Int32) _ _ _ _ T415.heap n0 (by omega) f420 f421 Vt415 f422 (by decide)) (by decide) (by decide) (by decide) (by decide) e425 f423 own_pd6 rfl (g := (mkF m 193 #[own_jv q0, .second, own_jv q1, .second, own_jv q2, .second, iv p3, iv p4, iv p5, iv (1 : Int32), iv (0 : Int32), iv (1 : Int32), rv b354, rv b363, rv b367, rv b354, .unset] [(.int (2 : Int32)), (.ref b354)])) rfl (by rw [hml]; rfl) rfl (by show 2 * 0 + _ ≤ _; exact Nat.le_of_eq rfl) (hb hby at_193)
        obtain ⟨g426, rfl, hg426, N426q, e426⟩ := Q426
        obtain rfl : q2 = g426 := (hg426.trans (own_at (by omega) re361)).symm
        have N426 := Fr.app N425 N426q
        refine own_st st426 ?_
        show own_Goes p e below s _ _ (T426.setTop (mkF m 196 #[own_jv q0, .second, own_jv q1, .second, own_jv q2, .second, iv p3, iv p4, iv p5, iv (1 : Int32), iv (0 : Int32), iv (1 : Int32), rv b354, rv b363, rv b367, rv b354, .unset] [(.long q2)]))
        refine own_st (fun _ k => XS.aload X426.here hx rfl (hb hby at_196) rfl rfl  k) ?_
        show own_Goes p e below s _ _ (T426.setTop (mkF m 198 #[own_jv q0, .second, own_jv q1, .second, own_jv q2, .second, iv p3, iv p4, iv p5, iv (1 : Int32), iv (0 : Int32), iv (1 : Int32), rv b354, rv b363, rv b367, rv b354, .unset] [(.ref b367), (.long q2)]))
        refine own_st (fun _ k => XS.iconst X426.here hx rfl (hb hby at_198) k) ?_
        show own_Goes p e below s _ _ (T426.setTop (mkF m 199 #[own_jv q0, .second, own_jv q1, .second, own_jv q2, .second, iv p3, iv p4, iv p5, iv (1 : Int32), iv (0 : Int32), iv (1 : Int32), rv b354, rv b363, rv b367, rv b354, .unset] [(.int (2 : Int32)), (.ref b367), (.long q2)]))
        refine own_st (fun _ k => own_ldJ X426 hx hZ e426 f424 (j := (2 : Int32)) (by decide) (g := (mkF m 199 #[own_jv q0, .second, own_jv q1, .second, own_jv q2, .second, iv p3, iv p4, iv p5, iv (1 : Int32), iv (0 : Int32), iv (1 : Int32), rv b354, rv b363, rv b367, rv b354, .unset] [(.int (2 : Int32)), (.ref b367), (.long q2)])) rfl rfl (hb hby at_199) _ k) ?_
        show own_Goes p e below s _ _ (T426.setTop (mkF m 200 #[own_jv q0, .second, own_jv q1, .second, own_jv q2, .second, iv p3, iv p4, iv p5, iv (1 : Int32), iv (0 : Int32), iv (1 : Int32), rv b354, rv b363, rv b367, rv b354, .unset] [(.long q2), (.long q2)]))
        refine own_st (fun _ k => XS.lcmp X426.here hx rfl (hb hby at_200) rfl k) ?_
        show own_Goes p e below s _ _ (T426.setTop (mkF m 201 #[own_jv q0, .second, own_jv q1, .second, own_jv q2, .second, iv p3, iv p4, iv p5, iv (1 : Int32), iv (0 : Int32), iv (1 : Int32), rv b354, rv b363, rv b367, rv b354, .unset] [(.int (lcmpW q2 q2))]))
        refine own_st (fun _ k => XS.ifNo X426.here hx rfl (hb hby at_201) rfl ((if0 _ _).trans (teq ((lw_eq _ _).mpr (rfl : q2 = q2))).2) k) ?_
        show own_Goes p e below s _ _ (T426.setTop (mkF m 204 #[own_jv q0, .second, own_jv q1, .second, own_jv q2, .second, iv p3, iv p4, iv p5, iv (1 : Int32), iv (0 : Int32), iv (1 : Int32), rv b354, rv b363, rv b367, rv b354, .unset] []))
        refine own_st (fun _ k => XS.iconst X426.here hx rfl (hb hby at_204) k) ?_
        show own_Goes p e below s _ _ (T426.setTop (mkF m 205 #[own_jv q0, .second, own_jv q1, .second, own_jv q2, .second, iv p3, iv p4, iv p5, iv (1 : Int32), iv (0 : Int32), iv (1 : Int32), rv b354, rv b363, rv b367, rv b354, .unset] [(.int (1 : Int32))]))
        refine own_st (fun _ k => XS.goto X426.here hx rfl (pc0 := 205) (pc' := 209) rfl (hb hby at_205) (by decide) (by decide) k) ?_
        show own_Goes p e below s _ _ (T426.setTop (mkF m 209 #[own_jv q0, .second, own_jv q1, .second, own_jv q2, .second, iv p3, iv p4, iv p5, iv (1 : Int32), iv (0 : Int32), iv (1 : Int32), rv b354, rv b363, rv b367, rv b354, .unset] [(.int (1 : Int32))]))
        refine own_st (fun _ k => XS.istore X426.here hx rfl (hb hby at_209) rfl (l' := #[own_jv q0, .second, own_jv q1, .second, own_jv q2, .second, iv p3, iv p4, iv p5, iv (1 : Int32), iv (0 : Int32), iv (1 : Int32), rv b354, rv b363, rv b367, rv b354, iv (1 : Int32)]) rfl k) ?_
        show own_Goes p e below s _ _ (T426.setTop (mkF m 211 #[own_jv q0, .second, own_jv q1, .second, own_jv q2, .second, iv p3, iv p4, iv p5, iv (1 : Int32), iv (0 : Int32), iv (1 : Int32), rv b354, rv b363, rv b367, rv b354, iv (1 : Int32)] []))
        refine own_st (fun _ k => XS.iload X426.here hx rfl (hb hby at_211) rfl  k) ?_
        show own_Goes p e below s _ _ (T426.setTop (mkF m 213 #[own_jv q0, .second, own_jv q1, .second, own_jv q2, .second, iv p3, iv p4, iv p5, iv (1 : Int32), iv (0 : Int32), iv (1 : Int32), rv b354, rv b363, rv b367, rv b354, iv (1 : Int32)] [(.int (1 : Int32))]))
        refine own_st (fun _ k => XS.ifYes X426.here hx rfl (pc0 := 213) (pc' := 262) rfl (hb hby at_213) rfl ((if0 _ _).trans (feq (by decide : ¬ ((1 : Int32) = (0 : Int32)))).2) (by decide) (by decide) k) ?_
        show own_Goes p e below s _ _ (T426.setTop (mkF m 262 #[own_jv q0, .second, own_jv q1, .second, own_jv q2, .second, iv p3, iv p4, iv p5, iv (1 : Int32), iv (0 : Int32), iv (1 : Int32), rv b354, rv b363, rv b367, rv b354, iv (1 : Int32)] []))
        refine own_st (fun _ k => XS.iload X426.here hx rfl (hb hby at_262) rfl  k) ?_
        show own_Goes p e below s _ _ (T426.setTop (mkF m 264 #[own_jv q0, .second, own_jv q1, .second, own_jv q2, .second, iv p3, iv p4, iv p5, iv (1 : Int32), iv (0 : Int32), iv (1 : Int32), rv b354, rv b363, rv b367, rv b354, iv (1 : Int32)] [(.int (1 : Int32))]))
        exact own_retN X426 hx hlk (1 : Int32) hret (Or.inl rfl) rfl (hb hby at_264) (by decide) (by decide) ⟨rfl, N426⟩
      · show own_Goes p e below s _ _ (T370.setTop (mkF m 141 #[own_jv q0, .second, own_jv q1, .second, own_jv q2, .second, iv p3, iv p4, iv p5, iv (1 : Int32), iv (1 : Int32), iv (1 : Int32), rv b354, rv b363, rv b367, rv b354, .unset] []))
        refine own_st (fun _ k => XS.aload X370.here hx rfl (hb hby at_141) rfl rfl  k) ?_
        show own_Goes p e below s _ _ (T370.setTop (mkF m 143 #[own_jv q0, .second, own_jv q1, .second, own_jv q2, .second, iv p3, iv p4, iv p5, iv (1 : Int32), iv (1 : Int32), iv (1 : Int32), rv b354, rv b363, rv b367, rv b354, .unset] [(.ref b367)]))
        refine own_st (fun _ k => XS.iload X370.here hx rfl (hb hby at_143) rfl  k) ?_
        show own_Goes p e below s _ _ (T370.setTop (mkF m 145 #[own_jv q0, .second, own_jv q1, .second, own_jv q2, .second, iv p3, iv p4, iv p5, iv (1 : Int32), iv (1 : Int32), iv (1 : Int32), rv b354, rv b363, rv b367, rv b354, .unset] [(.int (1 : Int32)), (.ref b367)]))
        refine own_st (fun _ k => XS.aload X370.here hx rfl (hb hby at_145) rfl rfl  k) ?_
        show own_Goes p e below s _ _ (T370.setTop (mkF m 147 #[own_jv q0, .second, own_jv q1, .second, own_jv q2, .second, iv p3, iv p4, iv p5, iv (1 : Int32), iv (1 : Int32), iv (1 : Int32), rv b354, rv b363, rv b367, rv b354, .unset] [(.ref b363), (.int (1 : Int32)), (.ref b367)]))
        refine own_st (fun _ k => XS.iload X370.here hx rfl (hb hby at_147) rfl  k) ?_
        show own_Goes p e below s _ _ (T370.setTop (mkF m 149 #[own_jv q0, .second, own_jv q1, .second, own_jv q2, .second, iv p3, iv p4, iv p5, iv (1 : Int32), iv (1 : Int32), iv (1 : Int32), rv b354, rv b363, rv b367, rv b354, .unset] [(.int (1 : Int32)), (.ref b363), (.int (1 : Int32)), (.ref b367)]))
        have f427 := ((((V366.ext E367).other W368 (own_ne (by omega))).other W369 (own_ne (by omega))).other W370 (own_ne (by omega)))
        refine own_st (fun _ k => own_ldJ X370 hx hZ e370 f427 (j := (1 : Int32)) (by decide) (g := (mkF m 149 #[own_jv q0, .second, own_jv q1, .second, own_jv q2, .second, iv p3, iv p4, iv p5, iv (1 : Int32), iv (1 : Int32), iv (1 : Int32), rv b354, rv b363, rv b367, rv b354, .unset] [(.int (1 : Int32)), (.ref b363), (.int (1 : Int32)), (.ref b367)])) rfl rfl (hb hby at_149) _ k) ?_
        show own_Goes p e below s _ _ (T370.setTop (mkF m 150 #[own_jv q0, .second, own_jv q1, .second, own_jv q2, .second, iv p3, iv p4, iv p5, iv (1 : Int32), iv (1 : Int32), iv (1 : Int32), rv b354, rv b363, rv b367, rv b354, .unset] [(.long q1), (.int (1 : Int32)), (.ref b367)]))
        obtain ⟨T428, h428, X428, e428, W428, A428, st428⟩ := own_stJ X370 hx hZ e370 V370 (j := (1 : Int32)) (by decide) (g := (mkF m 150 #[own_jv q0, .second, own_jv q1, .second, own_jv q2, .second, iv p3, iv p4, iv p5, iv (1 : Int32), iv (1 : Int32), iv (1 : Int32), rv b354, rv b363, rv b367, rv b354, .unset] [(.long q1), (.int (1 : Int32)), (.ref b367)])) rfl rfl (hb hby at_150)
        have V428 : own_Arf Z h428 b367 .long 3 (fun k => .long ((fun k => if k = 1 then q1 else (fun k => if k = 2 then q2 else (fun k => if k = 1 then q1 else (fun k => if k = 0 then q0 else (fun _ => (0 : Int64)) k) k) k) k) k)) := A428
        have z428 := W428.size
        have N428 := Fr.snoc X428 N370 (by omega)
        refine own_st st428 ?_
        show own_Goes p e below s _ _ (T428.setTop (mkF m 151 #[own_jv q0, .second, own_jv q1, .second, own_jv q2, .second, iv p3, iv p4, iv p5, iv (1 : Int32), iv (1 : Int32), iv (1 : Int32), rv b354, rv b363, rv b367, rv b354, .unset] []))
        refine own_st (fun _ k => XS.aload X428.here hx rfl (hb hby at_151) rfl rfl  k) ?_
        show own_Goes p e below s _ _ (T428.setTop (mkF m 153 #[own_jv q0, .second, own_jv q1, .second, own_jv q2, .second, iv p3, iv p4, iv p5, iv (1 : Int32), iv (1 : Int32), iv (1 : Int32), rv b354, rv b363, rv b367, rv b354, .unset] [(.ref b354)]))
        refine own_st (fun _ k => XS.iload X428.here hx rfl (hb hby at_153) rfl  k) ?_
        show own_Goes p e below s _ _ (T428.setTop (mkF m 155 #[own_jv q0, .second, own_jv q1, .second, own_jv q2, .second, iv p3, iv p4, iv p5, iv (1 : Int32), iv (1 : Int32), iv (1 : Int32), rv b354, rv b363, rv b367, rv b354, .unset] [(.int (1 : Int32)), (.ref b354)]))
        refine own_st (fun _ k => XS.aload X428.here hx rfl (hb hby at_155) rfl rfl  k) ?_
        show own_Goes p e below s _ _ (T428.setTop (mkF m 157 #[own_jv q0, .second, own_jv q1, .second, own_jv q2, .second, iv p3, iv p4, iv p5, iv (1 : Int32), iv (1 : Int32), iv (1 : Int32), rv b354, rv b363, rv b367, rv b354, .unset] [(.ref b354), (.int (1 : Int32)), (.ref b354)]))
        refine own_st (fun _ k => XS.iload X428.here hx rfl (hb hby at_157) rfl  k) ?_
        show own_Goes p e below s _ _ (T428.setTop (mkF m 159 #[own_jv q0, .second, own_jv q1, .second, own_jv q2, .second, iv p3, iv p4, iv p5, iv (1 : Int32), iv (1 : Int32), iv (1 : Int32), rv b354, rv b363, rv b367, rv b354, .unset] [(.int (1 : Int32)), (.ref b354), (.int (1 : Int32)), (.ref b354)]))
        have f430 := (((((((((Fc361.ext E363).other W364 (Or.inl (own_ne (by omega)))).other W365 (Or.inl (own_ne (by omega)))).other W366 (Or.inl (own_ne (by omega)))).ext E367).other W368 (Or.inl (own_ne (by omega)))).other W369 (Or.inl (own_ne (by omega)))).other W370 (Or.inl (own_ne (by omega)))).other W428 (Or.inl (own_ne (by omega))))
        have f431 := (((((((((Vd361.ext E363).other W364 (own_ne (by omega))).other W365 (own_ne (by omega))).other W366 (own_ne (by omega))).ext E367).other W368 (own_ne (by omega))).other W369 (own_ne (by omega))).other W370 (own_ne (by omega))).other W428 (own_ne (by omega)))
        have f432 := (((((((((A361.ext E363).wr W364).wr W365).wr W366).ext E367).wr W368).wr W369).wr W370).wr W428)
        obtain ⟨v429, T429, L429, X429, Q429, st429⟩ := own_callV X428 hx hZ (C := "com/example/reach2/reach2/model/CodedColumn") (y := (⟨"com/example/reach2/reach2/model/CodedColumn", "copyTo", "(ILcom/example/reach2/reach2/model/CodedColumn;I)V"⟩ : MethodName)) hown (hw _ (List.mem_of_getElem? (i := 38) rfl)) (hw _ (List.mem_of_getElem? (i := 39) rfl)) (hw _ (List.mem_of_getElem? (i := 41) rfl)) (hw _ (List.mem_of_getElem? (i := 40) rfl)) (hw _ (List.mem_of_getElem? (i := 3) rfl)) (hw _ (List.mem_of_getElem? (i := 42) rfl)) (by decide) (W := 0) (rest := []) (argsL := [(.int (1 : Int32)), (.ref b354), (.int (1 : Int32))]) (a := b354) (rmCT l Z a0 hw [] b354 (1 : Int32) b354 (1 : Int32) ac355 ac355 _ _ h428 n0 (by omega) f430 f430 f431 f431 (by decide) (by decide) (by omega)) (by decide) (by decide) (by decide) (by decide) e428 f432 own_pd5 rfl (g := (mkF m 159 #[own_jv q0, .second, own_jv q1, .second, own_jv q2, .second, iv p3, iv p4, iv p5, iv (1 : Int32), iv (1 : Int32), iv (1 : Int32), rv b354, rv b363, rv b367, rv b354, .unset] [(.int (1 : Int32)), (.ref b354), (.int (1 : Int32)), (.ref b354)])) rfl (by rw [hml]; rfl) rfl (by show 2 * 0 + _ ≤ _; exact Nat.le_of_eq rfl) (hb hby at_159)
        obtain ⟨rfl, N429q, K429, V429⟩ := Q429
        have z429 := K429.1
        have Vt429 : own_Arf Z T429.heap ac355 .byte 3 (fun k => .int ((fun k => if k = 1 then (nar .byte (nar .byte (r359.toInt8.toInt32))) else (fun k => if k = 2 then (nar .byte (r361.toInt8.toInt32)) else (fun k => if k = 1 then (nar .byte (r359.toInt8.toInt32)) else (fun k => if k = 0 then (nar .byte (r356.toInt8.toInt32)) else (fun _ => (0 : Int32)) k) k) k) k) k)) := V429
        have N429 := Fr.app N428 N429q
        refine own_st st429 ?_
        show own_Goes p e below s _ _ (T429.setTop (mkF m 162 #[own_jv q0, .second, own_jv q1, .second, own_jv q2, .second, iv p3, iv p4, iv p5, iv (1 : Int32), iv (1 : Int32), iv (1 : Int32), rv b354, rv b363, rv b367, rv b354, .unset] []))
        refine own_st (fun _ k => XS.aload X429.here hx rfl (hb hby at_162) rfl rfl  k) ?_
        show own_Goes p e below s _ _ (T429.setTop (mkF m 164 #[own_jv q0, .second, own_jv q1, .second, own_jv q2, .second, iv p3, iv p4, iv p5, iv (1 : Int32), iv (1 : Int32), iv (1 : Int32), rv b354, rv b363, rv b367, rv b354, .unset] [(.ref b354)]))
        refine own_st (fun _ k => XS.iconst X429.here hx rfl (hb hby at_164) k) ?_
        show own_Goes p e below s _ _ (T429.setTop (mkF m 165 #[own_jv q0, .second, own_jv q1, .second, own_jv q2, .second, iv p3, iv p4, iv p5, iv (1 : Int32), iv (1 : Int32), iv (1 : Int32), rv b354, rv b363, rv b367, rv b354, .unset] [(.int (0 : Int32)), (.ref b354)]))
        have f434 := (f430.keep K429 (ninS (own_ne (by omega)) nin0))
        have f435 := ((((((((((Fv361.ext E363).other W364 (Or.inl (own_ne (by omega)))).other W365 (Or.inl (own_ne (by omega)))).other W366 (Or.inl (own_ne (by omega)))).ext E367).other W368 (Or.inl (own_ne (by omega)))).other W369 (Or.inl (own_ne (by omega)))).other W370 (Or.inl (own_ne (by omega)))).other W428 (Or.inl (own_ne (by omega)))).keep K429 (ninS (own_ne (by omega)) nin0))
        have f436 := ((((((((((Vv361.ext E363).other W364 (own_ne (by omega))).other W365 (own_ne (by omega))).other W366 (own_ne (by omega))).ext E367).other W368 (own_ne (by omega))).other W369 (own_ne (by omega))).other W370 (own_ne (by omega))).other W428 (own_ne (by omega))).keep K429 (ninS (own_ne (by omega)) nin0))
        have f437 := (f432.keep K429)
        obtain ⟨v433, T433, L433, X433, Q433, st433⟩ := own_callV X429 hx hZ (C := "com/example/reach2/reach2/model/CodedColumn") (y := (⟨"com/example/reach2/reach2/model/CodedColumn", "get", "(I)J"⟩ : MethodName)) hown (hw _ (List.mem_of_getElem? (i := 43) rfl)) (hw _ (List.mem_of_getElem? (i := 44) rfl)) (hw _ (List.mem_of_getElem? (i := 46) rfl)) (hw _ (List.mem_of_getElem? (i := 45) rfl)) (hw _ (List.mem_of_getElem? (i := 3) rfl)) (hw _ (List.mem_of_getElem? (i := 47) rfl)) (by decide) (W := 0) (rest := []) (argsL := [(.int (0 : Int32))]) (a := b354) (rmGet l Z a0 hw [] b354 (0 : Int32) _ _ _ _ T429.heap n0 (by omega) f434 f435 Vt429 f436 (by decide)) (by decide) (by decide) (by decide) (by decide) rfl f437 own_pd6 rfl (g := (mkF m 165 #[own_jv q0, .second, own_jv q1, .second, own_jv q2, .second, iv p3, iv p4, iv p5, iv (1 : Int32), iv (1 : Int32), iv (1 : Int32), rv b354, rv b363, rv b367, rv b354, .unset] [(.int (0 : Int32)), (.ref b354)])) rfl (by rw [hml]; rfl) rfl (by show 2 * 0 + _ ≤ _; exact Nat.le_of_eq rfl) (hb hby at_165)
        obtain ⟨g433, rfl, hg433, N433q, e433⟩ := Q433
        obtain rfl : q0 = g433 := (hg433.trans (own_at (by omega) ((rf361 _ (by omega)).trans ((rf359 _ (by omega)).trans re356)))).symm
        have N433 := Fr.app N429 N433q
        refine own_st st433 ?_
        show own_Goes p e below s _ _ (T433.setTop (mkF m 168 #[own_jv q0, .second, own_jv q1, .second, own_jv q2, .second, iv p3, iv p4, iv p5, iv (1 : Int32), iv (1 : Int32), iv (1 : Int32), rv b354, rv b363, rv b367, rv b354, .unset] [(.long q0)]))
        refine own_st (fun _ k => XS.aload X433.here hx rfl (hb hby at_168) rfl rfl  k) ?_
        show own_Goes p e below s _ _ (T433.setTop (mkF m 170 #[own_jv q0, .second, own_jv q1, .second, own_jv q2, .second, iv p3, iv p4, iv p5, iv (1 : Int32), iv (1 : Int32), iv (1 : Int32), rv b354, rv b363, rv b367, rv b354, .unset] [(.ref b367), (.long q0)]))
        refine own_st (fun _ k => XS.iconst X433.here hx rfl (hb hby at_170) k) ?_
        show own_Goes p e below s _ _ (T433.setTop (mkF m 171 #[own_jv q0, .second, own_jv q1, .second, own_jv q2, .second, iv p3, iv p4, iv p5, iv (1 : Int32), iv (1 : Int32), iv (1 : Int32), rv b354, rv b363, rv b367, rv b354, .unset] [(.int (0 : Int32)), (.ref b367), (.long q0)]))
        have f438 := (V428.keep K429 (ninS (own_ne (by omega)) nin0))
        refine own_st (fun _ k => own_ldJ X433 hx hZ e433 f438 (j := (0 : Int32)) (by decide) (g := (mkF m 171 #[own_jv q0, .second, own_jv q1, .second, own_jv q2, .second, iv p3, iv p4, iv p5, iv (1 : Int32), iv (1 : Int32), iv (1 : Int32), rv b354, rv b363, rv b367, rv b354, .unset] [(.int (0 : Int32)), (.ref b367), (.long q0)])) rfl rfl (hb hby at_171) _ k) ?_
        show own_Goes p e below s _ _ (T433.setTop (mkF m 172 #[own_jv q0, .second, own_jv q1, .second, own_jv q2, .second, iv p3, iv p4, iv p5, iv (1 : Int32), iv (1 : Int32), iv (1 : Int32), rv b354, rv b363, rv b367, rv b354, .unset] [(.long q0), (.long q0)]))
        refine own_st (fun _ k => XS.lcmp X433.here hx rfl (hb hby at_172) rfl k) ?_
        show own_Goes p e below s _ _ (T433.setTop (mkF m 173 #[own_jv q0, .second, own_jv q1, .second, own_jv q2, .second, iv p3, iv p4, iv p5, iv (1 : Int32), iv (1 : Int32), iv (1 : Int32), rv b354, rv b363, rv b367, rv b354, .unset] [(.int (lcmpW q0 q0))]))
        refine own_st (fun _ k => XS.ifNo X433.here hx rfl (hb hby at_173) rfl ((if0 _ _).trans (teq ((lw_eq _ _).mpr (rfl : q0 = q0))).2) k) ?_
        show own_Goes p e below s _ _ (T433.setTop (mkF m 176 #[own_jv q0, .second, own_jv q1, .second, own_jv q2, .second, iv p3, iv p4, iv p5, iv (1 : Int32), iv (1 : Int32), iv (1 : Int32), rv b354, rv b363, rv b367, rv b354, .unset] []))
        refine own_st (fun _ k => XS.aload X433.here hx rfl (hb hby at_176) rfl rfl  k) ?_
        show own_Goes p e below s _ _ (T433.setTop (mkF m 178 #[own_jv q0, .second, own_jv q1, .second, own_jv q2, .second, iv p3, iv p4, iv p5, iv (1 : Int32), iv (1 : Int32), iv (1 : Int32), rv b354, rv b363, rv b367, rv b354, .unset] [(.ref b354)]))
        refine own_st (fun _ k => XS.iconst X433.here hx rfl (hb hby at_178) k) ?_
        show own_Goes p e below s _ _ (T433.setTop (mkF m 179 #[own_jv q0, .second, own_jv q1, .second, own_jv q2, .second, iv p3, iv p4, iv p5, iv (1 : Int32), iv (1 : Int32), iv (1 : Int32), rv b354, rv b363, rv b367, rv b354, .unset] [(.int (1 : Int32)), (.ref b354)]))
        obtain ⟨v439, T439, L439, X439, Q439, st439⟩ := own_callV X433 hx hZ (C := "com/example/reach2/reach2/model/CodedColumn") (y := (⟨"com/example/reach2/reach2/model/CodedColumn", "get", "(I)J"⟩ : MethodName)) hown (hw _ (List.mem_of_getElem? (i := 43) rfl)) (hw _ (List.mem_of_getElem? (i := 44) rfl)) (hw _ (List.mem_of_getElem? (i := 46) rfl)) (hw _ (List.mem_of_getElem? (i := 45) rfl)) (hw _ (List.mem_of_getElem? (i := 3) rfl)) (hw _ (List.mem_of_getElem? (i := 47) rfl)) (by decide) (W := 0) (rest := []) (argsL := [(.int (1 : Int32))]) (a := b354) (rmGet l Z a0 hw [] b354 (1 : Int32) _ _ _ _ T429.heap n0 (by omega) f434 f435 Vt429 f436 (by decide)) (by decide) (by decide) (by decide) (by decide) e433 f437 own_pd6 rfl (g := (mkF m 179 #[own_jv q0, .second, own_jv q1, .second, own_jv q2, .second, iv p3, iv p4, iv p5, iv (1 : Int32), iv (1 : Int32), iv (1 : Int32), rv b354, rv b363, rv b367, rv b354, .unset] [(.int (1 : Int32)), (.ref b354)])) rfl (by rw [hml]; rfl) rfl (by show 2 * 0 + _ ≤ _; exact Nat.le_of_eq rfl) (hb hby at_179)
        obtain ⟨g439, rfl, hg439, N439q, e439⟩ := Q439
        obtain rfl : q1 = g439 := (hg439.trans (own_at2 (by omega) ((rf361 _ (by omega)).trans re359))).symm
        have N439 := Fr.app N433 N439q
        refine own_st st439 ?_
        show own_Goes p e below s _ _ (T439.setTop (mkF m 182 #[own_jv q0, .second, own_jv q1, .second, own_jv q2, .second, iv p3, iv p4, iv p5, iv (1 : Int32), iv (1 : Int32), iv (1 : Int32), rv b354, rv b363, rv b367, rv b354, .unset] [(.long q1)]))
        refine own_st (fun _ k => XS.aload X439.here hx rfl (hb hby at_182) rfl rfl  k) ?_
        show own_Goes p e below s _ _ (T439.setTop (mkF m 184 #[own_jv q0, .second, own_jv q1, .second, own_jv q2, .second, iv p3, iv p4, iv p5, iv (1 : Int32), iv (1 : Int32), iv (1 : Int32), rv b354, rv b363, rv b367, rv b354, .unset] [(.ref b367), (.long q1)]))
        refine own_st (fun _ k => XS.iconst X439.here hx rfl (hb hby at_184) k) ?_
        show own_Goes p e below s _ _ (T439.setTop (mkF m 185 #[own_jv q0, .second, own_jv q1, .second, own_jv q2, .second, iv p3, iv p4, iv p5, iv (1 : Int32), iv (1 : Int32), iv (1 : Int32), rv b354, rv b363, rv b367, rv b354, .unset] [(.int (1 : Int32)), (.ref b367), (.long q1)]))
        refine own_st (fun _ k => own_ldJ X439 hx hZ e439 f438 (j := (1 : Int32)) (by decide) (g := (mkF m 185 #[own_jv q0, .second, own_jv q1, .second, own_jv q2, .second, iv p3, iv p4, iv p5, iv (1 : Int32), iv (1 : Int32), iv (1 : Int32), rv b354, rv b363, rv b367, rv b354, .unset] [(.int (1 : Int32)), (.ref b367), (.long q1)])) rfl rfl (hb hby at_185) _ k) ?_
        show own_Goes p e below s _ _ (T439.setTop (mkF m 186 #[own_jv q0, .second, own_jv q1, .second, own_jv q2, .second, iv p3, iv p4, iv p5, iv (1 : Int32), iv (1 : Int32), iv (1 : Int32), rv b354, rv b363, rv b367, rv b354, .unset] [(.long q1), (.long q1)]))
        refine own_st (fun _ k => XS.lcmp X439.here hx rfl (hb hby at_186) rfl k) ?_
        show own_Goes p e below s _ _ (T439.setTop (mkF m 187 #[own_jv q0, .second, own_jv q1, .second, own_jv q2, .second, iv p3, iv p4, iv p5, iv (1 : Int32), iv (1 : Int32), iv (1 : Int32), rv b354, rv b363, rv b367, rv b354, .unset] [(.int (lcmpW q1 q1))]))
        refine own_st (fun _ k => XS.ifNo X439.here hx rfl (hb hby at_187) rfl ((if0 _ _).trans (teq ((lw_eq _ _).mpr (rfl : q1 = q1))).2) k) ?_
        show own_Goes p e below s _ _ (T439.setTop (mkF m 190 #[own_jv q0, .second, own_jv q1, .second, own_jv q2, .second, iv p3, iv p4, iv p5, iv (1 : Int32), iv (1 : Int32), iv (1 : Int32), rv b354, rv b363, rv b367, rv b354, .unset] []))
        refine own_st (fun _ k => XS.aload X439.here hx rfl (hb hby at_190) rfl rfl  k) ?_
        show own_Goes p e below s _ _ (T439.setTop (mkF m 192 #[own_jv q0, .second, own_jv q1, .second, own_jv q2, .second, iv p3, iv p4, iv p5, iv (1 : Int32), iv (1 : Int32), iv (1 : Int32), rv b354, rv b363, rv b367, rv b354, .unset] [(.ref b354)]))
        refine own_st (fun _ k => XS.iconst X439.here hx rfl (hb hby at_192) k) ?_
        show own_Goes p e below s _ _ (T439.setTop (mkF m 193 #[own_jv q0, .second, own_jv q1, .second, own_jv q2, .second, iv p3, iv p4, iv p5, iv (1 : Int32), iv (1 : Int32), iv (1 : Int32), rv b354, rv b363, rv b367, rv b354, .unset] [(.int (2 : Int32)), (.ref b354)]))
        obtain ⟨v440, T440, L440, X440, Q440, st440⟩ := own_callV X439 hx hZ (C := "com/example/reach2/reach2/model/CodedColumn") (y := (⟨"com/example/reach2/reach2/model/CodedColumn", "get", "(I)J"⟩ : MethodName)) hown (hw _ (List.mem_of_getElem? (i := 43) rfl)) (hw _ (List.mem_of_getElem? (i := 44) rfl)) (hw _ (List.mem_of_getElem? (i := 46) rfl)) (hw _ (List.mem_of_getElem? (i := 45) rfl)) (hw _ (List.mem_of_getElem? (i := 3) rfl)) (hw _ (List.mem_of_getElem? (i := 47) rfl)) (by decide) (W := 0) (rest := []) (argsL := [(.int (2 : Int32))]) (a := b354) (rmGet l Z a0 hw [] b354 (2 : Int32) _ _ _ _ T429.heap n0 (by omega) f434 f435 Vt429 f436 (by decide)) (by decide) (by decide) (by decide) (by decide) e439 f437 own_pd6 rfl (g := (mkF m 193 #[own_jv q0, .second, own_jv q1, .second, own_jv q2, .second, iv p3, iv p4, iv p5, iv (1 : Int32), iv (1 : Int32), iv (1 : Int32), rv b354, rv b363, rv b367, rv b354, .unset] [(.int (2 : Int32)), (.ref b354)])) rfl (by rw [hml]; rfl) rfl (by show 2 * 0 + _ ≤ _; exact Nat.le_of_eq rfl) (hb hby at_193)
        obtain ⟨g440, rfl, hg440, N440q, e440⟩ := Q440
        obtain rfl : q2 = g440 := (hg440.trans (own_at (by omega) re361)).symm
        have N440 := Fr.app N439 N440q
        refine own_st st440 ?_
        show own_Goes p e below s _ _ (T440.setTop (mkF m 196 #[own_jv q0, .second, own_jv q1, .second, own_jv q2, .second, iv p3, iv p4, iv p5, iv (1 : Int32), iv (1 : Int32), iv (1 : Int32), rv b354, rv b363, rv b367, rv b354, .unset] [(.long q2)]))
        refine own_st (fun _ k => XS.aload X440.here hx rfl (hb hby at_196) rfl rfl  k) ?_
        show own_Goes p e below s _ _ (T440.setTop (mkF m 198 #[own_jv q0, .second, own_jv q1, .second, own_jv q2, .second, iv p3, iv p4, iv p5, iv (1 : Int32), iv (1 : Int32), iv (1 : Int32), rv b354, rv b363, rv b367, rv b354, .unset] [(.ref b367), (.long q2)]))
        refine own_st (fun _ k => XS.iconst X440.here hx rfl (hb hby at_198) k) ?_
        show own_Goes p e below s _ _ (T440.setTop (mkF m 199 #[own_jv q0, .second, own_jv q1, .second, own_jv q2, .second, iv p3, iv p4, iv p5, iv (1 : Int32), iv (1 : Int32), iv (1 : Int32), rv b354, rv b363, rv b367, rv b354, .unset] [(.int (2 : Int32)), (.ref b367), (.long q2)]))
        refine own_st (fun _ k => own_ldJ X440 hx hZ e440 f438 (j := (2 : Int32)) (by decide) (g := (mkF m 199 #[own_jv q0, .second, own_jv q1, .second, own_jv q2, .second, iv p3, iv p4, iv p5, iv (1 : Int32), iv (1 : Int32), iv (1 : Int32), rv b354, rv b363, rv b367, rv b354, .unset] [(.int (2 : Int32)), (.ref b367), (.long q2)])) rfl rfl (hb hby at_199) _ k) ?_
        show own_Goes p e below s _ _ (T440.setTop (mkF m 200 #[own_jv q0, .second, own_jv q1, .second, own_jv q2, .second, iv p3, iv p4, iv p5, iv (1 : Int32), iv (1 : Int32), iv (1 : Int32), rv b354, rv b363, rv b367, rv b354, .unset] [(.long q2), (.long q2)]))
        refine own_st (fun _ k => XS.lcmp X440.here hx rfl (hb hby at_200) rfl k) ?_
        show own_Goes p e below s _ _ (T440.setTop (mkF m 201 #[own_jv q0, .second, own_jv q1, .second, own_jv q2, .second, iv p3, iv p4, iv p5, iv (1 : Int32), iv (1 : Int32), iv (1 : Int32), rv b354, rv b363, rv b367, rv b354, .unset] [(.int (lcmpW q2 q2))]))
        refine own_st (fun _ k => XS.ifNo X440.here hx rfl (hb hby at_201) rfl ((if0 _ _).trans (teq ((lw_eq _ _).mpr (rfl : q2 = q2))).2) k) ?_
        show own_Goes p e below s _ _ (T440.setTop (mkF m 204 #[own_jv q0, .second, own_jv q1, .second, own_jv q2, .second, iv p3, iv p4, iv p5, iv (1 : Int32), iv (1 : Int32), iv (1 : Int32), rv b354, rv b363, rv b367, rv b354, .unset] []))
        refine own_st (fun _ k => XS.iconst X440.here hx rfl (hb hby at_204) k) ?_
        show own_Goes p e below s _ _ (T440.setTop (mkF m 205 #[own_jv q0, .second, own_jv q1, .second, own_jv q2, .second, iv p3, iv p4, iv p5, iv (1 : Int32), iv (1 : Int32), iv (1 : Int32), rv b354, rv b363, rv b367, rv b354, .unset] [(.int (1 : Int32))]))
        refine own_st (fun _ k => XS.goto X440.here hx rfl (pc0 := 205) (pc' := 209) rfl (hb hby at_205) (by decide) (by decide) k) ?_
        show own_Goes p e below s _ _ (T440.setTop (mkF m 209 #[own_jv q0, .second, own_jv q1, .second, own_jv q2, .second, iv p3, iv p4, iv p5, iv (1 : Int32), iv (1 : Int32), iv (1 : Int32), rv b354, rv b363, rv b367, rv b354, .unset] [(.int (1 : Int32))]))
        refine own_st (fun _ k => XS.istore X440.here hx rfl (hb hby at_209) rfl (l' := #[own_jv q0, .second, own_jv q1, .second, own_jv q2, .second, iv p3, iv p4, iv p5, iv (1 : Int32), iv (1 : Int32), iv (1 : Int32), rv b354, rv b363, rv b367, rv b354, iv (1 : Int32)]) rfl k) ?_
        show own_Goes p e below s _ _ (T440.setTop (mkF m 211 #[own_jv q0, .second, own_jv q1, .second, own_jv q2, .second, iv p3, iv p4, iv p5, iv (1 : Int32), iv (1 : Int32), iv (1 : Int32), rv b354, rv b363, rv b367, rv b354, iv (1 : Int32)] []))
        refine own_st (fun _ k => XS.iload X440.here hx rfl (hb hby at_211) rfl  k) ?_
        show own_Goes p e below s _ _ (T440.setTop (mkF m 213 #[own_jv q0, .second, own_jv q1, .second, own_jv q2, .second, iv p3, iv p4, iv p5, iv (1 : Int32), iv (1 : Int32), iv (1 : Int32), rv b354, rv b363, rv b367, rv b354, iv (1 : Int32)] [(.int (1 : Int32))]))
        refine own_st (fun _ k => XS.ifYes X440.here hx rfl (pc0 := 213) (pc' := 262) rfl (hb hby at_213) rfl ((if0 _ _).trans (feq (by decide : ¬ ((1 : Int32) = (0 : Int32)))).2) (by decide) (by decide) k) ?_
        show own_Goes p e below s _ _ (T440.setTop (mkF m 262 #[own_jv q0, .second, own_jv q1, .second, own_jv q2, .second, iv p3, iv p4, iv p5, iv (1 : Int32), iv (1 : Int32), iv (1 : Int32), rv b354, rv b363, rv b367, rv b354, iv (1 : Int32)] []))
        refine own_st (fun _ k => XS.iload X440.here hx rfl (hb hby at_262) rfl  k) ?_
        show own_Goes p e below s _ _ (T440.setTop (mkF m 264 #[own_jv q0, .second, own_jv q1, .second, own_jv q2, .second, iv p3, iv p4, iv p5, iv (1 : Int32), iv (1 : Int32), iv (1 : Int32), rv b354, rv b363, rv b367, rv b354, iv (1 : Int32)] [(.int (1 : Int32))]))
        exact own_retN X440 hx hlk (1 : Int32) hret (Or.inl rfl) rfl (hb hby at_264) (by decide) (by decide) ⟨rfl, N440⟩
      · show own_Goes p e below s _ _ (T370.setTop (mkF m 141 #[own_jv q0, .second, own_jv q1, .second, own_jv q2, .second, iv p3, iv p4, iv p5, iv (1 : Int32), iv (2 : Int32), iv (1 : Int32), rv b354, rv b363, rv b367, rv b354, .unset] []))
        refine own_st (fun _ k => XS.aload X370.here hx rfl (hb hby at_141) rfl rfl  k) ?_
        show own_Goes p e below s _ _ (T370.setTop (mkF m 143 #[own_jv q0, .second, own_jv q1, .second, own_jv q2, .second, iv p3, iv p4, iv p5, iv (1 : Int32), iv (2 : Int32), iv (1 : Int32), rv b354, rv b363, rv b367, rv b354, .unset] [(.ref b367)]))
        refine own_st (fun _ k => XS.iload X370.here hx rfl (hb hby at_143) rfl  k) ?_
        show own_Goes p e below s _ _ (T370.setTop (mkF m 145 #[own_jv q0, .second, own_jv q1, .second, own_jv q2, .second, iv p3, iv p4, iv p5, iv (1 : Int32), iv (2 : Int32), iv (1 : Int32), rv b354, rv b363, rv b367, rv b354, .unset] [(.int (2 : Int32)), (.ref b367)]))
        refine own_st (fun _ k => XS.aload X370.here hx rfl (hb hby at_145) rfl rfl  k) ?_
        show own_Goes p e below s _ _ (T370.setTop (mkF m 147 #[own_jv q0, .second, own_jv q1, .second, own_jv q2, .second, iv p3, iv p4, iv p5, iv (1 : Int32), iv (2 : Int32), iv (1 : Int32), rv b354, rv b363, rv b367, rv b354, .unset] [(.ref b363), (.int (2 : Int32)), (.ref b367)]))
        refine own_st (fun _ k => XS.iload X370.here hx rfl (hb hby at_147) rfl  k) ?_
        show own_Goes p e below s _ _ (T370.setTop (mkF m 149 #[own_jv q0, .second, own_jv q1, .second, own_jv q2, .second, iv p3, iv p4, iv p5, iv (1 : Int32), iv (2 : Int32), iv (1 : Int32), rv b354, rv b363, rv b367, rv b354, .unset] [(.int (1 : Int32)), (.ref b363), (.int (2 : Int32)), (.ref b367)]))
        have f441 := ((((V366.ext E367).other W368 (own_ne (by omega))).other W369 (own_ne (by omega))).other W370 (own_ne (by omega)))
        refine own_st (fun _ k => own_ldJ X370 hx hZ e370 f441 (j := (1 : Int32)) (by decide) (g := (mkF m 149 #[own_jv q0, .second, own_jv q1, .second, own_jv q2, .second, iv p3, iv p4, iv p5, iv (1 : Int32), iv (2 : Int32), iv (1 : Int32), rv b354, rv b363, rv b367, rv b354, .unset] [(.int (1 : Int32)), (.ref b363), (.int (2 : Int32)), (.ref b367)])) rfl rfl (hb hby at_149) _ k) ?_
        show own_Goes p e below s _ _ (T370.setTop (mkF m 150 #[own_jv q0, .second, own_jv q1, .second, own_jv q2, .second, iv p3, iv p4, iv p5, iv (1 : Int32), iv (2 : Int32), iv (1 : Int32), rv b354, rv b363, rv b367, rv b354, .unset] [(.long q1), (.int (2 : Int32)), (.ref b367)]))
        obtain ⟨T442, h442, X442, e442, W442, A442, st442⟩ := own_stJ X370 hx hZ e370 V370 (j := (2 : Int32)) (by decide) (g := (mkF m 150 #[own_jv q0, .second, own_jv q1, .second, own_jv q2, .second, iv p3, iv p4, iv p5, iv (1 : Int32), iv (2 : Int32), iv (1 : Int32), rv b354, rv b363, rv b367, rv b354, .unset] [(.long q1), (.int (2 : Int32)), (.ref b367)])) rfl rfl (hb hby at_150)
        have V442 : own_Arf Z h442 b367 .long 3 (fun k => .long ((fun k => if k = 2 then q1 else (fun k => if k = 2 then q2 else (fun k => if k = 1 then q1 else (fun k => if k = 0 then q0 else (fun _ => (0 : Int64)) k) k) k) k) k)) := A442
        have z442 := W442.size
        have N442 := Fr.snoc X442 N370 (by omega)
        refine own_st st442 ?_
        show own_Goes p e below s _ _ (T442.setTop (mkF m 151 #[own_jv q0, .second, own_jv q1, .second, own_jv q2, .second, iv p3, iv p4, iv p5, iv (1 : Int32), iv (2 : Int32), iv (1 : Int32), rv b354, rv b363, rv b367, rv b354, .unset] []))
        refine own_st (fun _ k => XS.aload X442.here hx rfl (hb hby at_151) rfl rfl  k) ?_
        show own_Goes p e below s _ _ (T442.setTop (mkF m 153 #[own_jv q0, .second, own_jv q1, .second, own_jv q2, .second, iv p3, iv p4, iv p5, iv (1 : Int32), iv (2 : Int32), iv (1 : Int32), rv b354, rv b363, rv b367, rv b354, .unset] [(.ref b354)]))
        refine own_st (fun _ k => XS.iload X442.here hx rfl (hb hby at_153) rfl  k) ?_
        show own_Goes p e below s _ _ (T442.setTop (mkF m 155 #[own_jv q0, .second, own_jv q1, .second, own_jv q2, .second, iv p3, iv p4, iv p5, iv (1 : Int32), iv (2 : Int32), iv (1 : Int32), rv b354, rv b363, rv b367, rv b354, .unset] [(.int (1 : Int32)), (.ref b354)]))
        refine own_st (fun _ k => XS.aload X442.here hx rfl (hb hby at_155) rfl rfl  k) ?_
        show own_Goes p e below s _ _ (T442.setTop (mkF m 157 #[own_jv q0, .second, own_jv q1, .second, own_jv q2, .second, iv p3, iv p4, iv p5, iv (1 : Int32), iv (2 : Int32), iv (1 : Int32), rv b354, rv b363, rv b367, rv b354, .unset] [(.ref b354), (.int (1 : Int32)), (.ref b354)]))
        refine own_st (fun _ k => XS.iload X442.here hx rfl (hb hby at_157) rfl  k) ?_
        show own_Goes p e below s _ _ (T442.setTop (mkF m 159 #[own_jv q0, .second, own_jv q1, .second, own_jv q2, .second, iv p3, iv p4, iv p5, iv (1 : Int32), iv (2 : Int32), iv (1 : Int32), rv b354, rv b363, rv b367, rv b354, .unset] [(.int (2 : Int32)), (.ref b354), (.int (1 : Int32)), (.ref b354)]))
        have f444 := (((((((((Fc361.ext E363).other W364 (Or.inl (own_ne (by omega)))).other W365 (Or.inl (own_ne (by omega)))).other W366 (Or.inl (own_ne (by omega)))).ext E367).other W368 (Or.inl (own_ne (by omega)))).other W369 (Or.inl (own_ne (by omega)))).other W370 (Or.inl (own_ne (by omega)))).other W442 (Or.inl (own_ne (by omega))))
        have f445 := (((((((((Vd361.ext E363).other W364 (own_ne (by omega))).other W365 (own_ne (by omega))).other W366 (own_ne (by omega))).ext E367).other W368 (own_ne (by omega))).other W369 (own_ne (by omega))).other W370 (own_ne (by omega))).other W442 (own_ne (by omega)))
        have f446 := (((((((((A361.ext E363).wr W364).wr W365).wr W366).ext E367).wr W368).wr W369).wr W370).wr W442)
        obtain ⟨v443, T443, L443, X443, Q443, st443⟩ := own_callV X442 hx hZ (C := "com/example/reach2/reach2/model/CodedColumn") (y := (⟨"com/example/reach2/reach2/model/CodedColumn", "copyTo", "(ILcom/example/reach2/reach2/model/CodedColumn;I)V"⟩ : MethodName)) hown (hw _ (List.mem_of_getElem? (i := 38) rfl)) (hw _ (List.mem_of_getElem? (i := 39) rfl)) (hw _ (List.mem_of_getElem? (i := 41) rfl)) (hw _ (List.mem_of_getElem? (i := 40) rfl)) (hw _ (List.mem_of_getElem? (i := 3) rfl)) (hw _ (List.mem_of_getElem? (i := 42) rfl)) (by decide) (W := 0) (rest := []) (argsL := [(.int (1 : Int32)), (.ref b354), (.int (2 : Int32))]) (a := b354) (rmCT l Z a0 hw [] b354 (1 : Int32) b354 (2 : Int32) ac355 ac355 _ _ h442 n0 (by omega) f444 f444 f445 f445 (by decide) (by decide) (by omega)) (by decide) (by decide) (by decide) (by decide) e442 f446 own_pd5 rfl (g := (mkF m 159 #[own_jv q0, .second, own_jv q1, .second, own_jv q2, .second, iv p3, iv p4, iv p5, iv (1 : Int32), iv (2 : Int32), iv (1 : Int32), rv b354, rv b363, rv b367, rv b354, .unset] [(.int (2 : Int32)), (.ref b354), (.int (1 : Int32)), (.ref b354)])) rfl (by rw [hml]; rfl) rfl (by show 2 * 0 + _ ≤ _; exact Nat.le_of_eq rfl) (hb hby at_159)
        obtain ⟨rfl, N443q, K443, V443⟩ := Q443
        have z443 := K443.1
        have Vt443 : own_Arf Z T443.heap ac355 .byte 3 (fun k => .int ((fun k => if k = 2 then (nar .byte (nar .byte (r359.toInt8.toInt32))) else (fun k => if k = 2 then (nar .byte (r361.toInt8.toInt32)) else (fun k => if k = 1 then (nar .byte (r359.toInt8.toInt32)) else (fun k => if k = 0 then (nar .byte (r356.toInt8.toInt32)) else (fun _ => (0 : Int32)) k) k) k) k) k)) := V443
        have N443 := Fr.app N442 N443q
        refine own_st st443 ?_
        show own_Goes p e below s _ _ (T443.setTop (mkF m 162 #[own_jv q0, .second, own_jv q1, .second, own_jv q2, .second, iv p3, iv p4, iv p5, iv (1 : Int32), iv (2 : Int32), iv (1 : Int32), rv b354, rv b363, rv b367, rv b354, .unset] []))
        refine own_st (fun _ k => XS.aload X443.here hx rfl (hb hby at_162) rfl rfl  k) ?_
        show own_Goes p e below s _ _ (T443.setTop (mkF m 164 #[own_jv q0, .second, own_jv q1, .second, own_jv q2, .second, iv p3, iv p4, iv p5, iv (1 : Int32), iv (2 : Int32), iv (1 : Int32), rv b354, rv b363, rv b367, rv b354, .unset] [(.ref b354)]))
        refine own_st (fun _ k => XS.iconst X443.here hx rfl (hb hby at_164) k) ?_
        show own_Goes p e below s _ _ (T443.setTop (mkF m 165 #[own_jv q0, .second, own_jv q1, .second, own_jv q2, .second, iv p3, iv p4, iv p5, iv (1 : Int32), iv (2 : Int32), iv (1 : Int32), rv b354, rv b363, rv b367, rv b354, .unset] [(.int (0 : Int32)), (.ref b354)]))
        have f448 := (f444.keep K443 (ninS (own_ne (by omega)) nin0))
        have f449 := ((((((((((Fv361.ext E363).other W364 (Or.inl (own_ne (by omega)))).other W365 (Or.inl (own_ne (by omega)))).other W366 (Or.inl (own_ne (by omega)))).ext E367).other W368 (Or.inl (own_ne (by omega)))).other W369 (Or.inl (own_ne (by omega)))).other W370 (Or.inl (own_ne (by omega)))).other W442 (Or.inl (own_ne (by omega)))).keep K443 (ninS (own_ne (by omega)) nin0))
        have f450 := ((((((((((Vv361.ext E363).other W364 (own_ne (by omega))).other W365 (own_ne (by omega))).other W366 (own_ne (by omega))).ext E367).other W368 (own_ne (by omega))).other W369 (own_ne (by omega))).other W370 (own_ne (by omega))).other W442 (own_ne (by omega))).keep K443 (ninS (own_ne (by omega)) nin0))
        have f451 := (f446.keep K443)
        obtain ⟨v447, T447, L447, X447, Q447, st447⟩ := own_callV X443 hx hZ (C := "com/example/reach2/reach2/model/CodedColumn") (y := (⟨"com/example/reach2/reach2/model/CodedColumn", "get", "(I)J"⟩ : MethodName)) hown (hw _ (List.mem_of_getElem? (i := 43) rfl)) (hw _ (List.mem_of_getElem? (i := 44) rfl)) (hw _ (List.mem_of_getElem? (i := 46) rfl)) (hw _ (List.mem_of_getElem? (i := 45) rfl)) (hw _ (List.mem_of_getElem? (i := 3) rfl)) (hw _ (List.mem_of_getElem? (i := 47) rfl)) (by decide) (W := 0) (rest := []) (argsL := [(.int (0 : Int32))]) (a := b354) (rmGet l Z a0 hw [] b354 (0 : Int32) _ _ _ _ T443.heap n0 (by omega) f448 f449 Vt443 f450 (by decide)) (by decide) (by decide) (by decide) (by decide) rfl f451 own_pd6 rfl (g := (mkF m 165 #[own_jv q0, .second, own_jv q1, .second, own_jv q2, .second, iv p3, iv p4, iv p5, iv (1 : Int32), iv (2 : Int32), iv (1 : Int32), rv b354, rv b363, rv b367, rv b354, .unset] [(.int (0 : Int32)), (.ref b354)])) rfl (by rw [hml]; rfl) rfl (by show 2 * 0 + _ ≤ _; exact Nat.le_of_eq rfl) (hb hby at_165)
        obtain ⟨g447, rfl, hg447, N447q, e447⟩ := Q447
        obtain rfl : q0 = g447 := (hg447.trans (own_at (by omega) ((rf361 _ (by omega)).trans ((rf359 _ (by omega)).trans re356)))).symm
        have N447 := Fr.app N443 N447q
        refine own_st st447 ?_
        show own_Goes p e below s _ _ (T447.setTop (mkF m 168 #[own_jv q0, .second, own_jv q1, .second, own_jv q2, .second, iv p3, iv p4, iv p5, iv (1 : Int32), iv (2 : Int32), iv (1 : Int32), rv b354, rv b363, rv b367, rv b354, .unset] [(.long q0)]))
        refine own_st (fun _ k => XS.aload X447.here hx rfl (hb hby at_168) rfl rfl  k) ?_
        show own_Goes p e below s _ _ (T447.setTop (mkF m 170 #[own_jv q0, .second, own_jv q1, .second, own_jv q2, .second, iv p3, iv p4, iv p5, iv (1 : Int32), iv (2 : Int32), iv (1 : Int32), rv b354, rv b363, rv b367, rv b354, .unset] [(.ref b367), (.long q0)]))
        refine own_st (fun _ k => XS.iconst X447.here hx rfl (hb hby at_170) k) ?_
        show own_Goes p e below s _ _ (T447.setTop (mkF m 171 #[own_jv q0, .second, own_jv q1, .second, own_jv q2, .second, iv p3, iv p4, iv p5, iv (1 : Int32), iv (2 : Int32), iv (1 : Int32), rv b354, rv b363, rv b367, rv b354, .unset] [(.int (0 : Int32)), (.ref b367), (.long q0)]))
        have f452 := (V442.keep K443 (ninS (own_ne (by omega)) nin0))
        refine own_st (fun _ k => own_ldJ X447 hx hZ e447 f452 (j := (0 : Int32)) (by decide) (g := (mkF m 171 #[own_jv q0, .second, own_jv q1, .second, own_jv q2, .second, iv p3, iv p4, iv p5, iv (1 : Int32), iv (2 : Int32), iv (1 : Int32), rv b354, rv b363, rv b367, rv b354, .unset] [(.int (0 : Int32)), (.ref b367), (.long q0)])) rfl rfl (hb hby at_171) _ k) ?_
        show own_Goes p e below s _ _ (T447.setTop (mkF m 172 #[own_jv q0, .second, own_jv q1, .second, own_jv q2, .second, iv p3, iv p4, iv p5, iv (1 : Int32), iv (2 : Int32), iv (1 : Int32), rv b354, rv b363, rv b367, rv b354, .unset] [(.long q0), (.long q0)]))
        refine own_st (fun _ k => XS.lcmp X447.here hx rfl (hb hby at_172) rfl k) ?_
        show own_Goes p e below s _ _ (T447.setTop (mkF m 173 #[own_jv q0, .second, own_jv q1, .second, own_jv q2, .second, iv p3, iv p4, iv p5, iv (1 : Int32), iv (2 : Int32), iv (1 : Int32), rv b354, rv b363, rv b367, rv b354, .unset] [(.int (lcmpW q0 q0))]))
        refine own_st (fun _ k => XS.ifNo X447.here hx rfl (hb hby at_173) rfl ((if0 _ _).trans (teq ((lw_eq _ _).mpr (rfl : q0 = q0))).2) k) ?_
        show own_Goes p e below s _ _ (T447.setTop (mkF m 176 #[own_jv q0, .second, own_jv q1, .second, own_jv q2, .second, iv p3, iv p4, iv p5, iv (1 : Int32), iv (2 : Int32), iv (1 : Int32), rv b354, rv b363, rv b367, rv b354, .unset] []))
        refine own_st (fun _ k => XS.aload X447.here hx rfl (hb hby at_176) rfl rfl  k) ?_
        show own_Goes p e below s _ _ (T447.setTop (mkF m 178 #[own_jv q0, .second, own_jv q1, .second, own_jv q2, .second, iv p3, iv p4, iv p5, iv (1 : Int32), iv (2 : Int32), iv (1 : Int32), rv b354, rv b363, rv b367, rv b354, .unset] [(.ref b354)]))
        refine own_st (fun _ k => XS.iconst X447.here hx rfl (hb hby at_178) k) ?_
        show own_Goes p e below s _ _ (T447.setTop (mkF m 179 #[own_jv q0, .second, own_jv q1, .second, own_jv q2, .second, iv p3, iv p4, iv p5, iv (1 : Int32), iv (2 : Int32), iv (1 : Int32), rv b354, rv b363, rv b367, rv b354, .unset] [(.int (1 : Int32)), (.ref b354)]))
        obtain ⟨v453, T453, L453, X453, Q453, st453⟩ := own_callV X447 hx hZ (C := "com/example/reach2/reach2/model/CodedColumn") (y := (⟨"com/example/reach2/reach2/model/CodedColumn", "get", "(I)J"⟩ : MethodName)) hown (hw _ (List.mem_of_getElem? (i := 43) rfl)) (hw _ (List.mem_of_getElem? (i := 44) rfl)) (hw _ (List.mem_of_getElem? (i := 46) rfl)) (hw _ (List.mem_of_getElem? (i := 45) rfl)) (hw _ (List.mem_of_getElem? (i := 3) rfl)) (hw _ (List.mem_of_getElem? (i := 47) rfl)) (by decide) (W := 0) (rest := []) (argsL := [(.int (1 : Int32))]) (a := b354) (rmGet l Z a0 hw [] b354 (1 : Int32) _ _ _ _ T443.heap n0 (by omega) f448 f449 Vt443 f450 (by decide)) (by decide) (by decide) (by decide) (by decide) e447 f451 own_pd6 rfl (g := (mkF m 179 #[own_jv q0, .second, own_jv q1, .second, own_jv q2, .second, iv p3, iv p4, iv p5, iv (1 : Int32), iv (2 : Int32), iv (1 : Int32), rv b354, rv b363, rv b367, rv b354, .unset] [(.int (1 : Int32)), (.ref b354)])) rfl (by rw [hml]; rfl) rfl (by show 2 * 0 + _ ≤ _; exact Nat.le_of_eq rfl) (hb hby at_179)
        obtain ⟨g453, rfl, hg453, N453q, e453⟩ := Q453
        obtain rfl : q1 = g453 := (hg453.trans (own_at (by omega) ((rf361 _ (by omega)).trans re359))).symm
        have N453 := Fr.app N447 N453q
        refine own_st st453 ?_
        show own_Goes p e below s _ _ (T453.setTop (mkF m 182 #[own_jv q0, .second, own_jv q1, .second, own_jv q2, .second, iv p3, iv p4, iv p5, iv (1 : Int32), iv (2 : Int32), iv (1 : Int32), rv b354, rv b363, rv b367, rv b354, .unset] [(.long q1)]))
        refine own_st (fun _ k => XS.aload X453.here hx rfl (hb hby at_182) rfl rfl  k) ?_
        show own_Goes p e below s _ _ (T453.setTop (mkF m 184 #[own_jv q0, .second, own_jv q1, .second, own_jv q2, .second, iv p3, iv p4, iv p5, iv (1 : Int32), iv (2 : Int32), iv (1 : Int32), rv b354, rv b363, rv b367, rv b354, .unset] [(.ref b367), (.long q1)]))
        refine own_st (fun _ k => XS.iconst X453.here hx rfl (hb hby at_184) k) ?_
        show own_Goes p e below s _ _ (T453.setTop (mkF m 185 #[own_jv q0, .second, own_jv q1, .second, own_jv q2, .second, iv p3, iv p4, iv p5, iv (1 : Int32), iv (2 : Int32), iv (1 : Int32), rv b354, rv b363, rv b367, rv b354, .unset] [(.int (1 : Int32)), (.ref b367), (.long q1)]))
        refine own_st (fun _ k => own_ldJ X453 hx hZ e453 f452 (j := (1 : Int32)) (by decide) (g := (mkF m 185 #[own_jv q0, .second, own_jv q1, .second, own_jv q2, .second, iv p3, iv p4, iv p5, iv (1 : Int32), iv (2 : Int32), iv (1 : Int32), rv b354, rv b363, rv b367, rv b354, .unset] [(.int (1 : Int32)), (.ref b367), (.long q1)])) rfl rfl (hb hby at_185) _ k) ?_
        show own_Goes p e below s _ _ (T453.setTop (mkF m 186 #[own_jv q0, .second, own_jv q1, .second, own_jv q2, .second, iv p3, iv p4, iv p5, iv (1 : Int32), iv (2 : Int32), iv (1 : Int32), rv b354, rv b363, rv b367, rv b354, .unset] [(.long q1), (.long q1)]))
        refine own_st (fun _ k => XS.lcmp X453.here hx rfl (hb hby at_186) rfl k) ?_
        show own_Goes p e below s _ _ (T453.setTop (mkF m 187 #[own_jv q0, .second, own_jv q1, .second, own_jv q2, .second, iv p3, iv p4, iv p5, iv (1 : Int32), iv (2 : Int32), iv (1 : Int32), rv b354, rv b363, rv b367, rv b354, .unset] [(.int (lcmpW q1 q1))]))
        refine own_st (fun _ k => XS.ifNo X453.here hx rfl (hb hby at_187) rfl ((if0 _ _).trans (teq ((lw_eq _ _).mpr (rfl : q1 = q1))).2) k) ?_
        show own_Goes p e below s _ _ (T453.setTop (mkF m 190 #[own_jv q0, .second, own_jv q1, .second, own_jv q2, .second, iv p3, iv p4, iv p5, iv (1 : Int32), iv (2 : Int32), iv (1 : Int32), rv b354, rv b363, rv b367, rv b354, .unset] []))
        refine own_st (fun _ k => XS.aload X453.here hx rfl (hb hby at_190) rfl rfl  k) ?_
        show own_Goes p e below s _ _ (T453.setTop (mkF m 192 #[own_jv q0, .second, own_jv q1, .second, own_jv q2, .second, iv p3, iv p4, iv p5, iv (1 : Int32), iv (2 : Int32), iv (1 : Int32), rv b354, rv b363, rv b367, rv b354, .unset] [(.ref b354)]))
        refine own_st (fun _ k => XS.iconst X453.here hx rfl (hb hby at_192) k) ?_
        show own_Goes p e below s _ _ (T453.setTop (mkF m 193 #[own_jv q0, .second, own_jv q1, .second, own_jv q2, .second, iv p3, iv p4, iv p5, iv (1 : Int32), iv (2 : Int32), iv (1 : Int32), rv b354, rv b363, rv b367, rv b354, .unset] [(.int (2 : Int32)), (.ref b354)]))
        obtain ⟨v454, T454, L454, X454, Q454, st454⟩ := own_callV X453 hx hZ (C := "com/example/reach2/reach2/model/CodedColumn") (y := (⟨"com/example/reach2/reach2/model/CodedColumn", "get", "(I)J"⟩ : MethodName)) hown (hw _ (List.mem_of_getElem? (i := 43) rfl)) (hw _ (List.mem_of_getElem? (i := 44) rfl)) (hw _ (List.mem_of_getElem? (i := 46) rfl)) (hw _ (List.mem_of_getElem? (i := 45) rfl)) (hw _ (List.mem_of_getElem? (i := 3) rfl)) (hw _ (List.mem_of_getElem? (i := 47) rfl)) (by decide) (W := 0) (rest := []) (argsL := [(.int (2 : Int32))]) (a := b354) (rmGet l Z a0 hw [] b354 (2 : Int32) _ _ _ _ T443.heap n0 (by omega) f448 f449 Vt443 f450 (by decide)) (by decide) (by decide) (by decide) (by decide) e453 f451 own_pd6 rfl (g := (mkF m 193 #[own_jv q0, .second, own_jv q1, .second, own_jv q2, .second, iv p3, iv p4, iv p5, iv (1 : Int32), iv (2 : Int32), iv (1 : Int32), rv b354, rv b363, rv b367, rv b354, .unset] [(.int (2 : Int32)), (.ref b354)])) rfl (by rw [hml]; rfl) rfl (by show 2 * 0 + _ ≤ _; exact Nat.le_of_eq rfl) (hb hby at_193)
        obtain ⟨g454, rfl, hg454, N454q, e454⟩ := Q454
        obtain rfl : q1 = g454 := (hg454.trans (own_at2 (by omega) ((rf361 _ (by omega)).trans re359))).symm
        have N454 := Fr.app N453 N454q
        refine own_st st454 ?_
        show own_Goes p e below s _ _ (T454.setTop (mkF m 196 #[own_jv q0, .second, own_jv q1, .second, own_jv q2, .second, iv p3, iv p4, iv p5, iv (1 : Int32), iv (2 : Int32), iv (1 : Int32), rv b354, rv b363, rv b367, rv b354, .unset] [(.long q1)]))
        refine own_st (fun _ k => XS.aload X454.here hx rfl (hb hby at_196) rfl rfl  k) ?_
        show own_Goes p e below s _ _ (T454.setTop (mkF m 198 #[own_jv q0, .second, own_jv q1, .second, own_jv q2, .second, iv p3, iv p4, iv p5, iv (1 : Int32), iv (2 : Int32), iv (1 : Int32), rv b354, rv b363, rv b367, rv b354, .unset] [(.ref b367), (.long q1)]))
        refine own_st (fun _ k => XS.iconst X454.here hx rfl (hb hby at_198) k) ?_
        show own_Goes p e below s _ _ (T454.setTop (mkF m 199 #[own_jv q0, .second, own_jv q1, .second, own_jv q2, .second, iv p3, iv p4, iv p5, iv (1 : Int32), iv (2 : Int32), iv (1 : Int32), rv b354, rv b363, rv b367, rv b354, .unset] [(.int (2 : Int32)), (.ref b367), (.long q1)]))
        refine own_st (fun _ k => own_ldJ X454 hx hZ e454 f452 (j := (2 : Int32)) (by decide) (g := (mkF m 199 #[own_jv q0, .second, own_jv q1, .second, own_jv q2, .second, iv p3, iv p4, iv p5, iv (1 : Int32), iv (2 : Int32), iv (1 : Int32), rv b354, rv b363, rv b367, rv b354, .unset] [(.int (2 : Int32)), (.ref b367), (.long q1)])) rfl rfl (hb hby at_199) _ k) ?_
        show own_Goes p e below s _ _ (T454.setTop (mkF m 200 #[own_jv q0, .second, own_jv q1, .second, own_jv q2, .second, iv p3, iv p4, iv p5, iv (1 : Int32), iv (2 : Int32), iv (1 : Int32), rv b354, rv b363, rv b367, rv b354, .unset] [(.long q1), (.long q1)]))
        refine own_st (fun _ k => XS.lcmp X454.here hx rfl (hb hby at_200) rfl k) ?_
        show own_Goes p e below s _ _ (T454.setTop (mkF m 201 #[own_jv q0, .second, own_jv q1, .second, own_jv q2, .second, iv p3, iv p4, iv p5, iv (1 : Int32), iv (2 : Int32), iv (1 : Int32), rv b354, rv b363, rv b367, rv b354, .unset] [(.int (lcmpW q1 q1))]))
        refine own_st (fun _ k => XS.ifNo X454.here hx rfl (hb hby at_201) rfl ((if0 _ _).trans (teq ((lw_eq _ _).mpr (rfl : q1 = q1))).2) k) ?_
        show own_Goes p e below s _ _ (T454.setTop (mkF m 204 #[own_jv q0, .second, own_jv q1, .second, own_jv q2, .second, iv p3, iv p4, iv p5, iv (1 : Int32), iv (2 : Int32), iv (1 : Int32), rv b354, rv b363, rv b367, rv b354, .unset] []))
        refine own_st (fun _ k => XS.iconst X454.here hx rfl (hb hby at_204) k) ?_
        show own_Goes p e below s _ _ (T454.setTop (mkF m 205 #[own_jv q0, .second, own_jv q1, .second, own_jv q2, .second, iv p3, iv p4, iv p5, iv (1 : Int32), iv (2 : Int32), iv (1 : Int32), rv b354, rv b363, rv b367, rv b354, .unset] [(.int (1 : Int32))]))
        refine own_st (fun _ k => XS.goto X454.here hx rfl (pc0 := 205) (pc' := 209) rfl (hb hby at_205) (by decide) (by decide) k) ?_
        show own_Goes p e below s _ _ (T454.setTop (mkF m 209 #[own_jv q0, .second, own_jv q1, .second, own_jv q2, .second, iv p3, iv p4, iv p5, iv (1 : Int32), iv (2 : Int32), iv (1 : Int32), rv b354, rv b363, rv b367, rv b354, .unset] [(.int (1 : Int32))]))
        refine own_st (fun _ k => XS.istore X454.here hx rfl (hb hby at_209) rfl (l' := #[own_jv q0, .second, own_jv q1, .second, own_jv q2, .second, iv p3, iv p4, iv p5, iv (1 : Int32), iv (2 : Int32), iv (1 : Int32), rv b354, rv b363, rv b367, rv b354, iv (1 : Int32)]) rfl k) ?_
        show own_Goes p e below s _ _ (T454.setTop (mkF m 211 #[own_jv q0, .second, own_jv q1, .second, own_jv q2, .second, iv p3, iv p4, iv p5, iv (1 : Int32), iv (2 : Int32), iv (1 : Int32), rv b354, rv b363, rv b367, rv b354, iv (1 : Int32)] []))
        refine own_st (fun _ k => XS.iload X454.here hx rfl (hb hby at_211) rfl  k) ?_
        show own_Goes p e below s _ _ (T454.setTop (mkF m 213 #[own_jv q0, .second, own_jv q1, .second, own_jv q2, .second, iv p3, iv p4, iv p5, iv (1 : Int32), iv (2 : Int32), iv (1 : Int32), rv b354, rv b363, rv b367, rv b354, iv (1 : Int32)] [(.int (1 : Int32))]))
        refine own_st (fun _ k => XS.ifYes X454.here hx rfl (pc0 := 213) (pc' := 262) rfl (hb hby at_213) rfl ((if0 _ _).trans (feq (by decide : ¬ ((1 : Int32) = (0 : Int32)))).2) (by decide) (by decide) k) ?_
        show own_Goes p e below s _ _ (T454.setTop (mkF m 262 #[own_jv q0, .second, own_jv q1, .second, own_jv q2, .second, iv p3, iv p4, iv p5, iv (1 : Int32), iv (2 : Int32), iv (1 : Int32), rv b354, rv b363, rv b367, rv b354, iv (1 : Int32)] []))
        refine own_st (fun _ k => XS.iload X454.here hx rfl (hb hby at_262) rfl  k) ?_
        show own_Goes p e below s _ _ (T454.setTop (mkF m 264 #[own_jv q0, .second, own_jv q1, .second, own_jv q2, .second, iv p3, iv p4, iv p5, iv (1 : Int32), iv (2 : Int32), iv (1 : Int32), rv b354, rv b363, rv b367, rv b354, iv (1 : Int32)] [(.int (1 : Int32))]))
        exact own_retN X454 hx hlk (1 : Int32) hret (Or.inl rfl) rfl (hb hby at_264) (by decide) (by decide) ⟨rfl, N454⟩
    · show own_Goes p e below s _ _ (T370.setTop (mkF m 141 #[own_jv q0, .second, own_jv q1, .second, own_jv q2, .second, iv p3, iv p4, iv p5, iv (2 : Int32), iv to, iv (1 : Int32), rv b354, rv b363, rv b367, rv b354, .unset] []))
      rcases own_3 hto with rfl | rfl | rfl
      · show own_Goes p e below s _ _ (T370.setTop (mkF m 141 #[own_jv q0, .second, own_jv q1, .second, own_jv q2, .second, iv p3, iv p4, iv p5, iv (2 : Int32), iv (0 : Int32), iv (1 : Int32), rv b354, rv b363, rv b367, rv b354, .unset] []))
        refine own_st (fun _ k => XS.aload X370.here hx rfl (hb hby at_141) rfl rfl  k) ?_
        show own_Goes p e below s _ _ (T370.setTop (mkF m 143 #[own_jv q0, .second, own_jv q1, .second, own_jv q2, .second, iv p3, iv p4, iv p5, iv (2 : Int32), iv (0 : Int32), iv (1 : Int32), rv b354, rv b363, rv b367, rv b354, .unset] [(.ref b367)]))
        refine own_st (fun _ k => XS.iload X370.here hx rfl (hb hby at_143) rfl  k) ?_
        show own_Goes p e below s _ _ (T370.setTop (mkF m 145 #[own_jv q0, .second, own_jv q1, .second, own_jv q2, .second, iv p3, iv p4, iv p5, iv (2 : Int32), iv (0 : Int32), iv (1 : Int32), rv b354, rv b363, rv b367, rv b354, .unset] [(.int (0 : Int32)), (.ref b367)]))
        refine own_st (fun _ k => XS.aload X370.here hx rfl (hb hby at_145) rfl rfl  k) ?_
        show own_Goes p e below s _ _ (T370.setTop (mkF m 147 #[own_jv q0, .second, own_jv q1, .second, own_jv q2, .second, iv p3, iv p4, iv p5, iv (2 : Int32), iv (0 : Int32), iv (1 : Int32), rv b354, rv b363, rv b367, rv b354, .unset] [(.ref b363), (.int (0 : Int32)), (.ref b367)]))
        refine own_st (fun _ k => XS.iload X370.here hx rfl (hb hby at_147) rfl  k) ?_
        show own_Goes p e below s _ _ (T370.setTop (mkF m 149 #[own_jv q0, .second, own_jv q1, .second, own_jv q2, .second, iv p3, iv p4, iv p5, iv (2 : Int32), iv (0 : Int32), iv (1 : Int32), rv b354, rv b363, rv b367, rv b354, .unset] [(.int (2 : Int32)), (.ref b363), (.int (0 : Int32)), (.ref b367)]))
        have f455 := ((((V366.ext E367).other W368 (own_ne (by omega))).other W369 (own_ne (by omega))).other W370 (own_ne (by omega)))
        refine own_st (fun _ k => own_ldJ X370 hx hZ e370 f455 (j := (2 : Int32)) (by decide) (g := (mkF m 149 #[own_jv q0, .second, own_jv q1, .second, own_jv q2, .second, iv p3, iv p4, iv p5, iv (2 : Int32), iv (0 : Int32), iv (1 : Int32), rv b354, rv b363, rv b367, rv b354, .unset] [(.int (2 : Int32)), (.ref b363), (.int (0 : Int32)), (.ref b367)])) rfl rfl (hb hby at_149) _ k) ?_
        show own_Goes p e below s _ _ (T370.setTop (mkF m 150 #[own_jv q0, .second, own_jv q1, .second, own_jv q2, .second, iv p3, iv p4, iv p5, iv (2 : Int32), iv (0 : Int32), iv (1 : Int32), rv b354, rv b363, rv b367, rv b354, .unset] [(.long q2), (.int (0 : Int32)), (.ref b367)]))
        obtain ⟨T456, h456, X456, e456, W456, A456, st456⟩ := own_stJ X370 hx hZ e370 V370 (j := (0 : Int32)) (by decide) (g := (mkF m 150 #[own_jv q0, .second, own_jv q1, .second, own_jv q2, .second, iv p3, iv p4, iv p5, iv (2 : Int32), iv (0 : Int32), iv (1 : Int32), rv b354, rv b363, rv b367, rv b354, .unset] [(.long q2), (.int (0 : Int32)), (.ref b367)])) rfl rfl (hb hby at_150)
        have V456 : own_Arf Z h456 b367 .long 3 (fun k => .long ((fun k => if k = 0 then q2 else (fun k => if k = 2 then q2 else (fun k => if k = 1 then q1 else (fun k => if k = 0 then q0 else (fun _ => (0 : Int64)) k) k) k) k) k)) := A456
        have z456 := W456.size
        have N456 := Fr.snoc X456 N370 (by omega)
        refine own_st st456 ?_
        show own_Goes p e below s _ _ (T456.setTop (mkF m 151 #[own_jv q0, .second, own_jv q1, .second, own_jv q2, .second, iv p3, iv p4, iv p5, iv (2 : Int32), iv (0 : Int32), iv (1 : Int32), rv b354, rv b363, rv b367, rv b354, .unset] []))
        refine own_st (fun _ k => XS.aload X456.here hx rfl (hb hby at_151) rfl rfl  k) ?_
        show own_Goes p e below s _ _ (T456.setTop (mkF m 153 #[own_jv q0, .second, own_jv q1, .second, own_jv q2, .second, iv p3, iv p4, iv p5, iv (2 : Int32), iv (0 : Int32), iv (1 : Int32), rv b354, rv b363, rv b367, rv b354, .unset] [(.ref b354)]))
        refine own_st (fun _ k => XS.iload X456.here hx rfl (hb hby at_153) rfl  k) ?_
        show own_Goes p e below s _ _ (T456.setTop (mkF m 155 #[own_jv q0, .second, own_jv q1, .second, own_jv q2, .second, iv p3, iv p4, iv p5, iv (2 : Int32), iv (0 : Int32), iv (1 : Int32), rv b354, rv b363, rv b367, rv b354, .unset] [(.int (2 : Int32)), (.ref b354)]))
        refine own_st (fun _ k => XS.aload X456.here hx rfl (hb hby at_155) rfl rfl  k) ?_
        show own_Goes p e below s _ _ (T456.setTop (mkF m 157 #[own_jv q0, .second, own_jv q1, .second, own_jv q2, .second, iv p3, iv p4, iv p5, iv (2 : Int32), iv (0 : Int32), iv (1 : Int32), rv b354, rv b363, rv b367, rv b354, .unset] [(.ref b354), (.int (2 : Int32)), (.ref b354)]))
        refine own_st (fun _ k => XS.iload X456.here hx rfl (hb hby at_157) rfl  k) ?_
        show own_Goes p e below s _ _ (T456.setTop (mkF m 159 #[own_jv q0, .second, own_jv q1, .second, own_jv q2, .second, iv p3, iv p4, iv p5, iv (2 : Int32), iv (0 : Int32), iv (1 : Int32), rv b354, rv b363, rv b367, rv b354, .unset] [(.int (0 : Int32)), (.ref b354), (.int (2 : Int32)), (.ref b354)]))
        have f458 := (((((((((Fc361.ext E363).other W364 (Or.inl (own_ne (by omega)))).other W365 (Or.inl (own_ne (by omega)))).other W366 (Or.inl (own_ne (by omega)))).ext E367).other W368 (Or.inl (own_ne (by omega)))).other W369 (Or.inl (own_ne (by omega)))).other W370 (Or.inl (own_ne (by omega)))).other W456 (Or.inl (own_ne (by omega))))
        have f459 := (((((((((Vd361.ext E363).other W364 (own_ne (by omega))).other W365 (own_ne (by omega))).other W366 (own_ne (by omega))).ext E367).other W368 (own_ne (by omega))).other W369 (own_ne (by omega))).other W370 (own_ne (by omega))).other W456 (own_ne (by omega)))
        have f460 := (((((((((A361.ext E363).wr W364).wr W365).wr W366).ext E367).wr W368).wr W369).wr W370).wr W456)
        obtain ⟨v457, T457, L457, X457, Q457, st457⟩ := own_callV X456 hx hZ (C := "com/example/reach2/reach2/model/CodedColumn") (y := (⟨"com/example/reach2/reach2/model/CodedColumn", "copyTo", "(ILcom/example/reach2/reach2/model/CodedColumn;I)V"⟩ : MethodName)) hown (hw _ (List.mem_of_getElem? (i := 38) rfl)) (hw _ (List.mem_of_getElem? (i := 39) rfl)) (hw _ (List.mem_of_getElem? (i := 41) rfl)) (hw _ (List.mem_of_getElem? (i := 40) rfl)) (hw _ (List.mem_of_getElem? (i := 3) rfl)) (hw _ (List.mem_of_getElem? (i := 42) rfl)) (by decide) (W := 0) (rest := []) (argsL := [(.int (2 : Int32)), (.ref b354), (.int (0 : Int32))]) (a := b354) (rmCT l Z a0 hw [] b354 (2 : Int32) b354 (0 : Int32) ac355 ac355 _ _ h456 n0 (by omega) f458 f458 f459 f459 (by decide) (by decide) (by omega)) (by decide) (by decide) (by decide) (by decide) e456 f460 own_pd5 rfl (g := (mkF m 159 #[own_jv q0, .second, own_jv q1, .second, own_jv q2, .second, iv p3, iv p4, iv p5, iv (2 : Int32), iv (0 : Int32), iv (1 : Int32), rv b354, rv b363, rv b367, rv b354, .unset] [(.int (0 : Int32)), (.ref b354), (.int (2 : Int32)), (.ref b354)])) rfl (by rw [hml]; rfl) rfl (by show 2 * 0 + _ ≤ _; exact Nat.le_of_eq rfl) (hb hby at_159)
        obtain ⟨rfl, N457q, K457, V457⟩ := Q457
        have z457 := K457.1
        have Vt457 : own_Arf Z T457.heap ac355 .byte 3 (fun k => .int ((fun k => if k = 0 then (nar .byte (nar .byte (r361.toInt8.toInt32))) else (fun k => if k = 2 then (nar .byte (r361.toInt8.toInt32)) else (fun k => if k = 1 then (nar .byte (r359.toInt8.toInt32)) else (fun k => if k = 0 then (nar .byte (r356.toInt8.toInt32)) else (fun _ => (0 : Int32)) k) k) k) k) k)) := V457
        have N457 := Fr.app N456 N457q
        refine own_st st457 ?_
        show own_Goes p e below s _ _ (T457.setTop (mkF m 162 #[own_jv q0, .second, own_jv q1, .second, own_jv q2, .second, iv p3, iv p4, iv p5, iv (2 : Int32), iv (0 : Int32), iv (1 : Int32), rv b354, rv b363, rv b367, rv b354, .unset] []))
        refine own_st (fun _ k => XS.aload X457.here hx rfl (hb hby at_162) rfl rfl  k) ?_
        show own_Goes p e below s _ _ (T457.setTop (mkF m 164 #[own_jv q0, .second, own_jv q1, .second, own_jv q2, .second, iv p3, iv p4, iv p5, iv (2 : Int32), iv (0 : Int32), iv (1 : Int32), rv b354, rv b363, rv b367, rv b354, .unset] [(.ref b354)]))
        refine own_st (fun _ k => XS.iconst X457.here hx rfl (hb hby at_164) k) ?_
        show own_Goes p e below s _ _ (T457.setTop (mkF m 165 #[own_jv q0, .second, own_jv q1, .second, own_jv q2, .second, iv p3, iv p4, iv p5, iv (2 : Int32), iv (0 : Int32), iv (1 : Int32), rv b354, rv b363, rv b367, rv b354, .unset] [(.int (0 : Int32)), (.ref b354)]))
        have f462 := (f458.keep K457 (ninS (own_ne (by omega)) nin0))
        have f463 := ((((((((((Fv361.ext E363).other W364 (Or.inl (own_ne (by omega)))).other W365 (Or.inl (own_ne (by omega)))).other W366 (Or.inl (own_ne (by omega)))).ext E367).other W368 (Or.inl (own_ne (by omega)))).other W369 (Or.inl (own_ne (by omega)))).other W370 (Or.inl (own_ne (by omega)))).other W456 (Or.inl (own_ne (by omega)))).keep K457 (ninS (own_ne (by omega)) nin0))
        have f464 := ((((((((((Vv361.ext E363).other W364 (own_ne (by omega))).other W365 (own_ne (by omega))).other W366 (own_ne (by omega))).ext E367).other W368 (own_ne (by omega))).other W369 (own_ne (by omega))).other W370 (own_ne (by omega))).other W456 (own_ne (by omega))).keep K457 (ninS (own_ne (by omega)) nin0))
        have f465 := (f460.keep K457)
        obtain ⟨v461, T461, L461, X461, Q461, st461⟩ := own_callV X457 hx hZ (C := "com/example/reach2/reach2/model/CodedColumn") (y := (⟨"com/example/reach2/reach2/model/CodedColumn", "get", "(I)J"⟩ : MethodName)) hown (hw _ (List.mem_of_getElem? (i := 43) rfl)) (hw _ (List.mem_of_getElem? (i := 44) rfl)) (hw _ (List.mem_of_getElem? (i := 46) rfl)) (hw _ (List.mem_of_getElem? (i := 45) rfl)) (hw _ (List.mem_of_getElem? (i := 3) rfl)) (hw _ (List.mem_of_getElem? (i := 47) rfl)) (by decide) (W := 0) (rest := []) (argsL := [(.int (0 : Int32))]) (a := b354) (rmGet l Z a0 hw [] b354 (0 : Int32) _ _ _ _ T457.heap n0 (by omega) f462 f463 Vt457 f464 (by decide)) (by decide) (by decide) (by decide) (by decide) rfl f465 own_pd6 rfl (g := (mkF m 165 #[own_jv q0, .second, own_jv q1, .second, own_jv q2, .second, iv p3, iv p4, iv p5, iv (2 : Int32), iv (0 : Int32), iv (1 : Int32), rv b354, rv b363, rv b367, rv b354, .unset] [(.int (0 : Int32)), (.ref b354)])) rfl (by rw [hml]; rfl) rfl (by show 2 * 0 + _ ≤ _; exact Nat.le_of_eq rfl) (hb hby at_165)
        obtain ⟨g461, rfl, hg461, N461q, e461⟩ := Q461
        obtain rfl : q2 = g461 := (hg461.trans (own_at2 (by omega) re361)).symm
        have N461 := Fr.app N457 N461q
        refine own_st st461 ?_
        show own_Goes p e below s _ _ (T461.setTop (mkF m 168 #[own_jv q0, .second, own_jv q1, .second, own_jv q2, .second, iv p3, iv p4, iv p5, iv (2 : Int32), iv (0 : Int32), iv (1 : Int32), rv b354, rv b363, rv b367, rv b354, .unset] [(.long q2)]))
        refine own_st (fun _ k => XS.aload X461.here hx rfl (hb hby at_168) rfl rfl  k) ?_
        show own_Goes p e below s _ _ (T461.setTop (mkF m 170 #[own_jv q0, .second, own_jv q1, .second, own_jv q2, .second, iv p3, iv p4, iv p5, iv (2 : Int32), iv (0 : Int32), iv (1 : Int32), rv b354, rv b363, rv b367, rv b354, .unset] [(.ref b367), (.long q2)]))
        refine own_st (fun _ k => XS.iconst X461.here hx rfl (hb hby at_170) k) ?_
        show own_Goes p e below s _ _ (T461.setTop (mkF m 171 #[own_jv q0, .second, own_jv q1, .second, own_jv q2, .second, iv p3, iv p4, iv p5, iv (2 : Int32), iv (0 : Int32), iv (1 : Int32), rv b354, rv b363, rv b367, rv b354, .unset] [(.int (0 : Int32)), (.ref b367), (.long q2)]))
        have f466 := (V456.keep K457 (ninS (own_ne (by omega)) nin0))
        refine own_st (fun _ k => own_ldJ X461 hx hZ e461 f466 (j := (0 : Int32)) (by decide) (g := (mkF m 171 #[own_jv q0, .second, own_jv q1, .second, own_jv q2, .second, iv p3, iv p4, iv p5, iv (2 : Int32), iv (0 : Int32), iv (1 : Int32), rv b354, rv b363, rv b367, rv b354, .unset] [(.int (0 : Int32)), (.ref b367), (.long q2)])) rfl rfl (hb hby at_171) _ k) ?_
        show own_Goes p e below s _ _ (T461.setTop (mkF m 172 #[own_jv q0, .second, own_jv q1, .second, own_jv q2, .second, iv p3, iv p4, iv p5, iv (2 : Int32), iv (0 : Int32), iv (1 : Int32), rv b354, rv b363, rv b367, rv b354, .unset] [(.long q2), (.long q2)]))
        refine own_st (fun _ k => XS.lcmp X461.here hx rfl (hb hby at_172) rfl k) ?_
        show own_Goes p e below s _ _ (T461.setTop (mkF m 173 #[own_jv q0, .second, own_jv q1, .second, own_jv q2, .second, iv p3, iv p4, iv p5, iv (2 : Int32), iv (0 : Int32), iv (1 : Int32), rv b354, rv b363, rv b367, rv b354, .unset] [(.int (lcmpW q2 q2))]))
        refine own_st (fun _ k => XS.ifNo X461.here hx rfl (hb hby at_173) rfl ((if0 _ _).trans (teq ((lw_eq _ _).mpr (rfl : q2 = q2))).2) k) ?_
        show own_Goes p e below s _ _ (T461.setTop (mkF m 176 #[own_jv q0, .second, own_jv q1, .second, own_jv q2, .second, iv p3, iv p4, iv p5, iv (2 : Int32), iv (0 : Int32), iv (1 : Int32), rv b354, rv b363, rv b367, rv b354, .unset] []))
        refine own_st (fun _ k => XS.aload X461.here hx rfl (hb hby at_176) rfl rfl  k) ?_
        show own_Goes p e below s _ _ (T461.setTop (mkF m 178 #[own_jv q0, .second, own_jv q1, .second, own_jv q2, .second, iv p3, iv p4, iv p5, iv (2 : Int32), iv (0 : Int32), iv (1 : Int32), rv b354, rv b363, rv b367, rv b354, .unset] [(.ref b354)]))
        refine own_st (fun _ k => XS.iconst X461.here hx rfl (hb hby at_178) k) ?_
        show own_Goes p e below s _ _ (T461.setTop (mkF m 179 #[own_jv q0, .second, own_jv q1, .second, own_jv q2, .second, iv p3, iv p4, iv p5, iv (2 : Int32), iv (0 : Int32), iv (1 : Int32), rv b354, rv b363, rv b367, rv b354, .unset] [(.int (1 : Int32)), (.ref b354)]))
        obtain ⟨v467, T467, L467, X467, Q467, st467⟩ := own_callV X461 hx hZ (C := "com/example/reach2/reach2/model/CodedColumn") (y := (⟨"com/example/reach2/reach2/model/CodedColumn", "get", "(I)J"⟩ : MethodName)) hown (hw _ (List.mem_of_getElem? (i := 43) rfl)) (hw _ (List.mem_of_getElem? (i := 44) rfl)) (hw _ (List.mem_of_getElem? (i := 46) rfl)) (hw _ (List.mem_of_getElem? (i := 45) rfl)) (hw _ (List.mem_of_getElem? (i := 3) rfl)) (hw _ (List.mem_of_getElem? (i := 47) rfl)) (by decide) (W := 0) (rest := []) (argsL := [(.int (1 : Int32))]) (a := b354) (rmGet l Z a0 hw [] b354 (1 : Int32) _ _ _ _ T457.heap n0 (by omega) f462 f463 Vt457 f464 (by decide)) (by decide) (by decide) (by decide) (by decide) e461 f465 own_pd6 rfl (g := (mkF m 179 #[own_jv q0, .second, own_jv q1, .second, own_jv q2, .second, iv p3, iv p4, iv p5, iv (2 : Int32), iv (0 : Int32), iv (1 : Int32), rv b354, rv b363, rv b367, rv b354, .unset] [(.int (1 : Int32)), (.ref b354)])) rfl (by rw [hml]; rfl) rfl (by show 2 * 0 + _ ≤ _; exact Nat.le_of_eq rfl) (hb hby at_179)
        obtain ⟨g467, rfl, hg467, N467q, e467⟩ := Q467
        obtain rfl : q1 = g467 := (hg467.trans (own_at (by omega) ((rf361 _ (by omega)).trans re359))).symm
        have N467 := Fr.app N461 N467q
        refine own_st st467 ?_
        show own_Goes p e below s _ _ (T467.setTop (mkF m 182 #[own_jv q0, .second, own_jv q1, .second, own_jv q2, .second, iv p3, iv p4, iv p5, iv (2 : Int32), iv (0 : Int32), iv (1 : Int32), rv b354, rv b363, rv b367, rv b354, .unset] [(.long q1)]))
        refine own_st (fun _ k => XS.aload X467.here hx rfl (hb hby at_182) rfl rfl  k) ?_
        show own_Goes p e below s _ _ (T467.setTop (mkF m 184 #[own_jv q0, .second, own_jv q1, .second, own_jv q2, .second, iv p3, iv p4, iv p5, iv (2 : Int32), iv (0 : Int32), iv (1 : Int32), rv b354, rv b363, rv b367, rv b354, .unset] [(.ref b367), (.long q1)]))
        refine own_st (fun _ k => XS.iconst X467.here hx rfl (hb hby at_184) k) ?_
        show own_Goes p e below s _ _ (T467.setTop (mkF m 185 #[own_jv q0, .second, own_jv q1, .second, own_jv q2, .second, iv p3, iv p4, iv p5, iv (2 : Int32), iv (0 : Int32), iv (1 : Int32), rv b354, rv b363, rv b367, rv b354, .unset] [(.int (1 : Int32)), (.ref b367), (.long q1)]))
        refine own_st (fun _ k => own_ldJ X467 hx hZ e467 f466 (j := (1 : Int32)) (by decide) (g := (mkF m 185 #[own_jv q0, .second, own_jv q1, .second, own_jv q2, .second, iv p3, iv p4, iv p5, iv (2 : Int32), iv (0 : Int32), iv (1 : Int32), rv b354, rv b363, rv b367, rv b354, .unset] [(.int (1 : Int32)), (.ref b367), (.long q1)])) rfl rfl (hb hby at_185) _ k) ?_
        show own_Goes p e below s _ _ (T467.setTop (mkF m 186 #[own_jv q0, .second, own_jv q1, .second, own_jv q2, .second, iv p3, iv p4, iv p5, iv (2 : Int32), iv (0 : Int32), iv (1 : Int32), rv b354, rv b363, rv b367, rv b354, .unset] [(.long q1), (.long q1)]))
        refine own_st (fun _ k => XS.lcmp X467.here hx rfl (hb hby at_186) rfl k) ?_
        show own_Goes p e below s _ _ (T467.setTop (mkF m 187 #[own_jv q0, .second, own_jv q1, .second, own_jv q2, .second, iv p3, iv p4, iv p5, iv (2 : Int32), iv (0 : Int32), iv (1 : Int32), rv b354, rv b363, rv b367, rv b354, .unset] [(.int (lcmpW q1 q1))]))
        refine own_st (fun _ k => XS.ifNo X467.here hx rfl (hb hby at_187) rfl ((if0 _ _).trans (teq ((lw_eq _ _).mpr (rfl : q1 = q1))).2) k) ?_
        show own_Goes p e below s _ _ (T467.setTop (mkF m 190 #[own_jv q0, .second, own_jv q1, .second, own_jv q2, .second, iv p3, iv p4, iv p5, iv (2 : Int32), iv (0 : Int32), iv (1 : Int32), rv b354, rv b363, rv b367, rv b354, .unset] []))
        refine own_st (fun _ k => XS.aload X467.here hx rfl (hb hby at_190) rfl rfl  k) ?_
        show own_Goes p e below s _ _ (T467.setTop (mkF m 192 #[own_jv q0, .second, own_jv q1, .second, own_jv q2, .second, iv p3, iv p4, iv p5, iv (2 : Int32), iv (0 : Int32), iv (1 : Int32), rv b354, rv b363, rv b367, rv b354, .unset] [(.ref b354)]))
        refine own_st (fun _ k => XS.iconst X467.here hx rfl (hb hby at_192) k) ?_
        show own_Goes p e below s _ _ (T467.setTop (mkF m 193 #[own_jv q0, .second, own_jv q1, .second, own_jv q2, .second, iv p3, iv p4, iv p5, iv (2 : Int32), iv (0 : Int32), iv (1 : Int32), rv b354, rv b363, rv b367, rv b354, .unset] [(.int (2 : Int32)), (.ref b354)]))
        obtain ⟨v468, T468, L468, X468, Q468, st468⟩ := own_callV X467 hx hZ (C := "com/example/reach2/reach2/model/CodedColumn") (y := (⟨"com/example/reach2/reach2/model/CodedColumn", "get", "(I)J"⟩ : MethodName)) hown (hw _ (List.mem_of_getElem? (i := 43) rfl)) (hw _ (List.mem_of_getElem? (i := 44) rfl)) (hw _ (List.mem_of_getElem? (i := 46) rfl)) (hw _ (List.mem_of_getElem? (i := 45) rfl)) (hw _ (List.mem_of_getElem? (i := 3) rfl)) (hw _ (List.mem_of_getElem? (i := 47) rfl)) (by decide) (W := 0) (rest := []) (argsL := [(.int (2 : Int32))]) (a := b354) (rmGet l Z a0 hw [] b354 (2 : Int32) _ _ _ _ T457.heap n0 (by omega) f462 f463 Vt457 f464 (by decide)) (by decide) (by decide) (by decide) (by decide) e467 f465 own_pd6 rfl (g := (mkF m 193 #[own_jv q0, .second, own_jv q1, .second, own_jv q2, .second, iv p3, iv p4, iv p5, iv (2 : Int32), iv (0 : Int32), iv (1 : Int32), rv b354, rv b363, rv b367, rv b354, .unset] [(.int (2 : Int32)), (.ref b354)])) rfl (by rw [hml]; rfl) rfl (by show 2 * 0 + _ ≤ _; exact Nat.le_of_eq rfl) (hb hby at_193)
        obtain ⟨g468, rfl, hg468, N468q, e468⟩ := Q468
        obtain rfl : q2 = g468 := (hg468.trans (own_at (by omega) re361)).symm
        have N468 := Fr.app N467 N468q
        refine own_st st468 ?_
        show own_Goes p e below s _ _ (T468.setTop (mkF m 196 #[own_jv q0, .second, own_jv q1, .second, own_jv q2, .second, iv p3, iv p4, iv p5, iv (2 : Int32), iv (0 : Int32), iv (1 : Int32), rv b354, rv b363, rv b367, rv b354, .unset] [(.long q2)]))
        refine own_st (fun _ k => XS.aload X468.here hx rfl (hb hby at_196) rfl rfl  k) ?_
        show own_Goes p e below s _ _ (T468.setTop (mkF m 198 #[own_jv q0, .second, own_jv q1, .second, own_jv q2, .second, iv p3, iv p4, iv p5, iv (2 : Int32), iv (0 : Int32), iv (1 : Int32), rv b354, rv b363, rv b367, rv b354, .unset] [(.ref b367), (.long q2)]))
        refine own_st (fun _ k => XS.iconst X468.here hx rfl (hb hby at_198) k) ?_
        show own_Goes p e below s _ _ (T468.setTop (mkF m 199 #[own_jv q0, .second, own_jv q1, .second, own_jv q2, .second, iv p3, iv p4, iv p5, iv (2 : Int32), iv (0 : Int32), iv (1 : Int32), rv b354, rv b363, rv b367, rv b354, .unset] [(.int (2 : Int32)), (.ref b367), (.long q2)]))
        refine own_st (fun _ k => own_ldJ X468 hx hZ e468 f466 (j := (2 : Int32)) (by decide) (g := (mkF m 199 #[own_jv q0, .second, own_jv q1, .second, own_jv q2, .second, iv p3, iv p4, iv p5, iv (2 : Int32), iv (0 : Int32), iv (1 : Int32), rv b354, rv b363, rv b367, rv b354, .unset] [(.int (2 : Int32)), (.ref b367), (.long q2)])) rfl rfl (hb hby at_199) _ k) ?_
        show own_Goes p e below s _ _ (T468.setTop (mkF m 200 #[own_jv q0, .second, own_jv q1, .second, own_jv q2, .second, iv p3, iv p4, iv p5, iv (2 : Int32), iv (0 : Int32), iv (1 : Int32), rv b354, rv b363, rv b367, rv b354, .unset] [(.long q2), (.long q2)]))
        refine own_st (fun _ k => XS.lcmp X468.here hx rfl (hb hby at_200) rfl k) ?_
        show own_Goes p e below s _ _ (T468.setTop (mkF m 201 #[own_jv q0, .second, own_jv q1, .second, own_jv q2, .second, iv p3, iv p4, iv p5, iv (2 : Int32), iv (0 : Int32), iv (1 : Int32), rv b354, rv b363, rv b367, rv b354, .unset] [(.int (lcmpW q2 q2))]))
        refine own_st (fun _ k => XS.ifNo X468.here hx rfl (hb hby at_201) rfl ((if0 _ _).trans (teq ((lw_eq _ _).mpr (rfl : q2 = q2))).2) k) ?_
        show own_Goes p e below s _ _ (T468.setTop (mkF m 204 #[own_jv q0, .second, own_jv q1, .second, own_jv q2, .second, iv p3, iv p4, iv p5, iv (2 : Int32), iv (0 : Int32), iv (1 : Int32), rv b354, rv b363, rv b367, rv b354, .unset] []))
        refine own_st (fun _ k => XS.iconst X468.here hx rfl (hb hby at_204) k) ?_
        show own_Goes p e below s _ _ (T468.setTop (mkF m 205 #[own_jv q0, .second, own_jv q1, .second, own_jv q2, .second, iv p3, iv p4, iv p5, iv (2 : Int32), iv (0 : Int32), iv (1 : Int32), rv b354, rv b363, rv b367, rv b354, .unset] [(.int (1 : Int32))]))
        refine own_st (fun _ k => XS.goto X468.here hx rfl (pc0 := 205) (pc' := 209) rfl (hb hby at_205) (by decide) (by decide) k) ?_
        show own_Goes p e below s _ _ (T468.setTop (mkF m 209 #[own_jv q0, .second, own_jv q1, .second, own_jv q2, .second, iv p3, iv p4, iv p5, iv (2 : Int32), iv (0 : Int32), iv (1 : Int32), rv b354, rv b363, rv b367, rv b354, .unset] [(.int (1 : Int32))]))
        refine own_st (fun _ k => XS.istore X468.here hx rfl (hb hby at_209) rfl (l' := #[own_jv q0, .second, own_jv q1, .second, own_jv q2, .second, iv p3, iv p4, iv p5, iv (2 : Int32), iv (0 : Int32), iv (1 : Int32), rv b354, rv b363, rv b367, rv b354, iv (1 : Int32)]) rfl k) ?_
        show own_Goes p e below s _ _ (T468.setTop (mkF m 211 #[own_jv q0, .second, own_jv q1, .second, own_jv q2, .second, iv p3, iv p4, iv p5, iv (2 : Int32), iv (0 : Int32), iv (1 : Int32), rv b354, rv b363, rv b367, rv b354, iv (1 : Int32)] []))
        refine own_st (fun _ k => XS.iload X468.here hx rfl (hb hby at_211) rfl  k) ?_
        show own_Goes p e below s _ _ (T468.setTop (mkF m 213 #[own_jv q0, .second, own_jv q1, .second, own_jv q2, .second, iv p3, iv p4, iv p5, iv (2 : Int32), iv (0 : Int32), iv (1 : Int32), rv b354, rv b363, rv b367, rv b354, iv (1 : Int32)] [(.int (1 : Int32))]))
        refine own_st (fun _ k => XS.ifYes X468.here hx rfl (pc0 := 213) (pc' := 262) rfl (hb hby at_213) rfl ((if0 _ _).trans (feq (by decide : ¬ ((1 : Int32) = (0 : Int32)))).2) (by decide) (by decide) k) ?_
        show own_Goes p e below s _ _ (T468.setTop (mkF m 262 #[own_jv q0, .second, own_jv q1, .second, own_jv q2, .second, iv p3, iv p4, iv p5, iv (2 : Int32), iv (0 : Int32), iv (1 : Int32), rv b354, rv b363, rv b367, rv b354, iv (1 : Int32)] []))
        refine own_st (fun _ k => XS.iload X468.here hx rfl (hb hby at_262) rfl  k) ?_
        show own_Goes p e below s _ _ (T468.setTop (mkF m 264 #[own_jv q0, .second, own_jv q1, .second, own_jv q2, .second, iv p3, iv p4, iv p5, iv (2 : Int32), iv (0 : Int32), iv (1 : Int32), rv b354, rv b363, rv b367, rv b354, iv (1 : Int32)] [(.int (1 : Int32))]))
        exact own_retN X468 hx hlk (1 : Int32) hret (Or.inl rfl) rfl (hb hby at_264) (by decide) (by decide) ⟨rfl, N468⟩
      · show own_Goes p e below s _ _ (T370.setTop (mkF m 141 #[own_jv q0, .second, own_jv q1, .second, own_jv q2, .second, iv p3, iv p4, iv p5, iv (2 : Int32), iv (1 : Int32), iv (1 : Int32), rv b354, rv b363, rv b367, rv b354, .unset] []))
        refine own_st (fun _ k => XS.aload X370.here hx rfl (hb hby at_141) rfl rfl  k) ?_
        show own_Goes p e below s _ _ (T370.setTop (mkF m 143 #[own_jv q0, .second, own_jv q1, .second, own_jv q2, .second, iv p3, iv p4, iv p5, iv (2 : Int32), iv (1 : Int32), iv (1 : Int32), rv b354, rv b363, rv b367, rv b354, .unset] [(.ref b367)]))
        refine own_st (fun _ k => XS.iload X370.here hx rfl (hb hby at_143) rfl  k) ?_
        show own_Goes p e below s _ _ (T370.setTop (mkF m 145 #[own_jv q0, .second, own_jv q1, .second, own_jv q2, .second, iv p3, iv p4, iv p5, iv (2 : Int32), iv (1 : Int32), iv (1 : Int32), rv b354, rv b363, rv b367, rv b354, .unset] [(.int (1 : Int32)), (.ref b367)]))
        refine own_st (fun _ k => XS.aload X370.here hx rfl (hb hby at_145) rfl rfl  k) ?_
        show own_Goes p e below s _ _ (T370.setTop (mkF m 147 #[own_jv q0, .second, own_jv q1, .second, own_jv q2, .second, iv p3, iv p4, iv p5, iv (2 : Int32), iv (1 : Int32), iv (1 : Int32), rv b354, rv b363, rv b367, rv b354, .unset] [(.ref b363), (.int (1 : Int32)), (.ref b367)]))
        refine own_st (fun _ k => XS.iload X370.here hx rfl (hb hby at_147) rfl  k) ?_
        show own_Goes p e below s _ _ (T370.setTop (mkF m 149 #[own_jv q0, .second, own_jv q1, .second, own_jv q2, .second, iv p3, iv p4, iv p5, iv (2 : Int32), iv (1 : Int32), iv (1 : Int32), rv b354, rv b363, rv b367, rv b354, .unset] [(.int (2 : Int32)), (.ref b363), (.int (1 : Int32)), (.ref b367)]))
        have f469 := ((((V366.ext E367).other W368 (own_ne (by omega))).other W369 (own_ne (by omega))).other W370 (own_ne (by omega)))
        refine own_st (fun _ k => own_ldJ X370 hx hZ e370 f469 (j := (2 : Int32)) (by decide) (g := (mkF m 149 #[own_jv q0, .second, own_jv q1, .second, own_jv q2, .second, iv p3, iv p4, iv p5, iv (2 : Int32), iv (1 : Int32), iv (1 : Int32), rv b354, rv b363, rv b367, rv b354, .unset] [(.int (2 : Int32)), (.ref b363), (.int (1 : Int32)), (.ref b367)])) rfl rfl (hb hby at_149) _ k) ?_
        show own_Goes p e below s _ _ (T370.setTop (mkF m 150 #[own_jv q0, .second, own_jv q1, .second, own_jv q2, .second, iv p3, iv p4, iv p5, iv (2 : Int32), iv (1 : Int32), iv (1 : Int32), rv b354, rv b363, rv b367, rv b354, .unset] [(.long q2), (.int (1 : Int32)), (.ref b367)]))
        obtain ⟨T470, h470, X470, e470, W470, A470, st470⟩ := own_stJ X370 hx hZ e370 V370 (j := (1 : Int32)) (by decide) (g := (mkF m 150 #[own_jv q0, .second, own_jv q1, .second, own_jv q2, .second, iv p3, iv p4, iv p5, iv (2 : Int32), iv (1 : Int32), iv (1 : Int32), rv b354, rv b363, rv b367, rv b354, .unset] [(.long q2), (.int (1 : Int32)), (.ref b367)])) rfl rfl (hb hby at_150)
        have V470 : own_Arf Z h470 b367 .long 3 (fun k => .long ((fun k => if k = 1 then q2 else (fun k => if k = 2 then q2 else (fun k => if k = 1 then q1 else (fun k => if k = 0 then q0 else (fun _ => (0 : Int64)) k) k) k) k) k)) := A470
        have z470 := W470.size
        have N470 := Fr.snoc X470 N370 (by omega)
        refine own_st st470 ?_
        show own_Goes p e below s _ _ (T470.setTop (mkF m 151 #[own_jv q0, .second, own_jv q1, .second, own_jv q2, .second, iv p3, iv p4, iv p5, iv (2 : Int32), iv (1 : Int32), iv (1 : Int32), rv b354, rv b363, rv b367, rv b354, .unset] []))
        refine own_st (fun _ k => XS.aload X470.here hx rfl (hb hby at_151) rfl rfl  k) ?_
        show own_Goes p e below s _ _ (T470.setTop (mkF m 153 #[own_jv q0, .second, own_jv q1, .second, own_jv q2, .second, iv p3, iv p4, iv p5, iv (2 : Int32), iv (1 : Int32), iv (1 : Int32), rv b354, rv b363, rv b367, rv b354, .unset] [(.ref b354)]))
        refine own_st (fun _ k => XS.iload X470.here hx rfl (hb hby at_153) rfl  k) ?_
        show own_Goes p e below s _ _ (T470.setTop (mkF m 155 #[own_jv q0, .second, own_jv q1, .second, own_jv q2, .second, iv p3, iv p4, iv p5, iv (2 : Int32), iv (1 : Int32), iv (1 : Int32), rv b354, rv b363, rv b367, rv b354, .unset] [(.int (2 : Int32)), (.ref b354)]))
        refine own_st (fun _ k => XS.aload X470.here hx rfl (hb hby at_155) rfl rfl  k) ?_
        show own_Goes p e below s _ _ (T470.setTop (mkF m 157 #[own_jv q0, .second, own_jv q1, .second, own_jv q2, .second, iv p3, iv p4, iv p5, iv (2 : Int32), iv (1 : Int32), iv (1 : Int32), rv b354, rv b363, rv b367, rv b354, .unset] [(.ref b354), (.int (2 : Int32)), (.ref b354)]))
        refine own_st (fun _ k => XS.iload X470.here hx rfl (hb hby at_157) rfl  k) ?_
        show own_Goes p e below s _ _ (T470.setTop (mkF m 159 #[own_jv q0, .second, own_jv q1, .second, own_jv q2, .second, iv p3, iv p4, iv p5, iv (2 : Int32), iv (1 : Int32), iv (1 : Int32), rv b354, rv b363, rv b367, rv b354, .unset] [(.int (1 : Int32)), (.ref b354), (.int (2 : Int32)), (.ref b354)]))
        have f472 := (((((((((Fc361.ext E363).other W364 (Or.inl (own_ne (by omega)))).other W365 (Or.inl (own_ne (by omega)))).other W366 (Or.inl (own_ne (by omega)))).ext E367).other W368 (Or.inl (own_ne (by omega)))).other W369 (Or.inl (own_ne (by omega)))).other W370 (Or.inl (own_ne (by omega)))).other W470 (Or.inl (own_ne (by omega))))
        have f473 := (((((((((Vd361.ext E363).other W364 (own_ne (by omega))).other W365 (own_ne (by omega))).other W366 (own_ne (by omega))).ext E367).other W368 (own_ne (by omega))).other W369 (own_ne (by omega))).other W370 (own_ne (by omega))).other W470 (own_ne (by omega)))
        have f474 := (((((((((A361.ext E363).wr W364).wr W365).wr W366).ext E367).wr W368).wr W369).wr W370).wr W470)
        obtain ⟨v471, T471, L471, X471, Q471, st471⟩ := own_callV X470 hx hZ (C := "com/example/reach2/reach2/model/CodedColumn") (y := (⟨"com/example/reach2/reach2/model/CodedColumn", "copyTo", "(ILcom/example/reach2/reach2/model/CodedColumn;I)V"⟩ : MethodName)) hown (hw _ (List.mem_of_getElem? (i := 38) rfl)) (hw _ (List.mem_of_getElem? (i := 39) rfl)) (hw _ (List.mem_of_getElem? (i := 41) rfl)) (hw _ (List.mem_of_getElem? (i := 40) rfl)) (hw _ (List.mem_of_getElem? (i := 3) rfl)) (hw _ (List.mem_of_getElem? (i := 42) rfl)) (by decide) (W := 0) (rest := []) (argsL := [(.int (2 : Int32)), (.ref b354), (.int (1 : Int32))]) (a := b354) (rmCT l Z a0 hw [] b354 (2 : Int32) b354 (1 : Int32) ac355 ac355 _ _ h470 n0 (by omega) f472 f472 f473 f473 (by decide) (by decide) (by omega)) (by decide) (by decide) (by decide) (by decide) e470 f474 own_pd5 rfl (g := (mkF m 159 #[own_jv q0, .second, own_jv q1, .second, own_jv q2, .second, iv p3, iv p4, iv p5, iv (2 : Int32), iv (1 : Int32), iv (1 : Int32), rv b354, rv b363, rv b367, rv b354, .unset] [(.int (1 : Int32)), (.ref b354), (.int (2 : Int32)), (.ref b354)])) rfl (by rw [hml]; rfl) rfl (by show 2 * 0 + _ ≤ _; exact Nat.le_of_eq rfl) (hb hby at_159)
        obtain ⟨rfl, N471q, K471, V471⟩ := Q471
        have z471 := K471.1
        have Vt471 : own_Arf Z T471.heap ac355 .byte 3 (fun k => .int ((fun k => if k = 1 then (nar .byte (nar .byte (r361.toInt8.toInt32))) else (fun k => if k = 2 then (nar .byte (r361.toInt8.toInt32)) else (fun k => if k = 1 then (nar .byte (r359.toInt8.toInt32)) else (fun k => if k = 0 then (nar .byte (r356.toInt8.toInt32)) else (fun _ => (0 : Int32)) k) k) k) k) k)) := V471
        have N471 := Fr.app N470 N471q
        refine own_st st471 ?_
        show own_Goes p e below s _ _ (T471.setTop (mkF m 162 #[own_jv q0, .second, own_jv q1, .second, own_jv q2, .second, iv p3, iv p4, iv p5, iv (2 : Int32), iv (1 : Int32), iv (1 : Int32), rv b354, rv b363, rv b367, rv b354, .unset] []))
        refine own_st (fun _ k => XS.aload X471.here hx rfl (hb hby at_162) rfl rfl  k) ?_
        show own_Goes p e below s _ _ (T471.setTop (mkF m 164 #[own_jv q0, .second, own_jv q1, .second, own_jv q2, .second, iv p3, iv p4, iv p5, iv (2 : Int32), iv (1 : Int32), iv (1 : Int32), rv b354, rv b363, rv b367, rv b354, .unset] [(.ref b354)]))
        refine own_st (fun _ k => XS.iconst X471.here hx rfl (hb hby at_164) k) ?_
        show own_Goes p e below s _ _ (T471.setTop (mkF m 165 #[own_jv q0, .second, own_jv q1, .second, own_jv q2, .second, iv p3, iv p4, iv p5, iv (2 : Int32), iv (1 : Int32), iv (1 : Int32), rv b354, rv b363, rv b367, rv b354, .unset] [(.int (0 : Int32)), (.ref b354)]))
        have f476 := (f472.keep K471 (ninS (own_ne (by omega)) nin0))
        have f477 := ((((((((((Fv361.ext E363).other W364 (Or.inl (own_ne (by omega)))).other W365 (Or.inl (own_ne (by omega)))).other W366 (Or.inl (own_ne (by omega)))).ext E367).other W368 (Or.inl (own_ne (by omega)))).other W369 (Or.inl (own_ne (by omega)))).other W370 (Or.inl (own_ne (by omega)))).other W470 (Or.inl (own_ne (by omega)))).keep K471 (ninS (own_ne (by omega)) nin0))
        have f478 := ((((((((((Vv361.ext E363).other W364 (own_ne (by omega))).other W365 (own_ne (by omega))).other W366 (own_ne (by omega))).ext E367).other W368 (own_ne (by omega))).other W369 (own_ne (by omega))).other W370 (own_ne (by omega))).other W470 (own_ne (by omega))).keep K471 (ninS (own_ne (by omega)) nin0))
        have f479 := (f474.keep K471)
        obtain ⟨v475, T475, L475, X475, Q475, st475⟩ := own_callV X471 hx hZ (C := "com/example/reach2/reach2/model/CodedColumn") (y := (⟨"com/example/reach2/reach2/model/CodedColumn", "get", "(I)J"⟩ : MethodName)) hown (hw _ (List.mem_of_getElem? (i := 43) rfl)) (hw _ (List.mem_of_getElem? (i := 44) rfl)) (hw _ (List.mem_of_getElem? (i := 46) rfl)) (hw _ (List.mem_of_getElem? (i := 45) rfl)) (hw _ (List.mem_of_getElem? (i := 3) rfl)) (hw _ (List.mem_of_getElem? (i := 47) rfl)) (by decide) (W := 0) (rest := []) (argsL := [(.int (0 : Int32))]) (a := b354) (rmGet l Z a0 hw [] b354 (0 : Int32) _ _ _ _ T471.heap n0 (by omega) f476 f477 Vt471 f478 (by decide)) (by decide) (by decide) (by decide) (by decide) rfl f479 own_pd6 rfl (g := (mkF m 165 #[own_jv q0, .second, own_jv q1, .second, own_jv q2, .second, iv p3, iv p4, iv p5, iv (2 : Int32), iv (1 : Int32), iv (1 : Int32), rv b354, rv b363, rv b367, rv b354, .unset] [(.int (0 : Int32)), (.ref b354)])) rfl (by rw [hml]; rfl) rfl (by show 2 * 0 + _ ≤ _; exact Nat.le_of_eq rfl) (hb hby at_165)
        obtain ⟨g475, rfl, hg475, N475q, e475⟩ := Q475
        obtain rfl : q0 = g475 := (hg475.trans (own_at (by omega) ((rf361 _ (by omega)).trans ((rf359 _ (by omega)).trans re356)))).symm
        have N475 := Fr.app N471 N475q
        refine own_st st475 ?_
        show own_Goes p e below s _ _ (T475.setTop (mkF m 168 #[own_jv q0, .second, own_jv q1, .second, own_jv q2, .second, iv p3, iv p4, iv p5, iv (2 : Int32), iv (1 : Int32), iv (1 : Int32), rv b354, rv b363, rv b367, rv b354, .unset] [(.long q0)]))
        refine own_st (fun _ k => XS.aload X475.here hx rfl (hb hby at_168) rfl rfl  k) ?_
        show own_Goes p e below s _ _ (T475.setTop (mkF m 170 #[own_jv q0, .second, own_jv q1, .second, own_jv q2, .second, iv p3, iv p4, iv p5, iv (2 : Int32), iv (1 : Int32), iv (1 : Int32), rv b354, rv b363, rv b367, rv b354, .unset] [(.ref b367), (.long q0)]))
        refine own_st (fun _ k => XS.iconst X475.here hx rfl (hb hby at_170) k) ?_
        show own_Goes p e below s _ _ (T475.setTop (mkF m 171 #[own_jv q0, .second, own_jv q1, .second, own_jv q2, .second, iv p3, iv p4, iv p5, iv (2 : Int32), iv (1 : Int32), iv (1 : Int32), rv b354, rv b363, rv b367, rv b354, .unset] [(.int (0 : Int32)), (.ref b367), (.long q0)]))
        have f480 := (V470.keep K471 (ninS (own_ne (by omega)) nin0))
        refine own_st (fun _ k => own_ldJ X475 hx hZ e475 f480 (j := (0 : Int32)) (by decide) (g := (mkF m 171 #[own_jv q0, .second, own_jv q1, .second, own_jv q2, .second, iv p3, iv p4, iv p5, iv (2 : Int32), iv (1 : Int32), iv (1 : Int32), rv b354, rv b363, rv b367, rv b354, .unset] [(.int (0 : Int32)), (.ref b367), (.long q0)])) rfl rfl (hb hby at_171) _ k) ?_
        show own_Goes p e below s _ _ (T475.setTop (mkF m 172 #[own_jv q0, .second, own_jv q1, .second, own_jv q2, .second, iv p3, iv p4, iv p5, iv (2 : Int32), iv (1 : Int32), iv (1 : Int32), rv b354, rv b363, rv b367, rv b354, .unset] [(.long q0), (.long q0)]))
        refine own_st (fun _ k => XS.lcmp X475.here hx rfl (hb hby at_172) rfl k) ?_
        show own_Goes p e below s _ _ (T475.setTop (mkF m 173 #[own_jv q0, .second, own_jv q1, .second, own_jv q2, .second, iv p3, iv p4, iv p5, iv (2 : Int32), iv (1 : Int32), iv (1 : Int32), rv b354, rv b363, rv b367, rv b354, .unset] [(.int (lcmpW q0 q0))]))
        refine own_st (fun _ k => XS.ifNo X475.here hx rfl (hb hby at_173) rfl ((if0 _ _).trans (teq ((lw_eq _ _).mpr (rfl : q0 = q0))).2) k) ?_
        show own_Goes p e below s _ _ (T475.setTop (mkF m 176 #[own_jv q0, .second, own_jv q1, .second, own_jv q2, .second, iv p3, iv p4, iv p5, iv (2 : Int32), iv (1 : Int32), iv (1 : Int32), rv b354, rv b363, rv b367, rv b354, .unset] []))
        refine own_st (fun _ k => XS.aload X475.here hx rfl (hb hby at_176) rfl rfl  k) ?_
        show own_Goes p e below s _ _ (T475.setTop (mkF m 178 #[own_jv q0, .second, own_jv q1, .second, own_jv q2, .second, iv p3, iv p4, iv p5, iv (2 : Int32), iv (1 : Int32), iv (1 : Int32), rv b354, rv b363, rv b367, rv b354, .unset] [(.ref b354)]))
        refine own_st (fun _ k => XS.iconst X475.here hx rfl (hb hby at_178) k) ?_
        show own_Goes p e below s _ _ (T475.setTop (mkF m 179 #[own_jv q0, .second, own_jv q1, .second, own_jv q2, .second, iv p3, iv p4, iv p5, iv (2 : Int32), iv (1 : Int32), iv (1 : Int32), rv b354, rv b363, rv b367, rv b354, .unset] [(.int (1 : Int32)), (.ref b354)]))
        obtain ⟨v481, T481, L481, X481, Q481, st481⟩ := own_callV X475 hx hZ (C := "com/example/reach2/reach2/model/CodedColumn") (y := (⟨"com/example/reach2/reach2/model/CodedColumn", "get", "(I)J"⟩ : MethodName)) hown (hw _ (List.mem_of_getElem? (i := 43) rfl)) (hw _ (List.mem_of_getElem? (i := 44) rfl)) (hw _ (List.mem_of_getElem? (i := 46) rfl)) (hw _ (List.mem_of_getElem? (i := 45) rfl)) (hw _ (List.mem_of_getElem? (i := 3) rfl)) (hw _ (List.mem_of_getElem? (i := 47) rfl)) (by decide) (W := 0) (rest := []) (argsL := [(.int (1 : Int32))]) (a := b354) (rmGet l Z a0 hw [] b354 (1 : Int32) _ _ _ _ T471.heap n0 (by omega) f476 f477 Vt471 f478 (by decide)) (by decide) (by decide) (by decide) (by decide) e475 f479 own_pd6 rfl (g := (mkF m 179 #[own_jv q0, .second, own_jv q1, .second, own_jv q2, .second, iv p3, iv p4, iv p5, iv (2 : Int32), iv (1 : Int32), iv (1 : Int32), rv b354, rv b363, rv b367, rv b354, .unset] [(.int (1 : Int32)), (.ref b354)])) rfl (by rw [hml]; rfl) rfl (by show 2 * 0 + _ ≤ _; exact Nat.le_of_eq rfl) (hb hby at_179)
        obtain ⟨g481, rfl, hg481, N481q, e481⟩ := Q481
        obtain rfl : q2 = g481 := (hg481.trans (own_at2 (by omega) re361)).symm
        have N481 := Fr.app N475 N481q
        refine own_st st481 ?_
        show own_Goes p e below s _ _ (T481.setTop (mkF m 182 #[own_jv q0, .second, own_jv q1, .second, own_jv q2, .second, iv p3, iv p4, iv p5, iv (2 : Int32), iv (1 : Int32), iv (1 : Int32), rv b354, rv b363, rv b367, rv b354, .unset] [(.long q2)]))
        refine own_st (fun _ k => XS.aload X481.here hx rfl (hb hby at_182) rfl rfl  k) ?_
        show own_Goes p e below s _ _ (T481.setTop (mkF m 184 #[own_jv q0, .second, own_jv q1, .second, own_jv q2, .second, iv p3, iv p4, iv p5, iv (2 : Int32), iv (1 : Int32), iv (1 : Int32), rv b354, rv b363, rv b367, rv b354, .unset] [(.ref b367), (.long q2)]))
        refine own_st (fun _ k => XS.iconst X481.here hx rfl (hb hby at_184) k) ?_
        show own_Goes p e below s _ _ (T481.setTop (mkF m 185 #[own_jv q0, .second, own_jv q1, .second, own_jv q2, .second, iv p3, iv p4, iv p5, iv (2 : Int32), iv (1 : Int32), iv (1 : Int32), rv b354, rv b363, rv b367, rv b354, .unset] [(.int (1 : Int32)), (.ref b367), (.long q2)]))
        refine own_st (fun _ k => own_ldJ X481 hx hZ e481 f480 (j := (1 : Int32)) (by decide) (g := (mkF m 185 #[own_jv q0, .second, own_jv q1, .second, own_jv q2, .second, iv p3, iv p4, iv p5, iv (2 : Int32), iv (1 : Int32), iv (1 : Int32), rv b354, rv b363, rv b367, rv b354, .unset] [(.int (1 : Int32)), (.ref b367), (.long q2)])) rfl rfl (hb hby at_185) _ k) ?_
        show own_Goes p e below s _ _ (T481.setTop (mkF m 186 #[own_jv q0, .second, own_jv q1, .second, own_jv q2, .second, iv p3, iv p4, iv p5, iv (2 : Int32), iv (1 : Int32), iv (1 : Int32), rv b354, rv b363, rv b367, rv b354, .unset] [(.long q2), (.long q2)]))
        refine own_st (fun _ k => XS.lcmp X481.here hx rfl (hb hby at_186) rfl k) ?_
        show own_Goes p e below s _ _ (T481.setTop (mkF m 187 #[own_jv q0, .second, own_jv q1, .second, own_jv q2, .second, iv p3, iv p4, iv p5, iv (2 : Int32), iv (1 : Int32), iv (1 : Int32), rv b354, rv b363, rv b367, rv b354, .unset] [(.int (lcmpW q2 q2))]))
        refine own_st (fun _ k => XS.ifNo X481.here hx rfl (hb hby at_187) rfl ((if0 _ _).trans (teq ((lw_eq _ _).mpr (rfl : q2 = q2))).2) k) ?_
        show own_Goes p e below s _ _ (T481.setTop (mkF m 190 #[own_jv q0, .second, own_jv q1, .second, own_jv q2, .second, iv p3, iv p4, iv p5, iv (2 : Int32), iv (1 : Int32), iv (1 : Int32), rv b354, rv b363, rv b367, rv b354, .unset] []))
        refine own_st (fun _ k => XS.aload X481.here hx rfl (hb hby at_190) rfl rfl  k) ?_
        show own_Goes p e below s _ _ (T481.setTop (mkF m 192 #[own_jv q0, .second, own_jv q1, .second, own_jv q2, .second, iv p3, iv p4, iv p5, iv (2 : Int32), iv (1 : Int32), iv (1 : Int32), rv b354, rv b363, rv b367, rv b354, .unset] [(.ref b354)]))
        refine own_st (fun _ k => XS.iconst X481.here hx rfl (hb hby at_192) k) ?_
        show own_Goes p e below s _ _ (T481.setTop (mkF m 193 #[own_jv q0, .second, own_jv q1, .second, own_jv q2, .second, iv p3, iv p4, iv p5, iv (2 : Int32), iv (1 : Int32), iv (1 : Int32), rv b354, rv b363, rv b367, rv b354, .unset] [(.int (2 : Int32)), (.ref b354)]))
        obtain ⟨v482, T482, L482, X482, Q482, st482⟩ := own_callV X481 hx hZ (C := "com/example/reach2/reach2/model/CodedColumn") (y := (⟨"com/example/reach2/reach2/model/CodedColumn", "get", "(I)J"⟩ : MethodName)) hown (hw _ (List.mem_of_getElem? (i := 43) rfl)) (hw _ (List.mem_of_getElem? (i := 44) rfl)) (hw _ (List.mem_of_getElem? (i := 46) rfl)) (hw _ (List.mem_of_getElem? (i := 45) rfl)) (hw _ (List.mem_of_getElem? (i := 3) rfl)) (hw _ (List.mem_of_getElem? (i := 47) rfl)) (by decide) (W := 0) (rest := []) (argsL := [(.int (2 : Int32))]) (a := b354) (rmGet l Z a0 hw [] b354 (2 : Int32) _ _ _ _ T471.heap n0 (by omega) f476 f477 Vt471 f478 (by decide)) (by decide) (by decide) (by decide) (by decide) e481 f479 own_pd6 rfl (g := (mkF m 193 #[own_jv q0, .second, own_jv q1, .second, own_jv q2, .second, iv p3, iv p4, iv p5, iv (2 : Int32), iv (1 : Int32), iv (1 : Int32), rv b354, rv b363, rv b367, rv b354, .unset] [(.int (2 : Int32)), (.ref b354)])) rfl (by rw [hml]; rfl) rfl (by show 2 * 0 + _ ≤ _; exact Nat.le_of_eq rfl) (hb hby at_193)
        obtain ⟨g482, rfl, hg482, N482q, e482⟩ := Q482
        obtain rfl : q2 = g482 := (hg482.trans (own_at (by omega) re361)).symm
        have N482 := Fr.app N481 N482q
        refine own_st st482 ?_
        show own_Goes p e below s _ _ (T482.setTop (mkF m 196 #[own_jv q0, .second, own_jv q1, .second, own_jv q2, .second, iv p3, iv p4, iv p5, iv (2 : Int32), iv (1 : Int32), iv (1 : Int32), rv b354, rv b363, rv b367, rv b354, .unset] [(.long q2)]))
        refine own_st (fun _ k => XS.aload X482.here hx rfl (hb hby at_196) rfl rfl  k) ?_
        show own_Goes p e below s _ _ (T482.setTop (mkF m 198 #[own_jv q0, .second, own_jv q1, .second, own_jv q2, .second, iv p3, iv p4, iv p5, iv (2 : Int32), iv (1 : Int32), iv (1 : Int32), rv b354, rv b363, rv b367, rv b354, .unset] [(.ref b367), (.long q2)]))
        refine own_st (fun _ k => XS.iconst X482.here hx rfl (hb hby at_198) k) ?_
        show own_Goes p e below s _ _ (T482.setTop (mkF m 199 #[own_jv q0, .second, own_jv q1, .second, own_jv q2, .second, iv p3, iv p4, iv p5, iv (2 : Int32), iv (1 : Int32), iv (1 : Int32), rv b354, rv b363, rv b367, rv b354, .unset] [(.int (2 : Int32)), (.ref b367), (.long q2)]))
        refine own_st (fun _ k => own_ldJ X482 hx hZ e482 f480 (j := (2 : Int32)) (by decide) (g := (mkF m 199 #[own_jv q0, .second, own_jv q1, .second, own_jv q2, .second, iv p3, iv p4, iv p5, iv (2 : Int32), iv (1 : Int32), iv (1 : Int32), rv b354, rv b363, rv b367, rv b354, .unset] [(.int (2 : Int32)), (.ref b367), (.long q2)])) rfl rfl (hb hby at_199) _ k) ?_
        show own_Goes p e below s _ _ (T482.setTop (mkF m 200 #[own_jv q0, .second, own_jv q1, .second, own_jv q2, .second, iv p3, iv p4, iv p5, iv (2 : Int32), iv (1 : Int32), iv (1 : Int32), rv b354, rv b363, rv b367, rv b354, .unset] [(.long q2), (.long q2)]))
        refine own_st (fun _ k => XS.lcmp X482.here hx rfl (hb hby at_200) rfl k) ?_
        show own_Goes p e below s _ _ (T482.setTop (mkF m 201 #[own_jv q0, .second, own_jv q1, .second, own_jv q2, .second, iv p3, iv p4, iv p5, iv (2 : Int32), iv (1 : Int32), iv (1 : Int32), rv b354, rv b363, rv b367, rv b354, .unset] [(.int (lcmpW q2 q2))]))
        refine own_st (fun _ k => XS.ifNo X482.here hx rfl (hb hby at_201) rfl ((if0 _ _).trans (teq ((lw_eq _ _).mpr (rfl : q2 = q2))).2) k) ?_
        show own_Goes p e below s _ _ (T482.setTop (mkF m 204 #[own_jv q0, .second, own_jv q1, .second, own_jv q2, .second, iv p3, iv p4, iv p5, iv (2 : Int32), iv (1 : Int32), iv (1 : Int32), rv b354, rv b363, rv b367, rv b354, .unset] []))
        refine own_st (fun _ k => XS.iconst X482.here hx rfl (hb hby at_204) k) ?_
        show own_Goes p e below s _ _ (T482.setTop (mkF m 205 #[own_jv q0, .second, own_jv q1, .second, own_jv q2, .second, iv p3, iv p4, iv p5, iv (2 : Int32), iv (1 : Int32), iv (1 : Int32), rv b354, rv b363, rv b367, rv b354, .unset] [(.int (1 : Int32))]))
        refine own_st (fun _ k => XS.goto X482.here hx rfl (pc0 := 205) (pc' := 209) rfl (hb hby at_205) (by decide) (by decide) k) ?_
        show own_Goes p e below s _ _ (T482.setTop (mkF m 209 #[own_jv q0, .second, own_jv q1, .second, own_jv q2, .second, iv p3, iv p4, iv p5, iv (2 : Int32), iv (1 : Int32), iv (1 : Int32), rv b354, rv b363, rv b367, rv b354, .unset] [(.int (1 : Int32))]))
        refine own_st (fun _ k => XS.istore X482.here hx rfl (hb hby at_209) rfl (l' := #[own_jv q0, .second, own_jv q1, .second, own_jv q2, .second, iv p3, iv p4, iv p5, iv (2 : Int32), iv (1 : Int32), iv (1 : Int32), rv b354, rv b363, rv b367, rv b354, iv (1 : Int32)]) rfl k) ?_
        show own_Goes p e below s _ _ (T482.setTop (mkF m 211 #[own_jv q0, .second, own_jv q1, .second, own_jv q2, .second, iv p3, iv p4, iv p5, iv (2 : Int32), iv (1 : Int32), iv (1 : Int32), rv b354, rv b363, rv b367, rv b354, iv (1 : Int32)] []))
        refine own_st (fun _ k => XS.iload X482.here hx rfl (hb hby at_211) rfl  k) ?_
        show own_Goes p e below s _ _ (T482.setTop (mkF m 213 #[own_jv q0, .second, own_jv q1, .second, own_jv q2, .second, iv p3, iv p4, iv p5, iv (2 : Int32), iv (1 : Int32), iv (1 : Int32), rv b354, rv b363, rv b367, rv b354, iv (1 : Int32)] [(.int (1 : Int32))]))
        refine own_st (fun _ k => XS.ifYes X482.here hx rfl (pc0 := 213) (pc' := 262) rfl (hb hby at_213) rfl ((if0 _ _).trans (feq (by decide : ¬ ((1 : Int32) = (0 : Int32)))).2) (by decide) (by decide) k) ?_
        show own_Goes p e below s _ _ (T482.setTop (mkF m 262 #[own_jv q0, .second, own_jv q1, .second, own_jv q2, .second, iv p3, iv p4, iv p5, iv (2 : Int32), iv (1 : Int32), iv (1 : Int32), rv b354, rv b363, rv b367, rv b354, iv (1 : Int32)] []))
        refine own_st (fun _ k => XS.iload X482.here hx rfl (hb hby at_262) rfl  k) ?_
        show own_Goes p e below s _ _ (T482.setTop (mkF m 264 #[own_jv q0, .second, own_jv q1, .second, own_jv q2, .second, iv p3, iv p4, iv p5, iv (2 : Int32), iv (1 : Int32), iv (1 : Int32), rv b354, rv b363, rv b367, rv b354, iv (1 : Int32)] [(.int (1 : Int32))]))
        exact own_retN X482 hx hlk (1 : Int32) hret (Or.inl rfl) rfl (hb hby at_264) (by decide) (by decide) ⟨rfl, N482⟩
      · show own_Goes p e below s _ _ (T370.setTop (mkF m 141 #[own_jv q0, .second, own_jv q1, .second, own_jv q2, .second, iv p3, iv p4, iv p5, iv (2 : Int32), iv (2 : Int32), iv (1 : Int32), rv b354, rv b363, rv b367, rv b354, .unset] []))
        refine own_st (fun _ k => XS.aload X370.here hx rfl (hb hby at_141) rfl rfl  k) ?_
        show own_Goes p e below s _ _ (T370.setTop (mkF m 143 #[own_jv q0, .second, own_jv q1, .second, own_jv q2, .second, iv p3, iv p4, iv p5, iv (2 : Int32), iv (2 : Int32), iv (1 : Int32), rv b354, rv b363, rv b367, rv b354, .unset] [(.ref b367)]))
        refine own_st (fun _ k => XS.iload X370.here hx rfl (hb hby at_143) rfl  k) ?_
        show own_Goes p e below s _ _ (T370.setTop (mkF m 145 #[own_jv q0, .second, own_jv q1, .second, own_jv q2, .second, iv p3, iv p4, iv p5, iv (2 : Int32), iv (2 : Int32), iv (1 : Int32), rv b354, rv b363, rv b367, rv b354, .unset] [(.int (2 : Int32)), (.ref b367)]))
        refine own_st (fun _ k => XS.aload X370.here hx rfl (hb hby at_145) rfl rfl  k) ?_
        show own_Goes p e below s _ _ (T370.setTop (mkF m 147 #[own_jv q0, .second, own_jv q1, .second, own_jv q2, .second, iv p3, iv p4, iv p5, iv (2 : Int32), iv (2 : Int32), iv (1 : Int32), rv b354, rv b363, rv b367, rv b354, .unset] [(.ref b363), (.int (2 : Int32)), (.ref b367)]))
        refine own_st (fun _ k => XS.iload X370.here hx rfl (hb hby at_147) rfl  k) ?_
        show own_Goes p e below s _ _ (T370.setTop (mkF m 149 #[own_jv q0, .second, own_jv q1, .second, own_jv q2, .second, iv p3, iv p4, iv p5, iv (2 : Int32), iv (2 : Int32), iv (1 : Int32), rv b354, rv b363, rv b367, rv b354, .unset] [(.int (2 : Int32)), (.ref b363), (.int (2 : Int32)), (.ref b367)]))
        have f483 := ((((V366.ext E367).other W368 (own_ne (by omega))).other W369 (own_ne (by omega))).other W370 (own_ne (by omega)))
        refine own_st (fun _ k => own_ldJ X370 hx hZ e370 f483 (j := (2 : Int32)) (by decide) (g := (mkF m 149 #[own_jv q0, .second, own_jv q1, .second, own_jv q2, .second, iv p3, iv p4, iv p5, iv (2 : Int32), iv (2 : Int32), iv (1 : Int32), rv b354, rv b363, rv b367, rv b354, .unset] [(.int (2 : Int32)), (.ref b363), (.int (2 : Int32)), (.ref b367)])) rfl rfl (hb hby at_149) _ k) ?_
        show own_Goes p e below s _ _ (T370.setTop (mkF m 150 #[own_jv q0, .second, own_jv q1, .second, own_jv q2, .second, iv p3, iv p4, iv p5, iv (2 : Int32), iv (2 : Int32), iv (1 : Int32), rv b354, rv b363, rv b367, rv b354, .unset] [(.long q2), (.int (2 : Int32)), (.ref b367)]))
        obtain ⟨T484, h484, X484, e484, W484, A484, st484⟩ := own_stJ X370 hx hZ e370 V370 (j := (2 : Int32)) (by decide) (g := (mkF m 150 #[own_jv q0, .second, own_jv q1, .second, own_jv q2, .second, iv p3, iv p4, iv p5, iv (2 : Int32), iv (2 : Int32), iv (1 : Int32), rv b354, rv b363, rv b367, rv b354, .unset] [(.long q2), (.int (2 : Int32)), (.ref b367)])) rfl rfl (hb hby at_150)
        have V484 : own_Arf Z h484 b367 .long 3 (fun k => .long ((fun k => if k = 2 then q2 else (fun k => if k = 2 then q2 else (fun k => if k = 1 then q1 else (fun k => if k = 0 then q0 else (fun _ => (0 : Int64)) k) k) k) k) k)) := A484
        have z484 := W484.size
        have N484 := Fr.snoc X484 N370 (by omega)
        refine own_st st484 ?_
        show own_Goes p e below s _ _ (T484.setTop (mkF m 151 #[own_jv q0, .second, own_jv q1, .second, own_jv q2, .second, iv p3, iv p4, iv p5, iv (2 : Int32), iv (2 : Int32), iv (1 : Int32), rv b354, rv b363, rv b367, rv b354, .unset] []))
        refine own_st (fun _ k => XS.aload X484.here hx rfl (hb hby at_151) rfl rfl  k) ?_
        show own_Goes p e below s _ _ (T484.setTop (mkF m 153 #[own_jv q0, .second, own_jv q1, .second, own_jv q2, .second, iv p3, iv p4, iv p5, iv (2 : Int32), iv (2 : Int32), iv (1 : Int32), rv b354, rv b363, rv b367, rv b354, .unset] [(.ref b354)]))
        refine own_st (fun _ k => XS.iload X484.here hx rfl (hb hby at_153) rfl  k) ?_
        show own_Goes p e below s _ _ (T484.setTop (mkF m 155 #[own_jv q0, .second, own_jv q1, .second, own_jv q2, .second, iv p3, iv p4, iv p5, iv (2 : Int32), iv (2 : Int32), iv (1 : Int32), rv b354, rv b363, rv b367, rv b354, .unset] [(.int (2 : Int32)), (.ref b354)]))
        refine own_st (fun _ k => XS.aload X484.here hx rfl (hb hby at_155) rfl rfl  k) ?_
        show own_Goes p e below s _ _ (T484.setTop (mkF m 157 #[own_jv q0, .second, own_jv q1, .second, own_jv q2, .second, iv p3, iv p4, iv p5, iv (2 : Int32), iv (2 : Int32), iv (1 : Int32), rv b354, rv b363, rv b367, rv b354, .unset] [(.ref b354), (.int (2 : Int32)), (.ref b354)]))
        refine own_st (fun _ k => XS.iload X484.here hx rfl (hb hby at_157) rfl  k) ?_
        show own_Goes p e below s _ _ (T484.setTop (mkF m 159 #[own_jv q0, .second, own_jv q1, .second, own_jv q2, .second, iv p3, iv p4, iv p5, iv (2 : Int32), iv (2 : Int32), iv (1 : Int32), rv b354, rv b363, rv b367, rv b354, .unset] [(.int (2 : Int32)), (.ref b354), (.int (2 : Int32)), (.ref b354)]))
        have f486 := (((((((((Fc361.ext E363).other W364 (Or.inl (own_ne (by omega)))).other W365 (Or.inl (own_ne (by omega)))).other W366 (Or.inl (own_ne (by omega)))).ext E367).other W368 (Or.inl (own_ne (by omega)))).other W369 (Or.inl (own_ne (by omega)))).other W370 (Or.inl (own_ne (by omega)))).other W484 (Or.inl (own_ne (by omega))))
        have f487 := (((((((((Vd361.ext E363).other W364 (own_ne (by omega))).other W365 (own_ne (by omega))).other W366 (own_ne (by omega))).ext E367).other W368 (own_ne (by omega))).other W369 (own_ne (by omega))).other W370 (own_ne (by omega))).other W484 (own_ne (by omega)))
        have f488 := (((((((((A361.ext E363).wr W364).wr W365).wr W366).ext E367).wr W368).wr W369).wr W370).wr W484)
        obtain ⟨v485, T485, L485, X485, Q485, st485⟩ := own_callV X484 hx hZ (C := "com/example/reach2/reach2/model/CodedColumn") (y := (⟨"com/example/reach2/reach2/model/CodedColumn", "copyTo", "(ILcom/example/reach2/reach2/model/CodedColumn;I)V"⟩ : MethodName)) hown (hw _ (List.mem_of_getElem? (i := 38) rfl)) (hw _ (List.mem_of_getElem? (i := 39) rfl)) (hw _ (List.mem_of_getElem? (i := 41) rfl)) (hw _ (List.mem_of_getElem? (i := 40) rfl)) (hw _ (List.mem_of_getElem? (i := 3) rfl)) (hw _ (List.mem_of_getElem? (i := 42) rfl)) (by decide) (W := 0) (rest := []) (argsL := [(.int (2 : Int32)), (.ref b354), (.int (2 : Int32))]) (a := b354) (rmCT l Z a0 hw [] b354 (2 : Int32) b354 (2 : Int32) ac355 ac355 _ _ h484 n0 (by omega) f486 f486 f487 f487 (by decide) (by decide) (by omega)) (by decide) (by decide) (by decide) (by decide) e484 f488 own_pd5 rfl (g := (mkF m 159 #[own_jv q0, .second, own_jv q1, .second, own_jv q2, .second, iv p3, iv p4, iv p5, iv (2 : Int32), iv (2 : Int32), iv (1 : Int32), rv b354, rv b363, rv b367, rv b354, .unset] [(.int (2 : Int32)), (.ref b354), (.int (2 : Int32)), (.ref b354)])) rfl (by rw [hml]; rfl) rfl (by show 2 * 0 + _ ≤ _; exact Nat.le_of_eq rfl) (hb hby at_159)
        obtain ⟨rfl, N485q, K485, V485⟩ := Q485
        have z485 := K485.1
        have Vt485 : own_Arf Z T485.heap ac355 .byte 3 (fun k => .int ((fun k => if k = 2 then (nar .byte (nar .byte (r361.toInt8.toInt32))) else (fun k => if k = 2 then (nar .byte (r361.toInt8.toInt32)) else (fun k => if k = 1 then (nar .byte (r359.toInt8.toInt32)) else (fun k => if k = 0 then (nar .byte (r356.toInt8.toInt32)) else (fun _ => (0 : Int32)) k) k) k) k) k)) := V485
        have N485 := Fr.app N484 N485q
        refine own_st st485 ?_
        show own_Goes p e below s _ _ (T485.setTop (mkF m 162 #[own_jv q0, .second, own_jv q1, .second, own_jv q2, .second, iv p3, iv p4, iv p5, iv (2 : Int32), iv (2 : Int32), iv (1 : Int32), rv b354, rv b363, rv b367, rv b354, .unset] []))
        refine own_st (fun _ k => XS.aload X485.here hx rfl (hb hby at_162) rfl rfl  k) ?_
        show own_Goes p e below s _ _ (T485.setTop (mkF m 164 #[own_jv q0, .second, own_jv q1, .second, own_jv q2, .second, iv p3, iv p4, iv p5, iv (2 : Int32), iv (2 : Int32), iv (1 : Int32), rv b354, rv b363, rv b367, rv b354, .unset] [(.ref b354)]))
        refine own_st (fun _ k => XS.iconst X485.here hx rfl (hb hby at_164) k) ?_
        show own_Goes p e below s _ _ (T485.setTop (mkF m 165 #[own_jv q0, .second, own_jv q1, .second, own_jv q2, .second, iv p3, iv p4, iv p5, iv (2 : Int32), iv (2 : Int32), iv (1 : Int32), rv b354, rv b363, rv b367, rv b354, .unset] [(.int (0 : Int32)), (.ref b354)]))
        have f490 := (f486.keep K485 (ninS (own_ne (by omega)) nin0))
        have f491 := ((((((((((Fv361.ext E363).other W364 (Or.inl (own_ne (by omega)))).other W365 (Or.inl (own_ne (by omega)))).other W366 (Or.inl (own_ne (by omega)))).ext E367).other W368 (Or.inl (own_ne (by omega)))).other W369 (Or.inl (own_ne (by omega)))).other W370 (Or.inl (own_ne (by omega)))).other W484 (Or.inl (own_ne (by omega)))).keep K485 (ninS (own_ne (by omega)) nin0))
        have f492 := ((((((((((Vv361.ext E363).other W364 (own_ne (by omega))).other W365 (own_ne (by omega))).other W366 (own_ne (by omega))).ext E367).other W368 (own_ne (by omega))).other W369 (own_ne (by omega))).other W370 (own_ne (by omega))).other W484 (own_ne (by omega))).keep K485 (ninS (own_ne (by omega)) nin0))
        have f493 := (f488.keep K485)
        obtain ⟨v489, T489, L489, X489, Q489, st489⟩ := own_callV X485 hx hZ (C := "com/example/reach2/reach2/model/CodedColumn") (y := (⟨"com/example/reach2/reach2/model/CodedColumn", "get", "(I)J"⟩ : MethodName)) hown (hw _ (List.mem_of_getElem? (i := 43) rfl)) (hw _ (List.mem_of_getElem? (i := 44) rfl)) (hw _ (List.mem_of_getElem? (i := 46) rfl)) (hw _ (List.mem_of_getElem? (i := 45) rfl)) (hw _ (List.mem_of_getElem? (i := 3) rfl)) (hw _ (List.mem_of_getElem? (i := 47) rfl)) (by decide) (W := 0) (rest := []) (argsL := [(.int (0 : Int32))]) (a := b354) (rmGet l Z a0 hw [] b354 (0 : Int32) _ _ _ _ T485.heap n0 (by omega) f490 f491 Vt485 f492 (by decide)) (by decide) (by decide) (by decide) (by decide) rfl f493 own_pd6 rfl (g := (mkF m 165 #[own_jv q0, .second, own_jv q1, .second, own_jv q2, .second, iv p3, iv p4, iv p5, iv (2 : Int32), iv (2 : Int32), iv (1 : Int32), rv b354, rv b363, rv b367, rv b354, .unset] [(.int (0 : Int32)), (.ref b354)])) rfl (by rw [hml]; rfl) rfl (by show 2 * 0 + _ ≤ _; exact Nat.le_of_eq rfl) (hb hby at_165)
        obtain ⟨g489, rfl, hg489, N489q, e489⟩ := Q489
        obtain rfl : q0 = g489 := (hg489.trans (own_at (by omega) ((rf361 _ (by omega)).trans ((rf359 _ (by omega)).trans re356)))).symm
        have N489 := Fr.app N485 N489q
        refine own_st st489 ?_
        show own_Goes p e below s _ _ (T489.setTop (mkF m 168 #[own_jv q0, .second, own_jv q1, .second, own_jv q2, .second, iv p3, iv p4, iv p5, iv (2 : Int32), iv (2 : Int32), iv (1 : Int32), rv b354, rv b363, rv b367, rv b354, .unset] [(.long q0)]))
        refine own_st (fun _ k => XS.aload X489.here hx rfl (hb hby at_168) rfl rfl  k) ?_
        show own_Goes p e below s _ _ (T489.setTop (mkF m 170 #[own_jv q0, .second, own_jv q1, .second, own_jv q2, .second, iv p3, iv p4, iv p5, iv (2 : Int32), iv (2 : Int32), iv (1 : Int32), rv b354, rv b363, rv b367, rv b354, .unset] [(.ref b367), (.long q0)]))
        refine own_st (fun _ k => XS.iconst X489.here hx rfl (hb hby at_170) k) ?_
        show own_Goes p e below s _ _ (T489.setTop (mkF m 171 #[own_jv q0, .second, own_jv q1, .second, own_jv q2, .second, iv p3, iv p4, iv p5, iv (2 : Int32), iv (2 : Int32), iv (1 : Int32), rv b354, rv b363, rv b367, rv b354, .unset] [(.int (0 : Int32)), (.ref b367), (.long q0)]))
        have f494 := (V484.keep K485 (ninS (own_ne (by omega)) nin0))
        refine own_st (fun _ k => own_ldJ X489 hx hZ e489 f494 (j := (0 : Int32)) (by decide) (g := (mkF m 171 #[own_jv q0, .second, own_jv q1, .second, own_jv q2, .second, iv p3, iv p4, iv p5, iv (2 : Int32), iv (2 : Int32), iv (1 : Int32), rv b354, rv b363, rv b367, rv b354, .unset] [(.int (0 : Int32)), (.ref b367), (.long q0)])) rfl rfl (hb hby at_171) _ k) ?_
        show own_Goes p e below s _ _ (T489.setTop (mkF m 172 #[own_jv q0, .second, own_jv q1, .second, own_jv q2, .second, iv p3, iv p4, iv p5, iv (2 : Int32), iv (2 : Int32), iv (1 : Int32), rv b354, rv b363, rv b367, rv b354, .unset] [(.long q0), (.long q0)]))
        refine own_st (fun _ k => XS.lcmp X489.here hx rfl (hb hby at_172) rfl k) ?_
        show own_Goes p e below s _ _ (T489.setTop (mkF m 173 #[own_jv q0, .second, own_jv q1, .second, own_jv q2, .second, iv p3, iv p4, iv p5, iv (2 : Int32), iv (2 : Int32), iv (1 : Int32), rv b354, rv b363, rv b367, rv b354, .unset] [(.int (lcmpW q0 q0))]))
        refine own_st (fun _ k => XS.ifNo X489.here hx rfl (hb hby at_173) rfl ((if0 _ _).trans (teq ((lw_eq _ _).mpr (rfl : q0 = q0))).2) k) ?_
        show own_Goes p e below s _ _ (T489.setTop (mkF m 176 #[own_jv q0, .second, own_jv q1, .second, own_jv q2, .second, iv p3, iv p4, iv p5, iv (2 : Int32), iv (2 : Int32), iv (1 : Int32), rv b354, rv b363, rv b367, rv b354, .unset] []))
        refine own_st (fun _ k => XS.aload X489.here hx rfl (hb hby at_176) rfl rfl  k) ?_
        show own_Goes p e below s _ _ (T489.setTop (mkF m 178 #[own_jv q0, .second, own_jv q1, .second, own_jv q2, .second, iv p3, iv p4, iv p5, iv (2 : Int32), iv (2 : Int32), iv (1 : Int32), rv b354, rv b363, rv b367, rv b354, .unset] [(.ref b354)]))
        refine own_st (fun _ k => XS.iconst X489.here hx rfl (hb hby at_178) k) ?_
        show own_Goes p e below s _ _ (T489.setTop (mkF m 179 #[own_jv q0, .second, own_jv q1, .second, own_jv q2, .second, iv p3, iv p4, iv p5, iv (2 : Int32), iv (2 : Int32), iv (1 : Int32), rv b354, rv b363, rv b367, rv b354, .unset] [(.int (1 : Int32)), (.ref b354)]))
        obtain ⟨v495, T495, L495, X495, Q495, st495⟩ := own_callV X489 hx hZ (C := "com/example/reach2/reach2/model/CodedColumn") (y := (⟨"com/example/reach2/reach2/model/CodedColumn", "get", "(I)J"⟩ : MethodName)) hown (hw _ (List.mem_of_getElem? (i := 43) rfl)) (hw _ (List.mem_of_getElem? (i := 44) rfl)) (hw _ (List.mem_of_getElem? (i := 46) rfl)) (hw _ (List.mem_of_getElem? (i := 45) rfl)) (hw _ (List.mem_of_getElem? (i := 3) rfl)) (hw _ (List.mem_of_getElem? (i := 47) rfl)) (by decide) (W := 0) (rest := []) (argsL := [(.int (1 : Int32))]) (a := b354) (rmGet l Z a0 hw [] b354 (1 : Int32) _ _ _ _ T485.heap n0 (by omega) f490 f491 Vt485 f492 (by decide)) (by decide) (by decide) (by decide) (by decide) e489 f493 own_pd6 rfl (g := (mkF m 179 #[own_jv q0, .second, own_jv q1, .second, own_jv q2, .second, iv p3, iv p4, iv p5, iv (2 : Int32), iv (2 : Int32), iv (1 : Int32), rv b354, rv b363, rv b367, rv b354, .unset] [(.int (1 : Int32)), (.ref b354)])) rfl (by rw [hml]; rfl) rfl (by show 2 * 0 + _ ≤ _; exact Nat.le_of_eq rfl) (hb hby at_179)
        obtain ⟨g495, rfl, hg495, N495q, e495⟩ := Q495
        obtain rfl : q1 = g495 := (hg495.trans (own_at (by omega) ((rf361 _ (by omega)).trans re359))).symm
        have N495 := Fr.app N489 N495q
        refine own_st st495 ?_
        show own_Goes p e below s _ _ (T495.setTop (mkF m 182 #[own_jv q0, .second, own_jv q1, .second, own_jv q2, .second, iv p3, iv p4, iv p5, iv (2 : Int32), iv (2 : Int32), iv (1 : Int32), rv b354, rv b363, rv b367, rv b354, .unset] [(.long q1)]))
        refine own_st (fun _ k => XS.aload X495.here hx rfl (hb hby at_182) rfl rfl  k) ?_
        show own_Goes p e below s _ _ (T495.setTop (mkF m 184 #[own_jv q0, .second, own_jv q1, .second, own_jv q2, .second, iv p3, iv p4, iv p5, iv (2 : Int32), iv (2 : Int32), iv (1 : Int32), rv b354, rv b363, rv b367, rv b354, .unset] [(.ref b367), (.long q1)]))
        refine own_st (fun _ k => XS.iconst X495.here hx rfl (hb hby at_184) k) ?_
        show own_Goes p e below s _ _ (T495.setTop (mkF m 185 #[own_jv q0, .second, own_jv q1, .second, own_jv q2, .second, iv p3, iv p4, iv p5, iv (2 : Int32), iv (2 : Int32), iv (1 : Int32), rv b354, rv b363, rv b367, rv b354, .unset] [(.int (1 : Int32)), (.ref b367), (.long q1)]))
        refine own_st (fun _ k => own_ldJ X495 hx hZ e495 f494 (j := (1 : Int32)) (by decide) (g := (mkF m 185 #[own_jv q0, .second, own_jv q1, .second, own_jv q2, .second, iv p3, iv p4, iv p5, iv (2 : Int32), iv (2 : Int32), iv (1 : Int32), rv b354, rv b363, rv b367, rv b354, .unset] [(.int (1 : Int32)), (.ref b367), (.long q1)])) rfl rfl (hb hby at_185) _ k) ?_
        show own_Goes p e below s _ _ (T495.setTop (mkF m 186 #[own_jv q0, .second, own_jv q1, .second, own_jv q2, .second, iv p3, iv p4, iv p5, iv (2 : Int32), iv (2 : Int32), iv (1 : Int32), rv b354, rv b363, rv b367, rv b354, .unset] [(.long q1), (.long q1)]))
        refine own_st (fun _ k => XS.lcmp X495.here hx rfl (hb hby at_186) rfl k) ?_
        show own_Goes p e below s _ _ (T495.setTop (mkF m 187 #[own_jv q0, .second, own_jv q1, .second, own_jv q2, .second, iv p3, iv p4, iv p5, iv (2 : Int32), iv (2 : Int32), iv (1 : Int32), rv b354, rv b363, rv b367, rv b354, .unset] [(.int (lcmpW q1 q1))]))
        refine own_st (fun _ k => XS.ifNo X495.here hx rfl (hb hby at_187) rfl ((if0 _ _).trans (teq ((lw_eq _ _).mpr (rfl : q1 = q1))).2) k) ?_
        show own_Goes p e below s _ _ (T495.setTop (mkF m 190 #[own_jv q0, .second, own_jv q1, .second, own_jv q2, .second, iv p3, iv p4, iv p5, iv (2 : Int32), iv (2 : Int32), iv (1 : Int32), rv b354, rv b363, rv b367, rv b354, .unset] []))
        refine own_st (fun _ k => XS.aload X495.here hx rfl (hb hby at_190) rfl rfl  k) ?_
        show own_Goes p e below s _ _ (T495.setTop (mkF m 192 #[own_jv q0, .second, own_jv q1, .second, own_jv q2, .second, iv p3, iv p4, iv p5, iv (2 : Int32), iv (2 : Int32), iv (1 : Int32), rv b354, rv b363, rv b367, rv b354, .unset] [(.ref b354)]))
        refine own_st (fun _ k => XS.iconst X495.here hx rfl (hb hby at_192) k) ?_
        show own_Goes p e below s _ _ (T495.setTop (mkF m 193 #[own_jv q0, .second, own_jv q1, .second, own_jv q2, .second, iv p3, iv p4, iv p5, iv (2 : Int32), iv (2 : Int32), iv (1 : Int32), rv b354, rv b363, rv b367, rv b354, .unset] [(.int (2 : Int32)), (.ref b354)]))
        obtain ⟨v496, T496, L496, X496, Q496, st496⟩ := own_callV X495 hx hZ (C := "com/example/reach2/reach2/model/CodedColumn") (y := (⟨"com/example/reach2/reach2/model/CodedColumn", "get", "(I)J"⟩ : MethodName)) hown (hw _ (List.mem_of_getElem? (i := 43) rfl)) (hw _ (List.mem_of_getElem? (i := 44) rfl)) (hw _ (List.mem_of_getElem? (i := 46) rfl)) (hw _ (List.mem_of_getElem? (i := 45) rfl)) (hw _ (List.mem_of_getElem? (i := 3) rfl)) (hw _ (List.mem_of_getElem? (i := 47) rfl)) (by decide) (W := 0) (rest := []) (argsL := [(.int (2 : Int32))]) (a := b354) (rmGet l Z a0 hw [] b354 (2 : Int32) _ _ _ _ T485.heap n0 (by omega) f490 f491 Vt485 f492 (by decide)) (by decide) (by decide) (by decide) (by decide) e495 f493 own_pd6 rfl (g := (mkF m 193 #[own_jv q0, .second, own_jv q1, .second, own_jv q2, .second, iv p3, iv p4, iv p5, iv (2 : Int32), iv (2 : Int32), iv (1 : Int32), rv b354, rv b363, rv b367, rv b354, .unset] [(.int (2 : Int32)), (.ref b354)])) rfl (by rw [hml]; rfl) rfl (by show 2 * 0 + _ ≤ _; exact Nat.le_of_eq rfl) (hb hby at_193)
        obtain ⟨g496, rfl, hg496, N496q, e496⟩ := Q496
        obtain rfl : q2 = g496 := (hg496.trans (own_at2 (by omega) re361)).symm
        have N496 := Fr.app N495 N496q
        refine own_st st496 ?_
        show own_Goes p e below s _ _ (T496.setTop (mkF m 196 #[own_jv q0, .second, own_jv q1, .second, own_jv q2, .second, iv p3, iv p4, iv p5, iv (2 : Int32), iv (2 : Int32), iv (1 : Int32), rv b354, rv b363, rv b367, rv b354, .unset] [(.long q2)]))
        refine own_st (fun _ k => XS.aload X496.here hx rfl (hb hby at_196) rfl rfl  k) ?_
        show own_Goes p e below s _ _ (T496.setTop (mkF m 198 #[own_jv q0, .second, own_jv q1, .second, own_jv q2, .second, iv p3, iv p4, iv p5, iv (2 : Int32), iv (2 : Int32), iv (1 : Int32), rv b354, rv b363, rv b367, rv b354, .unset] [(.ref b367), (.long q2)]))
        refine own_st (fun _ k => XS.iconst X496.here hx rfl (hb hby at_198) k) ?_
        show own_Goes p e below s _ _ (T496.setTop (mkF m 199 #[own_jv q0, .second, own_jv q1, .second, own_jv q2, .second, iv p3, iv p4, iv p5, iv (2 : Int32), iv (2 : Int32), iv (1 : Int32), rv b354, rv b363, rv b367, rv b354, .unset] [(.int (2 : Int32)), (.ref b367), (.long q2)]))
        refine own_st (fun _ k => own_ldJ X496 hx hZ e496 f494 (j := (2 : Int32)) (by decide) (g := (mkF m 199 #[own_jv q0, .second, own_jv q1, .second, own_jv q2, .second, iv p3, iv p4, iv p5, iv (2 : Int32), iv (2 : Int32), iv (1 : Int32), rv b354, rv b363, rv b367, rv b354, .unset] [(.int (2 : Int32)), (.ref b367), (.long q2)])) rfl rfl (hb hby at_199) _ k) ?_
        show own_Goes p e below s _ _ (T496.setTop (mkF m 200 #[own_jv q0, .second, own_jv q1, .second, own_jv q2, .second, iv p3, iv p4, iv p5, iv (2 : Int32), iv (2 : Int32), iv (1 : Int32), rv b354, rv b363, rv b367, rv b354, .unset] [(.long q2), (.long q2)]))
        refine own_st (fun _ k => XS.lcmp X496.here hx rfl (hb hby at_200) rfl k) ?_
        show own_Goes p e below s _ _ (T496.setTop (mkF m 201 #[own_jv q0, .second, own_jv q1, .second, own_jv q2, .second, iv p3, iv p4, iv p5, iv (2 : Int32), iv (2 : Int32), iv (1 : Int32), rv b354, rv b363, rv b367, rv b354, .unset] [(.int (lcmpW q2 q2))]))
        refine own_st (fun _ k => XS.ifNo X496.here hx rfl (hb hby at_201) rfl ((if0 _ _).trans (teq ((lw_eq _ _).mpr (rfl : q2 = q2))).2) k) ?_
        show own_Goes p e below s _ _ (T496.setTop (mkF m 204 #[own_jv q0, .second, own_jv q1, .second, own_jv q2, .second, iv p3, iv p4, iv p5, iv (2 : Int32), iv (2 : Int32), iv (1 : Int32), rv b354, rv b363, rv b367, rv b354, .unset] []))
        refine own_st (fun _ k => XS.iconst X496.here hx rfl (hb hby at_204) k) ?_
        show own_Goes p e below s _ _ (T496.setTop (mkF m 205 #[own_jv q0, .second, own_jv q1, .second, own_jv q2, .second, iv p3, iv p4, iv p5, iv (2 : Int32), iv (2 : Int32), iv (1 : Int32), rv b354, rv b363, rv b367, rv b354, .unset] [(.int (1 : Int32))]))
        refine own_st (fun _ k => XS.goto X496.here hx rfl (pc0 := 205) (pc' := 209) rfl (hb hby at_205) (by decide) (by decide) k) ?_
        show own_Goes p e below s _ _ (T496.setTop (mkF m 209 #[own_jv q0, .second, own_jv q1, .second, own_jv q2, .second, iv p3, iv p4, iv p5, iv (2 : Int32), iv (2 : Int32), iv (1 : Int32), rv b354, rv b363, rv b367, rv b354, .unset] [(.int (1 : Int32))]))
        refine own_st (fun _ k => XS.istore X496.here hx rfl (hb hby at_209) rfl (l' := #[own_jv q0, .second, own_jv q1, .second, own_jv q2, .second, iv p3, iv p4, iv p5, iv (2 : Int32), iv (2 : Int32), iv (1 : Int32), rv b354, rv b363, rv b367, rv b354, iv (1 : Int32)]) rfl k) ?_
        show own_Goes p e below s _ _ (T496.setTop (mkF m 211 #[own_jv q0, .second, own_jv q1, .second, own_jv q2, .second, iv p3, iv p4, iv p5, iv (2 : Int32), iv (2 : Int32), iv (1 : Int32), rv b354, rv b363, rv b367, rv b354, iv (1 : Int32)] []))
        refine own_st (fun _ k => XS.iload X496.here hx rfl (hb hby at_211) rfl  k) ?_
        show own_Goes p e below s _ _ (T496.setTop (mkF m 213 #[own_jv q0, .second, own_jv q1, .second, own_jv q2, .second, iv p3, iv p4, iv p5, iv (2 : Int32), iv (2 : Int32), iv (1 : Int32), rv b354, rv b363, rv b367, rv b354, iv (1 : Int32)] [(.int (1 : Int32))]))
        refine own_st (fun _ k => XS.ifYes X496.here hx rfl (pc0 := 213) (pc' := 262) rfl (hb hby at_213) rfl ((if0 _ _).trans (feq (by decide : ¬ ((1 : Int32) = (0 : Int32)))).2) (by decide) (by decide) k) ?_
        show own_Goes p e below s _ _ (T496.setTop (mkF m 262 #[own_jv q0, .second, own_jv q1, .second, own_jv q2, .second, iv p3, iv p4, iv p5, iv (2 : Int32), iv (2 : Int32), iv (1 : Int32), rv b354, rv b363, rv b367, rv b354, iv (1 : Int32)] []))
        refine own_st (fun _ k => XS.iload X496.here hx rfl (hb hby at_262) rfl  k) ?_
        show own_Goes p e below s _ _ (T496.setTop (mkF m 264 #[own_jv q0, .second, own_jv q1, .second, own_jv q2, .second, iv p3, iv p4, iv p5, iv (2 : Int32), iv (2 : Int32), iv (1 : Int32), rv b354, rv b363, rv b367, rv b354, iv (1 : Int32)] [(.int (1 : Int32))]))
        exact own_retN X496 hx hlk (1 : Int32) hret (Or.inl rfl) rfl (hb hby at_264) (by decide) (by decide) ⟨rfl, N496⟩
set_option maxRecDepth 65536 in
set_option maxHeartbeats 40000000 in
theorem comes_1 {Post : Tables → Env → Array Value → State → Outcome → State → Prop} (hpost : ∀ tb e args s v u, (limb_1_1.after args s (.returned v) u = true ∧ limb_1_2.after args s (.returned v) u = true ∧ True) → FrameEnd s (.returned v) u (Jvm.fieldLocs frame_1_writes args s ++ Jvm.arrayLocs frame_1_arrays args s ++ Jvm.staticLocs frame_1_statics s) 32 3200 → Post tb e args s (.returned v) u) :
    ArmFor flags0 classFile x code maxLocals ret World_1 tables_1 room_1 Calls_1 rest_1 Pre_1 Post := by
  intro l hfl _ _ p e ha hc hk s m args below hf hA hF happ hP
  obtain ⟨hcalls, hrest, hpre⟩ := hP
  obtain ⟨-, -, -, hnamed, -, -, -, hat⟩ := (Spec.applies_iff hf).mp happ
  obtain ⟨hg, hn⟩ := and_e (Cond.before_iff.mp (show (Jvm.Cond.and given_1 narrow_1).before args s = true from hpre))
  obtain ⟨hcnt, q0⟩ := and_e hg
  obtain ⟨u0, q1⟩ := and_e q0
  obtain ⟨u1, q2⟩ := and_e q1
  obtain ⟨u2, q3⟩ := and_e q2
  obtain ⟨u3, q4⟩ := and_e q3
  obtain ⟨u4, q5⟩ := and_e q4
  obtain ⟨w0, w1, w2, w3, w4, w5, rfl⟩ : ∃ w0 w1 w2 w3 w4 w5 : Value, args = #[w0, w1, w2, w3, w4, w5] := by
    have hs : args.size = 6 := by simpa [Cond.value, given_1] using hcnt
    obtain ⟨L⟩ := args
    match L, hs with
    | [w0, w1, w2, w3, w4, w5], _ => exact ⟨w0, w1, w2, w3, w4, w5, rfl⟩
  have hw := fun d (hd : d ∈ tables_1) => atoms_spec (ws := Jvm.Cond.code x code maxLocals ret :: tables_1) hat d (List.mem_cons_of_mem _ hd)
  have hfit : Fit s := fun {y c} hc i hi => by
    obtain ⟨ha, rfl⟩ := Array.getElem?_eq_some_iff.mp hc
    have q := List.all_eq_true.mp ((Array.all_eq_true_iff_forall_mem.mp hF) _ (Array.getElem_mem ha)) i (List.mem_range.mpr hi)
    simpa [Array.getElem?_eq_getElem hi] using q
  obtain ⟨i0, ei0⟩ := isL_v u0
  obtain rfl : w0 = (.long i0) := Option.some.inj ei0
  obtain ⟨i1, ei1⟩ := isL_v u1
  obtain rfl : w1 = (.long i1) := Option.some.inj ei1
  obtain ⟨i2, ei2⟩ := isL_v u2
  obtain rfl : w2 = (.long i2) := Option.some.inj ei2
  obtain ⟨i3, ei3⟩ := is_v u3
  obtain rfl : w3 = (.int i3) := Option.some.inj ei3
  obtain ⟨i4, ei4⟩ := is_v u4
  obtain rfl : w4 = (.int i4) := Option.some.inj ei4
  obtain ⟨i5, ei5⟩ := is_v q5
  obtain rfl : w5 = (.int i5) := Option.some.inj ei5
  have ehi := own_teq hn
  have S1 : Sta s s.heap "com/example/reach2/reach2/model/CodedColumn" "LOOKUP_SHIFT" "I" (.int (55 : Int32)) := Sta.start ehi (Or.inr ⟨(hw _ (List.mem_of_getElem? (i := 3) rfl)), (hw _ (List.mem_of_getElem? (i := 37) rfl))⟩)
  obtain ⟨n, o, h1, h2, h3, _, L, rfl, ⟨rfl, N⟩, hq⟩ := rm0 l s _ hw tables_1 i0 i1 i2 i3 i4 i5 s.heap s.heap.size (Nat.le_refl _) S1 p e ha hc hk s m _ below hf ((Spec.applies_iff_loose hf).mp happ).1 ⟨rfl, State.Warmed39.refl s, rfl⟩ trivial
  refine ⟨n, _, h1, h2, h3, hpost _ _ _ _ _ _ ⟨Cond.after_iff.mpr rfl, Cond.after_iff.mpr (eq_i res_at (Term.int_eval (1)) rfl), trivial⟩ ⟨hq.1, hq.2.1, (hq.2.2.sift fun y hy => Or.inr (N y hy)).mono (by decide) (by decide)⟩⟩
theorem main_1_1 : Claimed_1_1 := comes_1 fun _ _ _ _ _ _ h hF => ⟨h.1, hF⟩
theorem main_1_2 : Claimed_1_2 := comes_1 fun _ _ _ _ _ _ h hF => ⟨h.2.1, hF⟩
end Jvm.Pilot.@@N@@
namespace Jvm.Pilot.@@N@@
open Jvm Jvm.ClassFile Sem Op Lib Jvm.Free Jvm.Stand Jvm.Pilot.@@N@@.Jvm.D
/-! MADE BY PROGRAM (witnessworld.py) out of the Statement's table words and the real class files: 13 classes; the members and pool entries that the words name. The judged class is class 1, her method 1. -/
namespace start1
open Jvm.ClassFile
def u (s : String) : CpInfo := .utf8 (stringToUtf16 s)
/-- a pool by its gaps: so many unusable entries, then the entry; so many at the end -/
def gap : Nat → List CpInfo → List CpInfo
  | 0, r => r
  | n + 1, r => .unusable :: gap n r
def poolList (es : List (Nat × CpInfo)) (last : Nat) : List CpInfo := es.foldr (fun e r => gap e.1 (e.2 :: r)) (gap last [])
def pool (es : List (Nat × CpInfo)) (last : Nat) : Array CpInfo := ⟨poolList es last⟩
def fileOf (pool : Array CpInfo) (this : Nat) (attrs : Array Attribute := #[]) (ms : Array MethodInfo := #[]) (fl : Nat := 33) (sup : Nat := 0) (ifs : Array Nat := #[]) (fds : Array FieldInfo := #[]) : ClassFile where
  minorVersion := 0
  majorVersion := 65
  constantPool := pool
  accessFlags := fl
  thisClass := this
  superClass := sup
  interfaces := ifs
  fields := fds
  methods := ms
  attributes := attrs
def plain (name : String) (sup : Option ClassId) : Class where
  name := name
  kind := .ordinary
  loader := none
  accessFlags := 33
  super := sup
  interfaces := #[]
  cf := none
  fields := #[]
  methods := #[]
  instanceTypes := #[]
  staticTypes := #[]
  resolved := #[]
  callSites := []
  init := .initialized
  statics := none
  mirror := none

def pool0 : Array CpInfo := pool [(5, u "<init>"), (0, u "()V"), (1, .class_ 10), (1, u "java/lang/Object"), (85, u "clone"), (0, u "()Ljava/lang/Object;")] 26

def k0c0 : Code := { maxStack := 0, maxLocals := 1, code := object_method_1_code, exceptionTable := #[], attributes := #[] }
def k0m0 : Method := { name := "<init>", desc := "()V", sig := { parameters := [], returnType := none }, accessFlags := 1, code := some k0c0 }
def k0m1 : Method := { name := "clone", desc := "()Ljava/lang/Object;", sig := { parameters := [], returnType := some (.object "java/lang/Object") }, accessFlags := 260, code := none }
/-- java/lang/Object -/
def k0 : Class := { plain "java/lang/Object" none with
  accessFlags := 33
  interfaces := #[]
  cf := some (fileOf pool0 8 #[] #[{ accessFlags := 1, nameIndex := 5, descriptorIndex := 6, attributes := #[] }, { accessFlags := 260, nameIndex := 96, descriptorIndex := 97, attributes := #[] }] 33 0 #[] #[])
  fields := #[]
  methods := #[k0m0, k0m1]
  instanceTypes := #[]
  staticTypes := #[]
  resolved := Array.replicate 124 none
  statics := none }

def pool1 : Array CpInfo := pool [(2, .class_ 4), (1, u "java/lang/Object"), (0, u "<init>"), (0, u "()V"), (0, .integer 2147483647), (0, .class_ 9), (0, u "com/example/reach2/reach2/model/CodedColumn"), (0, .methodref 8 11), (0, .nameAndType 5 12), (0, u "(I)V"), (0, .methodref 8 14), (0, .nameAndType 15 16), (0, u "set"), (0, u "(IJ)V"), (0, .methodref 8 18), (0, .nameAndType 19 20), (0, u "emptyLike"), (0, u "(I)Lcom/example/reach2/reach2/model/CodedColumn;"), (0, .methodref 8 22), (0, .nameAndType 23 24), (0, u "copyTo"), (0, u "(ILcom/example/reach2/reach2/model/CodedColumn;I)V"), (0, .methodref 8 26), (0, .nameAndType 27 28), (0, u "get"), (0, u "(I)J"), (0, .class_ 30), (0, u "com/example/reach2/reach2/model/CodedColumnCopyToPinLaw"), (2, u "law"), (0, u "(JJJIII)Z")] 5

def k1m0 : Method := { name := "<init>", desc := "()V", sig := { parameters := [], returnType := none }, accessFlags := 1, code := none }
def k1c1 : Code := { maxStack := 5, maxLocals := 17, code := code, exceptionTable := #[], attributes := #[] }
def k1m1 : Method := { name := "law", desc := "(JJJIII)Z", sig := { parameters := [.long, .long, .long, .int, .int, .int], returnType := some .boolean }, accessFlags := 9, code := some k1c1 }
/-- com/example/reach2/reach2/model/CodedColumnCopyToPinLaw -/
def k1 : Class := { plain "com/example/reach2/reach2/model/CodedColumnCopyToPinLaw" (some 0) with
  accessFlags := 49
  interfaces := #[]
  cf := some (fileOf pool1 29 #[] #[{ accessFlags := 1, nameIndex := 5, descriptorIndex := 6, attributes := #[] }, { accessFlags := 9, nameIndex := 33, descriptorIndex := 34, attributes := #[] }] 49 2 #[] #[])
  fields := #[]
  methods := #[k1m0, k1m1]
  instanceTypes := #[]
  staticTypes := #[]
  resolved := Array.replicate 40 none
  statics := none }

def pool2 : Array CpInfo := pool [(1, .class_ 2), (0, u "com/example/reach2/reach2/model/CodedColumn"), (0, .methodref 1 4), (0, .nameAndType 5 6), (0, u "<init>"), (0, u "([B[J[SI[J)V"), (0, .methodref 8 9), (0, .class_ 10), (0, .nameAndType 5 11), (0, u "java/lang/Object"), (0, u "()V"), (0, .fieldref 1 13), (0, .nameAndType 14 15), (0, u "codes"), (0, u "[B"), (0, .fieldref 1 17), (0, .nameAndType 18 19), (0, u "values"), (0, u "[J"), (0, .fieldref 1 21), (0, .nameAndType 22 23), (0, u "lookup"), (0, u "[S"), (0, .fieldref 1 25), (0, .nameAndType 26 27), (0, u "distinct"), (0, u "I"), (0, .fieldref 1 29), (0, .nameAndType 30 19), (0, u "plain"), (0, .methodref 32 33), (0, .class_ 19), (0, .nameAndType 34 35), (0, u "clone"), (0, u "()Ljava/lang/Object;"), (0, .methodref 37 33), (0, .class_ 23), (0, .methodref 1 39), (0, .nameAndType 40 41), (0, u "code"), (0, u "(J)I"), (18, .long 11400714819323198485), (1, .fieldref 1 63), (0, .nameAndType 64 27), (0, u "LOOKUP_SHIFT"), (8, u "MOST_CODES"), (2, u "LOOKUP_SLOTS"), (1, u "(I)V"), (2, u "emptyLike"), (0, u "(I)Lcom/example/reach2/reach2/model/CodedColumn;"), (3, u "get"), (0, u "(I)J"), (0, u "set"), (0, u "(IJ)V"), (1, u "copyTo"), (0, u "(ILcom/example/reach2/reach2/model/CodedColumn;I)V")] 4

def k2c0 : Code := { maxStack := 6, maxLocals := 2, code := prog_47_method_1_code, exceptionTable := #[], attributes := #[] }
def k2m0 : Method := { name := "<init>", desc := "(I)V", sig := { parameters := [.int], returnType := none }, accessFlags := 0, code := some k2c0 }
def k2c1 : Code := { maxStack := 2, maxLocals := 6, code := prog_47_method_2_code, exceptionTable := #[], attributes := #[] }
def k2m1 : Method := { name := "<init>", desc := "([B[J[SI[J)V", sig := { parameters := [(.array .byte), (.array .long), (.array .short), .int, (.array .long)], returnType := none }, accessFlags := 2, code := some k2c1 }
def k2c2 : Code := { maxStack := 7, maxLocals := 2, code := prog_47_method_3_code, exceptionTable := #[], attributes := #[] }
def k2m2 : Method := { name := "emptyLike", desc := "(I)Lcom/example/reach2/reach2/model/CodedColumn;", sig := { parameters := [.int], returnType := some (.object "com/example/reach2/reach2/model/CodedColumn") }, accessFlags := 0, code := some k2c2 }
def k2c3 : Code := { maxStack := 3, maxLocals := 2, code := prog_47_method_5_code, exceptionTable := #[], attributes := #[] }
def k2m3 : Method := { name := "get", desc := "(I)J", sig := { parameters := [.int], returnType := some .long }, accessFlags := 0, code := some k2c3 }
def k2c4 : Code := { maxStack := 4, maxLocals := 5, code := prog_47_method_6_code, exceptionTable := #[], attributes := #[] }
def k2m4 : Method := { name := "set", desc := "(IJ)V", sig := { parameters := [.int, .long], returnType := none }, accessFlags := 0, code := some k2c4 }
def k2c5 : Code := { maxStack := 4, maxLocals := 4, code := prog_47_method_8_code, exceptionTable := #[], attributes := #[] }
def k2m5 : Method := { name := "copyTo", desc := "(ILcom/example/reach2/reach2/model/CodedColumn;I)V", sig := { parameters := [.int, (.object "com/example/reach2/reach2/model/CodedColumn"), .int], returnType := none }, accessFlags := 0, code := some k2c5 }
def k2c6 : Code := { maxStack := 4, maxLocals := 5, code := prog_47_method_10_code, exceptionTable := #[], attributes := #[] }
def k2m6 : Method := { name := "code", desc := "(J)I", sig := { parameters := [.long], returnType := some .int }, accessFlags := 2, code := some k2c6 }
/-- com/example/reach2/reach2/model/CodedColumn -/
def k2 : Class := { plain "com/example/reach2/reach2/model/CodedColumn" (some 0) with
  accessFlags := 48
  interfaces := #[]
  cf := some (fileOf pool2 1 #[] #[{ accessFlags := 0, nameIndex := 5, descriptorIndex := 78, attributes := #[] }, { accessFlags := 2, nameIndex := 5, descriptorIndex := 6, attributes := #[] }, { accessFlags := 0, nameIndex := 81, descriptorIndex := 82, attributes := #[] }, { accessFlags := 0, nameIndex := 86, descriptorIndex := 87, attributes := #[] }, { accessFlags := 0, nameIndex := 88, descriptorIndex := 89, attributes := #[] }, { accessFlags := 0, nameIndex := 91, descriptorIndex := 92, attributes := #[] }, { accessFlags := 2, nameIndex := 40, descriptorIndex := 41, attributes := #[] }] 48 8 #[] #[{ accessFlags := 26, nameIndex := 73, descriptorIndex := 27, attributes := #[] }, { accessFlags := 26, nameIndex := 76, descriptorIndex := 27, attributes := #[] }, { accessFlags := 26, nameIndex := 64, descriptorIndex := 27, attributes := #[] }, { accessFlags := 2, nameIndex := 14, descriptorIndex := 15, attributes := #[] }, { accessFlags := 2, nameIndex := 18, descriptorIndex := 19, attributes := #[] }, { accessFlags := 2, nameIndex := 22, descriptorIndex := 23, attributes := #[] }, { accessFlags := 2, nameIndex := 26, descriptorIndex := 27, attributes := #[] }, { accessFlags := 2, nameIndex := 30, descriptorIndex := 19, attributes := #[] }])
  fields := #[{ name := "MOST_CODES", type := .int, accessFlags := 26, slot := 0, constantValue := 0 }, { name := "LOOKUP_SLOTS", type := .int, accessFlags := 26, slot := 1, constantValue := 0 }, { name := "LOOKUP_SHIFT", type := .int, accessFlags := 26, slot := 2, constantValue := 0 }, { name := "codes", type := (.array .byte), accessFlags := 2, slot := 0, constantValue := 0 }, { name := "values", type := (.array .long), accessFlags := 2, slot := 1, constantValue := 0 }, { name := "lookup", type := (.array .short), accessFlags := 2, slot := 2, constantValue := 0 }, { name := "distinct", type := .int, accessFlags := 2, slot := 3, constantValue := 0 }, { name := "plain", type := (.array .long), accessFlags := 2, slot := 4, constantValue := 0 }]
  methods := #[k2m0, k2m1, k2m2, k2m3, k2m4, k2m5, k2m6]
  instanceTypes := #[(.array .byte), (.array .long), (.array .short), .int, (.array .long)]
  staticTypes := #[.int, .int, .int]
  resolved := Array.replicate 97 none
  statics := some 0 }

def pool3 : Array CpInfo := pool [(1, .class_ 2), (0, u "java/lang/Cloneable"), (0, .class_ 4), (0, u "java/lang/Object")] 2

/-- java/lang/Cloneable -/
def k3 : Class := { plain "java/lang/Cloneable" (some 0) with
  accessFlags := 1537
  interfaces := #[]
  cf := some (fileOf pool3 1 #[] #[] 1537 3 #[] #[])
  fields := #[]
  methods := #[]
  instanceTypes := #[]
  staticTypes := #[]
  resolved := Array.replicate 7 none
  statics := none }

def pool4 : Array CpInfo := pool [(1, u "java/io/Serializable"), (0, .class_ 1), (0, u "java/lang/Object"), (0, .class_ 3)] 3

/-- java/io/Serializable -/
def k4 : Class := { plain "java/io/Serializable" (some 0) with
  accessFlags := 1537
  interfaces := #[]
  cf := some (fileOf pool4 2 #[] #[] 1537 4 #[] #[])
  fields := #[]
  methods := #[]
  instanceTypes := #[]
  staticTypes := #[]
  resolved := Array.replicate 8 none
  statics := none }

/-- the primitive byte -/
def k5 : Class := { plain "byte" none with kind := .primitive 'B', accessFlags := 0x411 }
/-- [B -/
def k6 : Class := { plain "[B" (some 0) with kind := .array 5 .byte, interfaces := #[3, 4], accessFlags := 1041 }

/-- the primitive int -/
def k7 : Class := { plain "int" none with kind := .primitive 'I', accessFlags := 0x411 }
/-- [I -/
def k8 : Class := { plain "[I" (some 0) with kind := .array 7 .int, interfaces := #[3, 4], accessFlags := 1041 }

/-- the primitive long -/
def k9 : Class := { plain "long" none with kind := .primitive 'J', accessFlags := 0x411 }
/-- [J -/
def k10 : Class := { plain "[J" (some 0) with kind := .array 9 .long, interfaces := #[3, 4], accessFlags := 1041 }

/-- the primitive short -/
def k11 : Class := { plain "short" none with kind := .primitive 'S', accessFlags := 0x411 }
/-- [S -/
def k12 : Class := { plain "[S" (some 0) with kind := .array 11 .short, interfaces := #[3, 4], accessFlags := 1041 }

def heap : Heap := #[{ cls := 2, slots := #[.int 0, .int 0, .int 55], vm := .statics 2 }]
def classes : Array Class := #[k0, k1, k2, k3, k4, k5, k6, k7, k8, k9, k10, k11, k12]
def interned : List (Array UInt16 × Addr) := []
def slotsUsed : Nat := 3
def theMethod : MethodId := ⟨1, 1⟩
def args0 : Array Value := #[.long 5, .long 6, .long 7, .int 1, .int 2, .int 1]
def aboutOver (below : List Frame) : State where
  vm := { classes := classes, interned := interned.toArray }
  heap := heap
  slotsUsed := slotsUsed
  threads := #[{ frames := .invoking theMethod args0 :: below }]
def below0 : List Frame := [.native { method := ⟨0, 0⟩, args := #[] }]
def about1 : State := aboutOver below0
def p0 : Program := .bare "" "" ""
def e0 : Env := launch0.env 0 0 0
theorem w_frames : about1.frames = Frame.invoking theMethod args0 :: below0 := rfl
set_option maxRecDepth 65536 in
theorem w_args : argsFit about1.vm theMethod args0 = true := by decide +kernel
set_option maxRecDepth 65536 in
theorem w_heap : heapFits about1 = true := by decide +kernel
set_option maxRecDepth 65536 in
theorem w_runnable : about1.curStatus? = some .runnable := by decide +kernel
set_option maxRecDepth 65536 in
theorem w_alone : about1.alone = true := by decide +kernel
set_option maxRecDepth 65536 in
theorem w_named : about1.methodNamed? x = some theMethod := by decide +kernel
set_option maxRecDepth 65536 in
theorem w_hears : about1.hears theMethod below0 = true := by decide +kernel
set_option maxRecDepth 65536 in
theorem w_ripe : about1.ripe theMethod args0 below0 = true := by decide +kernel
theorem w_running : about1.status = .running := rfl
set_option maxRecDepth 65536 in
theorem w_room : about1.hasRoom e0.platform room_1 = true :=
  launch0.hasRoom_least _ room_1 (by decide +kernel) (by decide +kernel) (by decide +kernel) (by decide +kernel) (by decide +kernel) (by decide +kernel)
theorem allAtoms_all (ts : List Jvm.Cond) (a : Array Jvm.Value) (st : Jvm.State) : (allAtoms ts).before a st = ts.all (fun c => c.before a st) := by
  induction ts with
  | nil => rfl
  | cons c t ih =>
    show (Jvm.Cond.and c (allAtoms t)).before a st = _
    rw [Jvm.Cond.before_and, ih, List.all_cons]
def words1 : List Jvm.Cond := Jvm.Cond.code x code maxLocals ret :: tables_1
/-- a 'code' word, met by the world's own term for the bytes: nothing is compared byte by byte -/
theorem code_word {y : MethodName} {bytes : ByteArray} {mx : Nat} {rt : Option FieldType} {a : Array Value} {s : State} {m : MethodId} {meth : Method} {c : Code} (h1 : s.methodNamed? y = some m) (h2 : s.vm.method? m = some meth) (h3 : meth.code = some c) (h4 : c.code = bytes)
    (h5 : (c.maxLocals == mx && c.exceptionTable.isEmpty && decide (c.maxStack ≤ mostOperands) && decide (meth.sig.returnType = rt) && !meth.locks && decide (parseMethodDescriptor y.desc = some meth.sig)) = true) : (Jvm.Cond.code y bytes mx rt).before a s = true := by
  simp only [Bool.and_eq_true, beq_iff_eq, Bool.not_eq_true', decide_eq_true_eq] at h5
  obtain ⟨⟨⟨⟨⟨g1, g2⟩, g3⟩, g4⟩, g5⟩, g6⟩ := h5
  simp [Cond.before, Cond.holds, Cond.value, h1, h2, h3, h4, g1, g2, g3, g4, g5, g6]
def isCode : Jvm.Cond → Bool
  | .code _ _ _ _ => true
  | _ => false
theorem all_split {L : List Jvm.Cond} {P : Jvm.Cond → Bool} (h1 : L.all (fun c => isCode c || P c) = true) (h2 : ∀ c ∈ L.filter isCode, P c = true) : L.all P = true := by
  refine List.all_eq_true.mpr fun c hc => ?_
  have h := List.all_eq_true.mp h1 c hc
  rcases Bool.eq_false_or_eq_true (isCode c) with hi | hi
  · exact h2 c (List.mem_filter.mpr ⟨hc, hi⟩)
  · simpa [hi] using h
set_option maxRecDepth 65536 in
theorem w_c0 : (Jvm.Cond.code x code maxLocals ret).before args0 about1 = true := code_word (m := ⟨1, 1⟩) (meth := k1m1) (c := k1c1) (by decide +kernel) rfl rfl rfl (by decide +kernel)
set_option maxRecDepth 65536 in
theorem w_c1 : (Jvm.Cond.code ({ cls := "com/example/reach2/reach2/model/CodedColumn", name := "<init>", desc := "(I)V" } : Jvm.MethodName) prog_47_method_1_code (2 : Nat) (Option.none : Option Jvm.ClassFile.FieldType)).before args0 about1 = true := code_word (m := ⟨2, 0⟩) (meth := k2m0) (c := k2c0) (by decide +kernel) rfl rfl rfl (by decide +kernel)
set_option maxRecDepth 65536 in
theorem w_c2 : (Jvm.Cond.code ({ cls := "com/example/reach2/reach2/model/CodedColumn", name := "<init>", desc := "([B[J[SI[J)V" } : Jvm.MethodName) prog_47_method_2_code (6 : Nat) (Option.none : Option Jvm.ClassFile.FieldType)).before args0 about1 = true := code_word (m := ⟨2, 1⟩) (meth := k2m1) (c := k2c1) (by decide +kernel) rfl rfl rfl (by decide +kernel)
set_option maxRecDepth 65536 in
theorem w_c3 : (Jvm.Cond.code ({ cls := "java/lang/Object", name := "<init>", desc := "()V" } : Jvm.MethodName) object_method_1_code (1 : Nat) (Option.none : Option Jvm.ClassFile.FieldType)).before args0 about1 = true := code_word (m := ⟨0, 0⟩) (meth := k0m0) (c := k0c0) (by decide +kernel) rfl rfl rfl (by decide +kernel)
set_option maxRecDepth 65536 in
theorem w_c4 : (Jvm.Cond.code ({ cls := "com/example/reach2/reach2/model/CodedColumn", name := "set", desc := "(IJ)V" } : Jvm.MethodName) prog_47_method_6_code (5 : Nat) (Option.none : Option Jvm.ClassFile.FieldType)).before args0 about1 = true := code_word (m := ⟨2, 4⟩) (meth := k2m4) (c := k2c4) (by decide +kernel) rfl rfl rfl (by decide +kernel)
set_option maxRecDepth 65536 in
theorem w_c5 : (Jvm.Cond.code ({ cls := "com/example/reach2/reach2/model/CodedColumn", name := "code", desc := "(J)I" } : Jvm.MethodName) prog_47_method_10_code (5 : Nat) (Option.some Jvm.ClassFile.FieldType.int)).before args0 about1 = true := code_word (m := ⟨2, 6⟩) (meth := k2m6) (c := k2c6) (by decide +kernel) rfl rfl rfl (by decide +kernel)
set_option maxRecDepth 65536 in
theorem w_c6 : (Jvm.Cond.code ({ cls := "com/example/reach2/reach2/model/CodedColumn", name := "copyTo", desc := "(ILcom/example/reach2/reach2/model/CodedColumn;I)V" } : Jvm.MethodName) prog_47_method_8_code (4 : Nat) (Option.none : Option Jvm.ClassFile.FieldType)).before args0 about1 = true := code_word (m := ⟨2, 5⟩) (meth := k2m5) (c := k2c5) (by decide +kernel) rfl rfl rfl (by decide +kernel)
set_option maxRecDepth 65536 in
theorem w_c7 : (Jvm.Cond.code ({ cls := "com/example/reach2/reach2/model/CodedColumn", name := "get", desc := "(I)J" } : Jvm.MethodName) prog_47_method_5_code (2 : Nat) (Option.some Jvm.ClassFile.FieldType.long)).before args0 about1 = true := code_word (m := ⟨2, 3⟩) (meth := k2m3) (c := k2c3) (by decide +kernel) rfl rfl rfl (by decide +kernel)
set_option maxRecDepth 65536 in
theorem w_c8 : (Jvm.Cond.code ({ cls := "com/example/reach2/reach2/model/CodedColumn", name := "emptyLike", desc := "(I)Lcom/example/reach2/reach2/model/CodedColumn;" } : Jvm.MethodName) prog_47_method_3_code (2 : Nat) (Option.some (Jvm.ClassFile.FieldType.object "com/example/reach2/reach2/model/CodedColumn"))).before args0 about1 = true := code_word (m := ⟨2, 2⟩) (meth := k2m2) (c := k2c2) (by decide +kernel) rfl rfl rfl (by decide +kernel)
def codes1 : List Jvm.Cond := [Jvm.Cond.code x code maxLocals ret, Jvm.Cond.code ({ cls := "com/example/reach2/reach2/model/CodedColumn", name := "<init>", desc := "(I)V" } : Jvm.MethodName) prog_47_method_1_code (2 : Nat) (Option.none : Option Jvm.ClassFile.FieldType), Jvm.Cond.code ({ cls := "com/example/reach2/reach2/model/CodedColumn", name := "<init>", desc := "([B[J[SI[J)V" } : Jvm.MethodName) prog_47_method_2_code (6 : Nat) (Option.none : Option Jvm.ClassFile.FieldType), Jvm.Cond.code ({ cls := "java/lang/Object", name := "<init>", desc := "()V" } : Jvm.MethodName) object_method_1_code (1 : Nat) (Option.none : Option Jvm.ClassFile.FieldType), Jvm.Cond.code ({ cls := "com/example/reach2/reach2/model/CodedColumn", name := "set", desc := "(IJ)V" } : Jvm.MethodName) prog_47_method_6_code (5 : Nat) (Option.none : Option Jvm.ClassFile.FieldType), Jvm.Cond.code ({ cls := "com/example/reach2/reach2/model/CodedColumn", name := "code", desc := "(J)I" } : Jvm.MethodName) prog_47_method_10_code (5 : Nat) (Option.some Jvm.ClassFile.FieldType.int), Jvm.Cond.code ({ cls := "com/example/reach2/reach2/model/CodedColumn", name := "copyTo", desc := "(ILcom/example/reach2/reach2/model/CodedColumn;I)V" } : Jvm.MethodName) prog_47_method_8_code (4 : Nat) (Option.none : Option Jvm.ClassFile.FieldType), Jvm.Cond.code ({ cls := "com/example/reach2/reach2/model/CodedColumn", name := "get", desc := "(I)J" } : Jvm.MethodName) prog_47_method_5_code (2 : Nat) (Option.some Jvm.ClassFile.FieldType.long), Jvm.Cond.code ({ cls := "com/example/reach2/reach2/model/CodedColumn", name := "emptyLike", desc := "(I)Lcom/example/reach2/reach2/model/CodedColumn;" } : Jvm.MethodName) prog_47_method_3_code (2 : Nat) (Option.some (Jvm.ClassFile.FieldType.object "com/example/reach2/reach2/model/CodedColumn"))]
set_option maxRecDepth 65536 in
theorem codes_eq : words1.filter isCode = codes1 := rfl
theorem w_codes : ∀ c ∈ words1.filter isCode, c.before args0 about1 = true := by
  rw [codes_eq]
  intro c hc
  simp only [codes1, List.mem_cons, List.not_mem_nil, or_false] at hc
  rcases hc with rfl | rfl | rfl | rfl | rfl | rfl | rfl | rfl | rfl
  · exact w_c0
  · exact w_c1
  · exact w_c2
  · exact w_c3
  · exact w_c4
  · exact w_c5
  · exact w_c6
  · exact w_c7
  · exact w_c8
set_option maxRecDepth 65536 in
theorem w_t1 : (words1.take 24).all (fun c => isCode c || c.before args0 about1) = true := by decide +kernel
set_option maxRecDepth 65536 in
theorem w_t2 : ((words1.drop 24).take 24).all (fun c => isCode c || c.before args0 about1) = true := by decide +kernel
set_option maxRecDepth 65536 in
theorem w_t3 : ((words1.drop 24).drop 24).all (fun c => isCode c || c.before args0 about1) = true := by decide +kernel
theorem w_tables : (allAtoms (Jvm.Cond.code x code maxLocals ret :: tables_1)).before args0 about1 = true := by
  rw [allAtoms_all]
  show words1.all (fun c => c.before args0 about1) = true
  refine all_split ?_ w_codes
  rw [← List.take_append_drop 24 words1, List.all_append, w_t1, ← List.take_append_drop 24 (words1.drop 24), List.all_append, w_t2, w_t3]
  rfl
set_option maxRecDepth 65536 in
theorem w_case : (Jvm.Cond.and given_1 narrow_1).before args0 about1 = true := by decide +kernel
theorem w_applies : (headSpec (Jvm.Cond.code x code maxLocals ret :: tables_1) room_1).applies x e0.platform about1 = true :=
  (Spec.applies_iff w_frames).mpr ⟨w_running, w_runnable, w_alone, w_named, w_hears, w_ripe, w_room, w_tables⟩
theorem atStart : AtStart classFile x code maxLocals ret World_1 tables_1 room_1 Calls_1 rest_1 Pre_1 launch0 p0 e0 about1 theMethod args0 below0 :=
  ⟨lists_1, trivial, launch0.admits_env _ _ _, launch0.least_env, fairChoices_fair.cas, fairChoices_fair.clock, w_frames, w_args, w_heap, w_applies, trivial, trivial, w_case⟩
end start1
theorem witness_1 : WitnessClaimed_1 := ⟨start1.p0, start1.e0, start1.about1, start1.theMethod, start1.args0, start1.below0, start1.atStart⟩
end Jvm.Pilot.@@N@@
