import JvmDerived
import JvmDerived.Pilot.@@N@@Statement
import JvmDerived.Pilot.@@N@@Code
set_option linter.unusedVariables false
set_option linter.unusedSimpArgs false
namespace Jvm.Pilot.@@N@@
open Jvm Jvm.ClassFile Sem Op Lib Jvm.Free Jvm.Stand Jvm.LawKit Jvm.RoadKit Bundle Jvm.Pilot.@@N@@.Jvm.D
abbrev own_jv (x : Int64) : Slot := .val (.long x)
theorem own_i_lt {a b : Int32} (h : a < b) : a.toInt < b.toInt := Int32.lt_iff_toInt_lt.mp h
theorem own_i_nlt {a b : Int32} (h : ¬ a < b) : b.toInt ≤ a.toInt := Int.not_lt.mp fun q => h (Int32.lt_iff_toInt_lt.mpr q)
theorem own_i_eq {a b : Int32} (h : a = b) : a.toInt = b.toInt := congrArg Int32.toInt h
theorem own_i_ne {a b : Int32} (h : ¬ a = b) : ¬ a.toInt = b.toInt := fun q => h (Int32.toInt_inj.mp q)
theorem own_j_lt {a b : Int64} (h : a < b) : a.toInt < b.toInt := Int64.lt_iff_toInt_lt.mp h
theorem own_j_nlt {a b : Int64} (h : ¬ a < b) : b.toInt ≤ a.toInt := Int.not_lt.mp fun q => h (Int64.lt_iff_toInt_lt.mpr q)
theorem own_j_eq {a b : Int64} (h : a = b) : a.toInt = b.toInt := congrArg Int64.toInt h
theorem own_j_ne {a b : Int64} (h : ¬ a = b) : ¬ a.toInt = b.toInt := fun q => h (Int64.toInt_inj.mp q)
theorem own_b1 {P : Prop} (h : P) : ((1 : Int32).toInt = 1 ∧ P) ∨ ((1 : Int32).toInt = 0 ∧ ¬ P) := Or.inl ⟨by decide, h⟩
theorem own_b0 {P : Prop} (h : ¬ P) : ((0 : Int32).toInt = 1 ∧ P) ∨ ((0 : Int32).toInt = 0 ∧ ¬ P) := Or.inr ⟨by decide, h⟩
theorem own_cat {w : Value} (hw : w.isRef = true) : w.category = 1 := by rcases ref_cases hw with rfl | ⟨a, rfl⟩ <;> rfl
theorem own_fitR {t : FieldType} (ht : t.isReference = true) {w : Value} (hw : w.isRef = true) : fits t w = true := by
  rcases ref_cases hw with rfl | ⟨a, rfl⟩ <;> cases t <;> first | rfl | cases ht
theorem own_static {s : State} {args : Array Value} {C n d K : String} (h : (Jvm.Cond.exactly (Jvm.Term.static C n d) K).value args s none s [] = some true) (wi : (Jvm.Cond.initialized C).before args s = true) (wl : (Jvm.Cond.laysStatic C n d).before args s = true) : ∃ a, (Jvm.Term.static C n d).eval args s none [] s = some (.ref a) ∧ Sta s s.heap C n d (.ref a) ∧ Exa s s.heap a K := by
  obtain ⟨a, ev⟩ := exa_v h
  exact ⟨a, ev, Sta.start ev (Or.inr ⟨wi, wl⟩), Exa.start ev h⟩
theorem own_teq {s : State} {args : Array Value} {t : Jvm.Term} {x : Int32} (h : (Jvm.Cond.eq t (Jvm.Term.int x)).value args s none s [] = some true) : t.eval args s none [] s = some (.int x) := by
  simp only [Cond.value, Term.int_eval] at h
  cases hv : t.eval args s none [] s with
  | none => simp [hv] at h
  | some v => cases v <;> simp [hv] at h ⊢; exact h
theorem own_fint {s : State} {args : Array Value} {t : Jvm.Term} {C n d : String} {x : Int32} {a : Addr} (h : (Jvm.Cond.eq (Jvm.Term.field t C n d) (Jvm.Term.int x)).value args s none s [] = some true) (e : t.eval args s none [] s = some (.ref a)) : s.fieldOf? a C n d = some (.int x) := by
  have q := fld_at (C := C) (n := n) (dd := d) e
  simp only [Cond.value, q, Term.int_eval] at h
  cases hv : s.fieldOf? a C n d with
  | none => simp [hv] at h
  | some v => cases v <;> simp [hv] at h ⊢; exact h
theorem own_ord {s : State} {args : Array Value} {t t' : Jvm.Term} {C n d : String} {x y : Int32} {a b : Nat} (h : (Jvm.Cond.eq (Jvm.Term.field t C n d) (Jvm.Term.int x)).value args s none s [] = some true) (e : t.eval args s none [] s = some (.ref a)) (h' : (Jvm.Cond.eq (Jvm.Term.field t' C n d) (Jvm.Term.int y)).value args s none s [] = some true) (e' : t'.eval args s none [] s = some (.ref b)) (hn : x ≠ y) : ¬ a = b := fun q => by
  subst q
  have := (own_fint h e).symm.trans (own_fint h' e')
  cases this
  exact hn rfl
def own_O (Z : State) (a : Addr) (k : Int32) : Prop := Z.fieldOf? a "java/lang/Enum" "ordinal" "I" = some (.int k)
theorem own_one {Z : State} {a b : Nat} {i j : Int32} (h : own_O Z a i) (h' : own_O Z b j) (hn : i ≠ j) : ¬ a = b := fun q => by
  subst q
  have := Eq.symm h |>.trans h'
  cases this
  exact hn rfl
theorem own_fldR {s : State} {args : Array Value} {t : Jvm.Term} {C n d K : String} {a : Addr} (h : (Jvm.Cond.exactly (Jvm.Term.field t C n d) K).value args s none s [] = some true) (e : t.eval args s none [] s = some (.ref a)) : ∃ b, Fld s s.heap a C n d (.ref b) := by
  obtain ⟨b, ev⟩ := exa_v h
  rw [fld_at e] at ev
  exact ⟨b, Fld.start ev⟩
theorem own_fldN {s : State} {args : Array Value} {t : Jvm.Term} {C n d : String} {a : Addr} (h : (Jvm.Cond.eq (Jvm.Term.field t C n d) Jvm.Term.null).value args s none s [] = some true) (e : t.eval args s none [] s = some (.ref a)) : Fld s s.heap a C n d .null := by
  have ev := null_v h
  rw [fld_at e] at ev
  exact Fld.start ev
theorem own_ne {x y : Addr} (h : @Ne Nat x y) : x ≠ y := h
theorem own_lt {x : Addr} {y : Nat} (h : x < y) : @LT.lt Nat instLTNat x y := h
section OwnKit
variable {p : Program} {l : Launch} {e : Env} {R : Room} {s : State} {m : MethodId} {args : Array Value} {below : List Frame} {meth : Method} {c : Code} {T : State} {locs : List Loc} {cells slots : Nat} {Z : State} {a0 : Array Value} {h h' : Heap} {Q : Option Value → Heap → List Loc → Prop}
/-- from U the run comes to its end, and what it leaves is Q's -/
def own_Goes (p : Program) (e : Env) (below : List Frame) (s : State) (R : Room) (Q : Option Value → Heap → List Loc → Prop) (U : State) : Prop :=
  ∃ s₂ o, Steps p.tables e below U s₂ ∧ s₂.status = .running ∧ Ended s₂ below o ∧ ∃ v L, o = .returned v ∧ Q v s₂.heap L ∧ FrameEnd s o s₂ L R.cells R.slots
theorem own_st {U U' : State} (k : ∀ t, Steps p.tables e below U' t → Steps p.tables e below U t) (g : own_Goes p e below s R Q U') : own_Goes p e below s R Q U := by
  obtain ⟨s₂, o, h1, h2⟩ := g
  exact ⟨s₂, o, k _ h1, h2⟩
theorem own_fin (X : Stand p l e R s m args below meth c T locs cells slots) (hk : meth.locks = false) {v : Option Value} (hv : meth.sig.returnType = none → v = none) {U : State}
    (hs : ∀ fs, (∀ (f : JFrame) (acts : List Action), f.method = m → f.locked = none → f.entered = [] → (doReturn e (T.setTop f) acts v).1 = T.setFrames fs) → Steps p.tables e below U (T.setFrames fs))
    (hc : cells ≤ R.cells) (hl : slots ≤ R.slots) (q : Q v T.heap locs) : own_Goes p e below s R Q U := by
  obtain ⟨fs, hr, hrun, hended, hW, hsame⟩ := X.leave hv hk
  exact ⟨_, _, hs fs hr, hrun, hended, v, locs, rfl, q, ⟨v, rfl⟩, hW, hsame.mono hc hl⟩
theorem own_ret (X : Stand p l e R s m args below meth c T locs cells slots) (hx : p.tables.exec = Jvm.exec) (hk : meth.locks = false) {pc : Nat} {Ls : Array Slot} {w : Value} {t : FieldType} {i : Instr} {rest : List Value} (hret : meth.sig.returnType = some t) (hn : narrow t w = w)
    (hi : (i = .ireturn ∧ (t = .int ∨ t = .boolean ∨ t = .byte ∨ t = .char ∨ t = .short) ∧ ∃ z, w = .int z) ∨ (i = .lreturn ∧ t = .long ∧ ∃ z, w = .long z) ∨ (i = .dreturn ∧ t = .double ∧ ∃ z, w = .double z) ∨ (i = .freturn ∧ t = .float ∧ ∃ z, w = .float z) ∨ (i = .areturn ∧ t.isReference = true ∧ w.isRef = true))
    (hd : decode c.code pc = .ok (i, 1)) (hc : cells ≤ R.cells) (hl : slots ≤ R.slots) (q : Q (some w) T.heap locs) : own_Goes p e below s R Q (T.setTop (mkF m pc Ls (w :: rest))) :=
  own_fin X hk (fun h => by rw [hret] at h; cases h) (fun fs hr => retOut X hx hret hn hi hd hr) hc hl q
theorem own_retI (X : Stand p l e R s m args below meth c T locs cells slots) (hx : p.tables.exec = Jvm.exec) (hk : meth.locks = false) {pc : Nat} {Ls : Array Slot} {z : Int32} {rest : List Value} (hret : meth.sig.returnType = some .int)
    (hd : decode c.code pc = .ok (.ireturn, 1)) (hc : cells ≤ R.cells) (hl : slots ≤ R.slots) (q : Q (some (.int z)) T.heap locs) : own_Goes p e below s R Q (T.setTop (mkF m pc Ls (.int z :: rest))) :=
  own_ret X hx hk hret rfl (Or.inl ⟨rfl, Or.inl rfl, z, rfl⟩) hd hc hl q
theorem own_retJ (X : Stand p l e R s m args below meth c T locs cells slots) (hx : p.tables.exec = Jvm.exec) (hk : meth.locks = false) {pc : Nat} {Ls : Array Slot} {z : Int64} {rest : List Value} (hret : meth.sig.returnType = some .long)
    (hd : decode c.code pc = .ok (.lreturn, 1)) (hc : cells ≤ R.cells) (hl : slots ≤ R.slots) (q : Q (some (.long z)) T.heap locs) : own_Goes p e below s R Q (T.setTop (mkF m pc Ls (.long z :: rest))) :=
  own_ret X hx hk hret rfl (Or.inr (Or.inl ⟨rfl, rfl, z, rfl⟩)) hd hc hl q
theorem own_narR {t : FieldType} (ht : t.isReference = true) {w : Value} (hw : w.isRef = true) : narrow t w = w := by
  rcases ref_cases hw with rfl | ⟨a, rfl⟩ <;> cases t <;> first | rfl | cases ht
theorem own_retR (X : Stand p l e R s m args below meth c T locs cells slots) (hx : p.tables.exec = Jvm.exec) (hk : meth.locks = false) {pc : Nat} {Ls : Array Slot} {w : Value} {t : FieldType} {rest : List Value} (hret : meth.sig.returnType = some t) (ht : t.isReference = true) (hw : w.isRef = true)
    (hd : decode c.code pc = .ok (.areturn, 1)) (hc : cells ≤ R.cells) (hl : slots ≤ R.slots) (q : Q (some w) T.heap locs) : own_Goes p e below s R Q (T.setTop (mkF m pc Ls (w :: rest))) :=
  own_ret X hx hk hret (own_narR ht hw) (Or.inr (Or.inr (Or.inr (Or.inr ⟨rfl, ht, hw⟩)))) hd hc hl q
theorem own_retN (X : Stand p l e R s m args below meth c T locs cells slots) (hx : p.tables.exec = Jvm.exec) (hk : meth.locks = false) {pc : Nat} {Ls : Array Slot} {z : Int32} (z' : Int32) {t : FieldType} {rest : List Value} (hret : meth.sig.returnType = some t) (ht : t = .boolean ∨ t = .byte ∨ t = .char ∨ t = .short) (hz : nar t z = z')
    (hd : decode c.code pc = .ok (.ireturn, 1)) (hc : cells ≤ R.cells) (hl : slots ≤ R.slots) (q : Q (some (.int z')) T.heap locs) : own_Goes p e below s R Q (T.setTop (mkF m pc Ls (.int z :: rest))) := by
  subst hz
  exact own_fin X hk (fun h => by rw [hret] at h; cases h) (fun fs hr => retN X hx hret ht hd hr) hc hl q
theorem own_ret0 (X : Stand p l e R s m args below meth c T locs cells slots) (hx : p.tables.exec = Jvm.exec) (hk : meth.locks = false) {pc : Nat} {Ls : Array Slot} (hret : meth.sig.returnType = none)
    (hd : decode c.code pc = .ok (.return_, 1)) (hc : cells ≤ R.cells) (hl : slots ≤ R.slots) (q : Q none T.heap locs) : own_Goes p e below s R Q (T.setTop (mkF m pc Ls [])) :=
  own_fin X hk (fun _ => rfl) (fun fs hr => X.returnOut hx hret hd hr) hc hl q
theorem own_enter {y : MethodName} {bytes : ByteArray} {maxL : Nat} {ret : Option FieldType} {ws : List Jvm.Cond} {as' : Array Value} {h0 : Heap} {F : MethodId → JFrame}
    (hp : plainFor y = true) (hf : ∀ m, entryFrame m as' maxL = F m)
    (body : ∀ (p : Program) (e : Env) (s : State) (m : MethodId) (below : List Frame) (meth : Method) (c : Code) (T : State), Stand p l e R s m as' below meth c T [] 0 0 → p.tables.exec = Jvm.exec → c.code = bytes → c.maxLocals = maxL → meth.sig.returnType = ret → meth.locks = false → meth.name = y.name → s.vm.findClass y.cls = some m.cls → Z.Warmed39 s.vm → T.heap = h0 → own_Goes p e below s R Q (T.setTop (F m))) :
    MetFree l y (head1 (Jvm.Cond.code y bytes maxL ret :: ws) R) (fun a U => a = as' ∧ Z.Warmed39 U.vm ∧ U.heap = h0) (fun _ _ _ _ _ => True) (fun _ U o U' => ∃ v L, o = .returned v ∧ Q v U'.heap L ∧ FrameEnd U o U' L R.cells R.slots) := by
  refine MetFree.of_bodySF hp hisR ?_
  intro p e s m args below meth c s₁ Bd hml0 hP hK
  obtain ⟨rfl, hZ, hh⟩ := hP
  have e0 : s₁.heap = h0 := by rw [← hh, Bd.state]; rfl
  have g := body p e s m below meth c s₁ (Stand.of_body Bd) Bd.exec Bd.bytes hml0 Bd.returns Bd.notSynchronized (name_of_methodNamed Bd.named Bd.method).1 (findClass_of_methodNamed Bd.named) hZ e0
  rw [hf]
  exact g
theorem own_callS (X : Stand p l e R s m args below meth c T locs cells slots) (hx : p.tables.exec = Jvm.exec) (hZ : Z.Warmed39 s.vm) {own : String} {index : Nat} {y : MethodName} {bytes : ByteArray} {maxL : Nat} {ret : Option FieldType}
    (hown : s.vm.findClass own = some m.cls) (w1 : (Jvm.Cond.methodLink own index y).before a0 Z = true) (w2 : (Jvm.Cond.static y).before a0 Z = true) (w3 : (Jvm.Cond.initialized y.cls).before a0 Z = true) (w4 : (Jvm.Cond.code y bytes maxL ret).before a0 Z = true)
    (hy : y.cls ≠ "java/lang/invoke/MethodHandle" ∧ y.cls ≠ "java/lang/invoke/VarHandle") {W : Nat} {rm : Room} {argsL rest : List Value} {Qc : Option Value → Heap → List Loc → Prop}
    (hM : MetFree l y (head1 [Jvm.Cond.code y bytes maxL ret] rm) (fun a U => a = argsL.toArray ∧ Z.Warmed39 U.vm ∧ U.heap = h) (fun _ _ _ _ _ => True) (fun _ U o U' => ∃ v L, o = .returned v ∧ Qc v U'.heap L ∧ FrameEnd U o U' L rm.cells rm.slots))
    (hf : rm.frames + 1 ≤ R.frames) (hl : W + (maxL + 11) + rm.locals ≤ R.locals) (hc : cells + rm.cells ≤ R.cells) (hs : slots + rm.slots ≤ R.slots) (eT : T.heap = h)
    {ps : List FieldType} {r : Option FieldType} (hd : parseMethodDescriptor y.desc = some ⟨ps, r⟩) (hlen : argsL.length = ps.length)
    {g : JFrame} (hg : g.method = m) (hsize : g.locals.size = c.maxLocals) (hstack : g.stack = argsL.reverse ++ rest) (hW : 2 * g.monitorRoom + (rest.map fun v => v.category).sum ≤ W) (hdg : decode c.code g.pc = .ok (.invokestatic index, 3)) :
    ∃ (v : Option Value) (T' : State) (L : List Loc), Stand p l e R s m args below meth c T' (locs ++ L) (cells + rm.cells) (slots + rm.slots) ∧ Qc v T'.heap L ∧ ∀ t, Steps p.tables e below (T'.setTop { g with pc := g.pc + 3, stack := v.toList ++ rest }) t → Steps p.tables e below (T.setTop g) t := by
  obtain ⟨v, _, ⟨T', L', k', n'⟩, -, X', ⟨Lc, hQ, l', y', z'⟩, st⟩ := Jvm.LawKit.callS X hx (y := y) hown (mvT hZ w1) (mvT hZ w2) (mvT hZ w3) (mvT hZ w4) hy (backOf (W := W) hM hZ w4 w3 hf hl) hg hsize (argsL := argsL) (rest := rest) (lenOf hd hlen) hstack hW hdg (fun _ _ => ⟨rfl, eT, hc, hs⟩)
  dsimp only [Pt.U, Pt.locs, Pt.cells, Pt.slots] at X' l' y' z' st hQ
  subst l' y' z'
  exact ⟨v, T', Lc, X', hQ, st⟩
theorem own_callI (X : Stand p l e R s m args below meth c T locs cells slots) (hx : p.tables.exec = Jvm.exec) (hZ : Z.Warmed39 s.vm) {own : String} {index : Nat} {y : MethodName} {bytes : ByteArray} {maxL : Nat}
    (hown : s.vm.findClass own = some m.cls) (w1 : (Jvm.Cond.methodLink own index y).before a0 Z = true) (w2 : (Jvm.Cond.instanceMethod y).before a0 Z = true) (w3 : (Jvm.Cond.initialized y.cls).before a0 Z = true) (w4 : (Jvm.Cond.code y bytes maxL none).before a0 Z = true) (hy1 : y.name = "<init>")
    (hy : y.cls ≠ "java/lang/invoke/MethodHandle" ∧ y.cls ≠ "java/lang/invoke/VarHandle") {W : Nat} {rm : Room} {a : Addr} {argsL rest : List Value} {Qc : Option Value → Heap → List Loc → Prop}
    (hM : MetFree l y (head1 [Jvm.Cond.code y bytes maxL none] rm) (fun b U => b = (Value.ref a :: argsL).toArray ∧ Z.Warmed39 U.vm ∧ U.heap = h) (fun _ _ _ _ _ => True) (fun _ U o U' => ∃ v L, o = .returned v ∧ Qc v U'.heap L ∧ FrameEnd U o U' L rm.cells rm.slots))
    (hf : rm.frames + 1 ≤ R.frames) (hl : W + (maxL + 11) + rm.locals ≤ R.locals) (hc : cells + rm.cells ≤ R.cells) (hs : slots + rm.slots ≤ R.slots) (eT : T.heap = h)
    {ps : List FieldType} {r : Option FieldType} (hd : parseMethodDescriptor y.desc = some ⟨ps, r⟩) (hlen : argsL.length = ps.length)
    {g : JFrame} (hg : g.method = m) (hsize : g.locals.size = c.maxLocals) (hstack : g.stack = argsL.reverse ++ .ref a :: rest) (hW : 2 * g.monitorRoom + (rest.map fun v => v.category).sum ≤ W) (hdg : decode c.code g.pc = .ok (.invokespecial index, 3)) :
    ∃ (v : Option Value) (T' : State) (L : List Loc), Stand p l e R s m args below meth c T' (locs ++ L) (cells + rm.cells) (slots + rm.slots) ∧ Qc v T'.heap L ∧ ∀ t, Steps p.tables e below (T'.setTop { g with pc := g.pc + 3, stack := v.toList ++ rest }) t → Steps p.tables e below (T.setTop g) t := by
  obtain ⟨v, _, ⟨T', L', k', n'⟩, -, X', ⟨Lc, hQ, l', y', z'⟩, st⟩ := X.specialBack hx (y := y) hy1 hown (mvT hZ w1) (mvT hZ w2) (mvT hZ w4) hy (backOf (W := W) hM hZ w4 w3 hf hl) hg hsize (Steps.refl _) (a := a) (argsL := argsL) (rest := rest) (lenOf hd hlen) hstack hW hdg (fun _ _ => ⟨rfl, eT, hc, hs⟩)
  dsimp only [Pt.U, Pt.locs, Pt.cells, Pt.slots] at X' l' y' z' st hQ
  subst l' y' z'
  exact ⟨v, T', Lc, X', hQ, fun t k => st.trans k⟩
theorem own_callV (X : Stand p l e R s m args below meth c T locs cells slots) (hx : p.tables.exec = Jvm.exec) (hZ : Z.Warmed39 s.vm) {own C : String} {index : Nat} {y : MethodName} {bytes : ByteArray} {maxL : Nat} {ret : Option FieldType}
    (hown : s.vm.findClass own = some m.cls) (w1 : (Jvm.Cond.methodLink own index y).before a0 Z = true) (w5 : (Jvm.Cond.declares y).before a0 Z = true) (w6 : (Jvm.Cond.selects C y y).before a0 Z = true) (w2 : (Jvm.Cond.instanceMethod y).before a0 Z = true) (w3 : (Jvm.Cond.initialized y.cls).before a0 Z = true) (w4 : (Jvm.Cond.code y bytes maxL ret).before a0 Z = true)
    (hy : y.cls ≠ "java/lang/invoke/MethodHandle" ∧ y.cls ≠ "java/lang/invoke/VarHandle") {W : Nat} {rm : Room} {a : Addr} {argsL rest : List Value} {Qc : Option Value → Heap → List Loc → Prop}
    (hM : MetFree l y (head1 [Jvm.Cond.code y bytes maxL ret] rm) (fun b U => b = (Value.ref a :: argsL).toArray ∧ Z.Warmed39 U.vm ∧ U.heap = h) (fun _ _ _ _ _ => True) (fun _ U o U' => ∃ v L, o = .returned v ∧ Qc v U'.heap L ∧ FrameEnd U o U' L rm.cells rm.slots))
    (hf : rm.frames + 1 ≤ R.frames) (hl : W + (maxL + 11) + rm.locals ≤ R.locals) (hc : cells + rm.cells ≤ R.cells) (hs : slots + rm.slots ≤ R.slots) (eT : T.heap = h) (E : Exa Z h a C)
    {ps : List FieldType} {r : Option FieldType} (hd : parseMethodDescriptor y.desc = some ⟨ps, r⟩) (hlen : argsL.length = ps.length)
    {g : JFrame} (hg : g.method = m) (hsize : g.locals.size = c.maxLocals) (hstack : g.stack = argsL.reverse ++ .ref a :: rest) (hW : 2 * g.monitorRoom + (rest.map fun v => v.category).sum ≤ W) (hdg : decode c.code g.pc = .ok (.invokevirtual index, 3)) :
    ∃ (v : Option Value) (T' : State) (L : List Loc), Stand p l e R s m args below meth c T' (locs ++ L) (cells + rm.cells) (slots + rm.slots) ∧ Qc v T'.heap L ∧ ∀ t, Steps p.tables e below (T'.setTop { g with pc := g.pc + 3, stack := v.toList ++ rest }) t → Steps p.tables e below (T.setTop g) t := by
  obtain ⟨cq, kq, qa, qb, qc⟩ := isOf hZ eT E
  obtain ⟨v, _, ⟨T', L', k', n'⟩, -, X', ⟨Lc, hQ, l', y', z'⟩, st⟩ := X.virtualBack hx (y := y) (z := y) hown (mvT hZ w1) (mvT hZ w5) (notFace_of_selects (args := #[]) (mvT hZ w6)) (mvT hZ w6) (mvT hZ w2) hy (backOf (W := W) hM hZ w4 w3 hf hl) qa qc hg hsize (Steps.refl _) (argsL := argsL) (rest := rest) (lenOf hd hlen) hstack hW hdg (fun _ _ => ⟨rfl, eT, hc, hs⟩)
  dsimp only [Pt.U, Pt.locs, Pt.cells, Pt.slots] at X' l' y' z' st hQ
  subst l' y' z'
  exact ⟨v, T', Lc, X', hQ, fun t k => st.trans k⟩
theorem own_callP (X : Stand p l e R s m args below meth c T locs cells slots) (hx : p.tables.exec = Jvm.exec) (hZ : Z.Warmed39 s.vm) {own : String} {index : Nat} {y : MethodName} {bytes : ByteArray} {maxL : Nat} {ret : Option FieldType}
    (hown : s.vm.findClass own = some m.cls) (w1 : (Jvm.Cond.methodLink own index y).before a0 Z = true) (w5 : (Jvm.Cond.privateMethod y).before a0 Z = true) {ki : Nat} (w6 : (Jvm.Cond.instantiable y.cls ki).before a0 Z = true) (w2 : (Jvm.Cond.instanceMethod y).before a0 Z = true) (w3 : (Jvm.Cond.initialized y.cls).before a0 Z = true) (w4 : (Jvm.Cond.code y bytes maxL ret).before a0 Z = true)
    (hy : y.cls ≠ "java/lang/invoke/MethodHandle" ∧ y.cls ≠ "java/lang/invoke/VarHandle") {W : Nat} {rm : Room} {a : Addr} {argsL rest : List Value} {Qc : Option Value → Heap → List Loc → Prop} {C : String}
    (hM : MetFree l y (head1 [Jvm.Cond.code y bytes maxL ret] rm) (fun b U => b = (Value.ref a :: argsL).toArray ∧ Z.Warmed39 U.vm ∧ U.heap = h) (fun _ _ _ _ _ => True) (fun _ U o U' => ∃ v L, o = .returned v ∧ Qc v U'.heap L ∧ FrameEnd U o U' L rm.cells rm.slots))
    (hf : rm.frames + 1 ≤ R.frames) (hl : W + (maxL + 11) + rm.locals ≤ R.locals) (hc : cells + rm.cells ≤ R.cells) (hs : slots + rm.slots ≤ R.slots) (eT : T.heap = h) (E : Exa Z h a C)
    {ps : List FieldType} {r : Option FieldType} (hd : parseMethodDescriptor y.desc = some ⟨ps, r⟩) (hlen : argsL.length = ps.length)
    {g : JFrame} (hg : g.method = m) (hsize : g.locals.size = c.maxLocals) (hstack : g.stack = argsL.reverse ++ .ref a :: rest) (hW : 2 * g.monitorRoom + (rest.map fun v => v.category).sum ≤ W) (hdg : decode c.code g.pc = .ok (.invokevirtual index, 3)) :
    ∃ (v : Option Value) (T' : State) (L : List Loc), Stand p l e R s m args below meth c T' (locs ++ L) (cells + rm.cells) (slots + rm.slots) ∧ Qc v T'.heap L ∧ ∀ t, Steps p.tables e below (T'.setTop { g with pc := g.pc + 3, stack := v.toList ++ rest }) t → Steps p.tables e below (T.setTop g) t := by
  obtain ⟨cq, q1, q2⟩ := E.cell
  have hsel : (Jvm.Cond.selects y.cls y y).before args s = true := by
    obtain ⟨c2, k2, i1, i2, i3, i4, -⟩ := Cond.instantiable_spec (mv hZ w6 (args := args))
    exact selects_self_of_private i1 i2 (Bool.or_eq_false_iff.mp i4).1 (Cond.privateMethod_at (mvP hZ w5 (args := #[]))) (mvT hZ w2) hy
  obtain ⟨v, _, ⟨T', L', k', n'⟩, -, X', ⟨Lc, hQ, l', y', z'⟩, st⟩ := X.privateBack hx (y := y) hown (mvT hZ w1) (mvT hZ w2) hsel (Cond.privateMethod_at (mvP hZ w5 (args := #[]))) (mvT hZ w4) hy (backOf (W := W) hM hZ w4 w3 hf hl) hg hsize (Steps.refl _) (a := a) (by rw [eT]; exact q1) q2 (argsL := argsL) (rest := rest) (lenOf hd hlen) hstack hW hdg (fun _ _ => ⟨rfl, eT, hc, hs⟩)
  dsimp only [Pt.U, Pt.locs, Pt.cells, Pt.slots] at X' l' y' z' st hQ
  subst l' y' z'
  exact ⟨v, T', Lc, X', hQ, fun t k => st.trans k⟩
theorem own_sta_keep {C n d : String} {w : Value} {ws : List Addr} (F : Sta Z h C n d w) (K : Keep h h' ws) (q : ∀ x ∈ ws, ∀ c : Cell, h[x]? = some c → c.vm.isStatics = false) : Sta Z h' C n d w := by
  obtain ⟨cf, i, k, f, st, cell, h1, h2, h3, h4, h5, h6, h7⟩ := F
  exact ⟨cf, i, k, f, st, cell, h1, h2, h3, h4, K.2.1 _ _ h5 (fun hx => by have := q st hx cell h5; rw [this] at h6; cases h6), h6, h7⟩
theorem own_ext_keep (E : Ext h h') (ws : List Addr) : Keep h h' ws := (Keep.refl h ws).ext E
/-- an array at a: n places, the j-th holds f j -/
def own_Arf (Z : State) (h : Heap) (a : Addr) (ty : FieldType) (n : Nat) (f : Nat → Value) : Prop := ∃ c : Cell, Arr Z h a c ty ∧ c.slots.size = n ∧ ∀ j, j < n → c.slots[j]? = some (f j)
theorem own_Arf.lt {a : Nat} {ty : FieldType} {n : Nat} {f : Nat → Value} (F : own_Arf Z h a ty n f) : a < h.size := by obtain ⟨c, A, -⟩ := F; exact A.lt
theorem own_Arf.ext {a : Addr} {ty : FieldType} {n : Nat} {f : Nat → Value} (F : own_Arf Z h a ty n f) (E : Ext h h') : own_Arf Z h' a ty n f := by obtain ⟨c, A, r⟩ := F; exact ⟨c, A.ext E, r⟩
theorem own_Arf.other {a b : Addr} {ty : FieldType} {n : Nat} {f : Nat → Value} {sl : Nat} {v : Value} (F : own_Arf Z h b ty n f) (W : Wr h h' a sl v) (q : b ≠ a) : own_Arf Z h' b ty n f := by obtain ⟨c, A, r⟩ := F; exact ⟨c, A.other W q, r⟩
theorem own_Arf.keep {a : Addr} {ty : FieldType} {n : Nat} {f : Nat → Value} {ws : List Addr} (F : own_Arf Z h a ty n f) (K : Keep h h' ws) (q : a ∉ ws) : own_Arf Z h' a ty n f := by obtain ⟨c, A, r⟩ := F; exact ⟨c, ⟨K.2.1 a c A.1 q, A.2⟩, r⟩
theorem own_Arf.congr {a : Addr} {ty : FieldType} {n : Nat} {f f' : Nat → Value} (F : own_Arf Z h a ty n f) (q : ∀ j, j < n → f j = f' j) : own_Arf Z h a ty n f' := by obtain ⟨c, A, r1, r2⟩ := F; exact ⟨c, A, r1, fun j hj => by rw [← q j hj]; exact r2 j hj⟩
theorem own_Arf.set {a : Addr} {ty : FieldType} {n : Nat} {f : Nat → Value} {i : Nat} {v : Value} (F : own_Arf Z h a ty n f) (W : Wr h h' a i v) : own_Arf Z h' a ty n (fun k => if k = i then v else f k) := by
  obtain ⟨c, A, r1, r2⟩ := F
  refine ⟨c.setSlot i v, A.same W, by rw [sz_set]; exact r1, fun j hj => ?_⟩
  show (c.slots.setIfInBounds i v)[j]? = some (if j = i then v else f j)
  by_cases q : j = i
  · subst q
    simp [r1, hj]
  · rw [Array.getElem?_setIfInBounds_ne (Ne.symm q), if_neg q]
    exact r2 j hj
theorem own_Arf.setI {a : Addr} {ty : FieldType} {n : Nat} {f : Nat → Int32} {i : Nat} {x : Int32} (F : own_Arf Z h a ty n (fun k => .int (f k))) (W : Wr h h' a i (.int x)) : own_Arf Z h' a ty n (fun k => .int (if k = i then x else f k)) :=
  (own_Arf.set F W).congr fun k _ => by show (if k = i then Value.int x else .int (f k)) = .int (if k = i then x else f k); split <;> rfl
theorem own_Arf.setJ {a : Addr} {ty : FieldType} {n : Nat} {f : Nat → Int64} {i : Nat} {x : Int64} (F : own_Arf Z h a ty n (fun k => .long (f k))) (W : Wr h h' a i (.long x)) : own_Arf Z h' a ty n (fun k => .long (if k = i then x else f k)) :=
  (own_Arf.set F W).congr fun k _ => by show (if k = i then Value.long x else .long (f k)) = .long (if k = i then x else f k); split <;> rfl
theorem own_inb {c : Cell} {n : Nat} {j : Int32} (S : c.slots.size = n) (q : 0 ≤ j.toInt ∧ j.toInt < (n : Int)) : ¬ (j < 0 ∨ c.slots.size ≤ j.toNatClampNeg) := by
  rw [S]
  rintro (q1 | q1)
  · have := Int32.lt_iff_toInt_lt.mp q1
    simp at this
    omega
  · have h1 : j.toNatClampNeg = j.toInt.toNat := rfl
    omega
theorem own_idx {n : Nat} {j : Int32} (q : 0 ≤ j.toInt ∧ j.toInt < (n : Int)) : j.toNatClampNeg < n := by
  have h1 : j.toNatClampNeg = j.toInt.toNat := rfl
  omega
theorem own_newP (X : Stand p l e R s m args below meth c T locs cells slots) (hx : p.tables.exec = Jvm.exec) (hZ : Z.Warmed39 s.vm) {aty : ArrayType} (w : (Jvm.Cond.arrayClass (newarray.typeOf aty)).before a0 Z = true) (eT : T.heap = h) {g : JFrame} (hg : g.method = m) (hd : decode c.code g.pc = .ok (.newarray aty, 2)) {n : Int32} {rest : List Value} (hs : g.stack = .int n :: rest)
    (hn : ¬ n < 0) {cap : Nat} (hcap : n.toNatClampNeg ≤ cap) (hb : cap * 8 ≤ 536870912) (hc : cells + 1 ≤ R.cells) (hl : slots + cap ≤ R.slots) :
    ∃ T' h', Stand p l e R s m args below meth c T' locs (cells + 1) (slots + cap) ∧ T'.heap = h' ∧ Ext h h' ∧ own_Arf Z h' h.size (newarray.typeOf aty) n.toNatClampNeg (fun _ => defaultValue (newarray.typeOf aty)) ∧
      ∀ target, Steps p.tables e below (T'.setTop { g with pc := g.pc + 2, stack := .ref h.size :: rest }) target → Steps p.tables e below (T.setTop g) target := by
  obtain ⟨T', h', cA, X', e', E', A', st⟩ := newP X hx hZ w eT hg hd hs hn hcap hb hc hl
  refine ⟨T', h', X', e', E', ⟨_, A', sz_new _ _ _, fun j hj => ?_⟩, st⟩
  simp [newA, hj]
theorem own_newPE (X : Stand p l e R s m args below meth c T locs cells slots) (hx : p.tables.exec = Jvm.exec) (hZ : Z.Warmed39 s.vm) {aty : ArrayType} (w : (Jvm.Cond.arrayClass (newarray.typeOf aty)).before a0 Z = true) (eT : T.heap = h) {g : JFrame} (hg : g.method = m) (hd : decode c.code g.pc = .ok (.newarray aty, 2)) {n : Int32} {rest : List Value} (hs : g.stack = .int n :: rest)
    (hn : ¬ n < 0) {cap : Nat} (hcap : n.toNatClampNeg ≤ cap) (hb : cap * 8 ≤ 536870912) (hc : cells + 1 ≤ R.cells) (hl : slots + cap ≤ R.slots) {ad : String} (had : "[" ++ (newarray.typeOf aty).toString = ad) :
    ∃ T' h', Stand p l e R s m args below meth c T' locs (cells + 1) (slots + cap) ∧ T'.heap = h' ∧ Ext h h' ∧ own_Arf Z h' h.size (newarray.typeOf aty) n.toNatClampNeg (fun _ => defaultValue (newarray.typeOf aty)) ∧ Exa Z h' h.size ad ∧
      ∀ target, Steps p.tables e below (T'.setTop { g with pc := g.pc + 2, stack := .ref h.size :: rest }) target → Steps p.tables e below (T.setTop g) target := by
  obtain ⟨T', h', cA, X', e', E', A', Ex, st⟩ := newPE X hx hZ w eT hg hd hs hn hcap hb hc hl had
  refine ⟨T', h', X', e', E', ⟨_, A', sz_new _ _ _, fun j hj => ?_⟩, Ex, st⟩
  simp [newA, hj]
theorem own_cloneA (X : Stand p l e R s m args below meth c T locs cells slots) (hx : p.tables.exec = Jvm.exec) (hZ : Z.Warmed39 s.vm) {own ad : String} {index : Nat} (hown : s.vm.findClass own = some m.cls)
    (w1 : (Jvm.Cond.methodLink own index ⟨ad, "clone", "()Ljava/lang/Object;"⟩).before a0 Z = true) (w2 : (Jvm.Cond.sameMethod ad "java/lang/Object" "clone" "()Ljava/lang/Object;").before a0 Z = true) (w3 : (Jvm.Cond.native ⟨"java/lang/Object", "clone", "()Ljava/lang/Object;"⟩).before a0 Z = true)
    (w4 : (Jvm.Cond.instanceMethod ⟨"java/lang/Object", "clone", "()Ljava/lang/Object;"⟩).before a0 Z = true) (w5 : (Jvm.Cond.selects ad ⟨ad, "clone", "()Ljava/lang/Object;"⟩ ⟨"java/lang/Object", "clone", "()Ljava/lang/Object;"⟩).before a0 Z = true) (w6 : (Jvm.Cond.castable ad "java/lang/Cloneable").before a0 Z = true)
    (eT : T.heap = h) {a : Addr} {ty : FieldType} {n : Nat} {f : Nat → Value} (A : own_Arf Z h a ty n f) (E : Exa Z h a ad) (hfit : ∀ k, k < n → fits ty (f k) = true) {g : JFrame} (hg : g.method = m) (hsize : g.locals.size = c.maxLocals) {rest : List Value} (hs : g.stack = .ref a :: rest) (hd : decode c.code g.pc = .ok (.invokevirtual index, 3))
    (hf : 1 ≤ R.frames) {W : Nat} (hW : 2 * g.monitorRoom + (rest.map fun v => v.category).sum ≤ W) (hl : W + 14 ≤ R.locals) (hc : cells + 1 ≤ R.cells) (hsl : slots + n ≤ R.slots) :
    ∃ T' h', Stand p l e R s m args below meth c T' locs (cells + 1) (slots + n) ∧ T'.heap = h' ∧ Ext h h' ∧ own_Arf Z h' h.size ty n f ∧ Exa Z h' h.size ad ∧
      ∀ target, Steps p.tables e below (T'.setTop { g with pc := g.pc + 3, stack := .ref h.size :: rest }) target → Steps p.tables e below (T.setTop g) target := by
  obtain ⟨cl, A1, A2, A3⟩ := A
  have FC : FitC Z cl := fitC_of A1 fun i hi v hv => by
    rw [A3 i (by omega)] at hv
    cases hv
    exact hfit i (by omega)
  obtain ⟨T', h', X', e', ex, A', E', st⟩ := cloneA X hx hZ hown w1 w2 w3 w4 w5 w6 eT A1 E FC hg hsize hs hd hf hW hl (Nat.le_of_eq A2) hc hsl
  exact ⟨T', h', X', e', ex, ⟨cloneOf cl, A', A2, A3⟩, E', st⟩
theorem own_len (X : Stand p l e R s m args below meth c T locs cells slots) (hx : p.tables.exec = Jvm.exec) (hZ : Z.Warmed39 s.vm) (eT : T.heap = h) {a : Addr} {ty : FieldType} {n : Nat} {f : Nat → Value} (A : own_Arf Z h a ty n f) {g : JFrame} (hg : g.method = m) {rest : List Value} (hs : g.stack = .ref a :: rest) (hd : decode c.code g.pc = .ok (.arraylength, 1)) :
    ∀ t, Steps p.tables e below (T.setTop { g with pc := g.pc + 1, stack := .int n.toInt32 :: rest }) t → Steps p.tables e below (T.setTop g) t := by
  obtain ⟨cl, A1, A2, A3⟩ := A
  intro t k
  subst A2
  exact X.arraylength hx (by rw [eT]; exact A1.1) (State.isArrayOf_alike hZ.alike A1.2.1) hg hs hd _ k
theorem own_ldI (X : Stand p l e R s m args below meth c T locs cells slots) (hx : p.tables.exec = Jvm.exec) (hZ : Z.Warmed39 s.vm) (eT : T.heap = h) {a : Addr} {n : Nat} {f : Nat → Int32} (A : own_Arf Z h a .int n (fun k => .int (f k))) {j : Int32} (q : 0 ≤ j.toInt ∧ j.toInt < (n : Int)) {g : JFrame} (hg : g.method = m) {rest : List Value} (hs : g.stack = .int j :: .ref a :: rest) (hd : decode c.code g.pc = .ok (.iaload, 1)) :
    ∀ t, Steps p.tables e below (T.setTop { g with pc := g.pc + 1, stack := .int (f j.toNatClampNeg) :: rest }) t → Steps p.tables e below (T.setTop g) t := by
  obtain ⟨cl, A1, A2, A3⟩ := A
  exact fun t k => X.iaload hx (by rw [eT]; exact A1.1) (State.isArrayOf_alike hZ.alike A1.2.1) A1.2.2 (own_inb A2 q) (A3 _ (own_idx q)) hg hs hd _ k
theorem own_ldJ (X : Stand p l e R s m args below meth c T locs cells slots) (hx : p.tables.exec = Jvm.exec) (hZ : Z.Warmed39 s.vm) (eT : T.heap = h) {a : Addr} {n : Nat} {f : Nat → Int64} (A : own_Arf Z h a .long n (fun k => .long (f k))) {j : Int32} (q : 0 ≤ j.toInt ∧ j.toInt < (n : Int)) {g : JFrame} (hg : g.method = m) {rest : List Value} (hs : g.stack = .int j :: .ref a :: rest) (hd : decode c.code g.pc = .ok (.laload, 1)) :
    ∀ t, Steps p.tables e below (T.setTop { g with pc := g.pc + 1, stack := .long (f j.toNatClampNeg) :: rest }) t → Steps p.tables e below (T.setTop g) t := by
  obtain ⟨cl, A1, A2, A3⟩ := A
  exact fun t k => X.laload hx (by rw [eT]; exact A1.1) (State.isArrayOf_alike hZ.alike A1.2.1) A1.2.2 (own_inb A2 q) (A3 _ (own_idx q)) hg hs hd _ k
theorem own_ldC (X : Stand p l e R s m args below meth c T locs cells slots) (hx : p.tables.exec = Jvm.exec) (hZ : Z.Warmed39 s.vm) (eT : T.heap = h) {a : Addr} {n : Nat} {f : Nat → Int32} (A : own_Arf Z h a .char n (fun k => .int (f k))) {j : Int32} (q : 0 ≤ j.toInt ∧ j.toInt < (n : Int)) {g : JFrame} (hg : g.method = m) {rest : List Value} (hs : g.stack = .int j :: .ref a :: rest) (hd : decode c.code g.pc = .ok (.caload, 1)) :
    ∀ t, Steps p.tables e below (T.setTop { g with pc := g.pc + 1, stack := .int (f j.toNatClampNeg) :: rest }) t → Steps p.tables e below (T.setTop g) t := by
  obtain ⟨cl, A1, A2, A3⟩ := A
  exact fun t k => X.caload hx (by rw [eT]; exact A1.1) (State.isArrayOf_alike hZ.alike A1.2.1) A1.2.2 (own_inb A2 q) (A3 _ (own_idx q)) hg hs hd _ k
theorem own_ldS (X : Stand p l e R s m args below meth c T locs cells slots) (hx : p.tables.exec = Jvm.exec) (hZ : Z.Warmed39 s.vm) (eT : T.heap = h) {a : Addr} {n : Nat} {f : Nat → Int32} (A : own_Arf Z h a .short n (fun k => .int (f k))) {j : Int32} (q : 0 ≤ j.toInt ∧ j.toInt < (n : Int)) {g : JFrame} (hg : g.method = m) {rest : List Value} (hs : g.stack = .int j :: .ref a :: rest) (hd : decode c.code g.pc = .ok (.saload, 1)) :
    ∀ t, Steps p.tables e below (T.setTop { g with pc := g.pc + 1, stack := .int (f j.toNatClampNeg) :: rest }) t → Steps p.tables e below (T.setTop g) t := by
  obtain ⟨cl, A1, A2, A3⟩ := A
  exact fun t k => X.saload hx (by rw [eT]; exact A1.1) (State.isArrayOf_alike hZ.alike A1.2.1) A1.2.2 (own_inb A2 q) (A3 _ (own_idx q)) hg hs hd _ k
theorem own_ldB (X : Stand p l e R s m args below meth c T locs cells slots) (hx : p.tables.exec = Jvm.exec) (hZ : Z.Warmed39 s.vm) (eT : T.heap = h) {a : Addr} {n : Nat} {f : Nat → Int32} (A : own_Arf Z h a .byte n (fun k => .int (f k))) {j : Int32} (q : 0 ≤ j.toInt ∧ j.toInt < (n : Int)) {g : JFrame} (hg : g.method = m) {rest : List Value} (hs : g.stack = .int j :: .ref a :: rest) (hd : decode c.code g.pc = .ok (.baload, 1)) :
    ∀ t, Steps p.tables e below (T.setTop { g with pc := g.pc + 1, stack := .int (f j.toNatClampNeg) :: rest }) t → Steps p.tables e below (T.setTop g) t := by
  obtain ⟨cl, A1, A2, A3⟩ := A
  exact fun t k => X.baloadBytes hx (by rw [eT]; exact A1.1) (State.isArrayOf_alike hZ.alike A1.2.1) A1.2.2 (own_inb A2 q) (A3 _ (own_idx q)) hg hs hd _ k
theorem own_ldR (X : Stand p l e R s m args below meth c T locs cells slots) (hx : p.tables.exec = Jvm.exec) (hZ : Z.Warmed39 s.vm) (eT : T.heap = h) {a : Addr} {ty : FieldType} (hty : ty.isReference = true) {n : Nat} {f : Nat → Value} (A : own_Arf Z h a ty n f) {j : Int32} (q : 0 ≤ j.toInt ∧ j.toInt < (n : Int)) {g : JFrame} (hg : g.method = m) {rest : List Value} (hs : g.stack = .int j :: .ref a :: rest) (hd : decode c.code g.pc = .ok (.aaload, 1)) :
    ∀ t, Steps p.tables e below (T.setTop { g with pc := g.pc + 1, stack := f j.toNatClampNeg :: rest }) t → Steps p.tables e below (T.setTop g) t := by
  obtain ⟨cl, A1, A2, A3⟩ := A
  exact fun t k => X.aaload hx (by rw [eT]; exact A1.1) (State.isArrayOf_alike hZ.alike A1.2.1) hty A1.2.2 (own_inb A2 q) (A3 _ (own_idx q)) hg hs hd _ k
theorem own_stI (X : Stand p l e R s m args below meth c T locs cells slots) (hx : p.tables.exec = Jvm.exec) (hZ : Z.Warmed39 s.vm) (eT : T.heap = h) {a : Addr} {n : Nat} {f : Nat → Int32} (A : own_Arf Z h a .int n (fun k => .int (f k))) {j x : Int32} (q : 0 ≤ j.toInt ∧ j.toInt < (n : Int)) {g : JFrame} (hg : g.method = m) {rest : List Value} (hs : g.stack = .int x :: .int j :: .ref a :: rest) (hd : decode c.code g.pc = .ok (.iastore, 1)) :
    ∃ T' h', Stand p l e R s m args below meth c T' (locs ++ [⟨a, j.toNatClampNeg⟩]) cells slots ∧ T'.heap = h' ∧ Wr h h' a j.toNatClampNeg (.int x) ∧ own_Arf Z h' a .int n (fun k => .int (if k = j.toNatClampNeg then x else f k)) ∧ ∀ t, Steps p.tables e below (T'.setTop { g with pc := g.pc + 1, stack := rest }) t → Steps p.tables e below (T.setTop g) t := by
  obtain ⟨cl, A1, A2, A3⟩ := id A
  obtain ⟨T', h', X', e', W, st⟩ := stI X hx hZ eT A1 (own_inb A2 q) hg hs hd
  exact ⟨T', h', X', e', W, own_Arf.setI A W, st⟩
theorem own_stJ (X : Stand p l e R s m args below meth c T locs cells slots) (hx : p.tables.exec = Jvm.exec) (hZ : Z.Warmed39 s.vm) (eT : T.heap = h) {a : Addr} {n : Nat} {f : Nat → Int64} (A : own_Arf Z h a .long n (fun k => .long (f k))) {j : Int32} {x : Int64} (q : 0 ≤ j.toInt ∧ j.toInt < (n : Int)) {g : JFrame} (hg : g.method = m) {rest : List Value} (hs : g.stack = .long x :: .int j :: .ref a :: rest) (hd : decode c.code g.pc = .ok (.lastore, 1)) :
    ∃ T' h', Stand p l e R s m args below meth c T' (locs ++ [⟨a, j.toNatClampNeg⟩]) cells slots ∧ T'.heap = h' ∧ Wr h h' a j.toNatClampNeg (.long x) ∧ own_Arf Z h' a .long n (fun k => .long (if k = j.toNatClampNeg then x else f k)) ∧ ∀ t, Steps p.tables e below (T'.setTop { g with pc := g.pc + 1, stack := rest }) t → Steps p.tables e below (T.setTop g) t := by
  obtain ⟨cl, A1, A2, A3⟩ := id A
  obtain ⟨T', h', X', e', W, st⟩ := stJ X hx hZ eT A1 (own_inb A2 q) hg hs hd
  exact ⟨T', h', X', e', W, own_Arf.setJ A W, st⟩
theorem own_stC (X : Stand p l e R s m args below meth c T locs cells slots) (hx : p.tables.exec = Jvm.exec) (hZ : Z.Warmed39 s.vm) (eT : T.heap = h) {a : Addr} {n : Nat} {f : Nat → Int32} (A : own_Arf Z h a .char n (fun k => .int (f k))) {j x : Int32} (q : 0 ≤ j.toInt ∧ j.toInt < (n : Int)) {g : JFrame} (hg : g.method = m) {rest : List Value} (hs : g.stack = .int x :: .int j :: .ref a :: rest) (hd : decode c.code g.pc = .ok (.castore, 1)) :
    ∃ T' h', Stand p l e R s m args below meth c T' (locs ++ [⟨a, j.toNatClampNeg⟩]) cells slots ∧ T'.heap = h' ∧ Wr h h' a j.toNatClampNeg (.int (nar .char x)) ∧ own_Arf Z h' a .char n (fun k => .int (if k = j.toNatClampNeg then nar .char x else f k)) ∧ ∀ t, Steps p.tables e below (T'.setTop { g with pc := g.pc + 1, stack := rest }) t → Steps p.tables e below (T.setTop g) t := by
  obtain ⟨cl, A1, A2, A3⟩ := id A
  obtain ⟨T', h', X', e', W, st⟩ := stC X hx hZ eT A1 (own_inb A2 q) hg hs hd
  exact ⟨T', h', X', e', W, own_Arf.setI A W, st⟩
theorem own_stS (X : Stand p l e R s m args below meth c T locs cells slots) (hx : p.tables.exec = Jvm.exec) (hZ : Z.Warmed39 s.vm) (eT : T.heap = h) {a : Addr} {n : Nat} {f : Nat → Int32} (A : own_Arf Z h a .short n (fun k => .int (f k))) {j x : Int32} (q : 0 ≤ j.toInt ∧ j.toInt < (n : Int)) {g : JFrame} (hg : g.method = m) {rest : List Value} (hs : g.stack = .int x :: .int j :: .ref a :: rest) (hd : decode c.code g.pc = .ok (.sastore, 1)) :
    ∃ T' h', Stand p l e R s m args below meth c T' (locs ++ [⟨a, j.toNatClampNeg⟩]) cells slots ∧ T'.heap = h' ∧ Wr h h' a j.toNatClampNeg (.int (nar .short x)) ∧ own_Arf Z h' a .short n (fun k => .int (if k = j.toNatClampNeg then nar .short x else f k)) ∧ ∀ t, Steps p.tables e below (T'.setTop { g with pc := g.pc + 1, stack := rest }) t → Steps p.tables e below (T.setTop g) t := by
  obtain ⟨cl, A1, A2, A3⟩ := id A
  obtain ⟨T', h', X', e', W, st⟩ := stS X hx hZ eT A1 (own_inb A2 q) hg hs hd
  exact ⟨T', h', X', e', W, own_Arf.setI A W, st⟩
theorem own_stB (X : Stand p l e R s m args below meth c T locs cells slots) (hx : p.tables.exec = Jvm.exec) (hZ : Z.Warmed39 s.vm) (eT : T.heap = h) {a : Addr} {n : Nat} {f : Nat → Int32} (A : own_Arf Z h a .byte n (fun k => .int (f k))) {j x : Int32} (q : 0 ≤ j.toInt ∧ j.toInt < (n : Int)) {g : JFrame} (hg : g.method = m) {rest : List Value} (hs : g.stack = .int x :: .int j :: .ref a :: rest) (hd : decode c.code g.pc = .ok (.bastore, 1)) :
    ∃ T' h', Stand p l e R s m args below meth c T' (locs ++ [⟨a, j.toNatClampNeg⟩]) cells slots ∧ T'.heap = h' ∧ Wr h h' a j.toNatClampNeg (.int (nar .byte x)) ∧ own_Arf Z h' a .byte n (fun k => .int (if k = j.toNatClampNeg then nar .byte x else f k)) ∧ ∀ t, Steps p.tables e below (T'.setTop { g with pc := g.pc + 1, stack := rest }) t → Steps p.tables e below (T.setTop g) t := by
  obtain ⟨cl, A1, A2, A3⟩ := id A
  obtain ⟨T', h', X', e', W, st⟩ := stB X hx hZ eT A1 (own_inb A2 q) hg hs hd
  exact ⟨T', h', X', e', W, own_Arf.setI A W, st⟩
theorem own_newR (X : Stand p l e R s m args below meth c T locs cells slots) (hx : p.tables.exec = Jvm.exec) (hZ : Z.Warmed39 s.vm) {own C : String} {index : Nat} (hown : s.vm.findClass own = some m.cls) (w1 : (Jvm.Cond.classLink own index C).before a0 Z = true) (w2 : (Jvm.Cond.arrayOver (.object C)).before a0 Z = true)
    (eT : T.heap = h) {g : JFrame} (hg : g.method = m) (hd : decode c.code g.pc = .ok (.anewarray index, 3)) {n : Int32} {rest : List Value} (hs : g.stack = .int n :: rest) (hn : ¬ n < 0) {cap : Nat} (hcap : n.toNatClampNeg ≤ cap) (hb : cap * 8 ≤ 536870912) (hc : cells + 1 ≤ R.cells) (hl : slots + cap ≤ R.slots) :
    ∃ T' h', Stand p l e R s m args below meth c T' locs (cells + 1) (slots + cap) ∧ T'.heap = h' ∧ Ext h h' ∧ (∃ cl : Cell, h'[h.size]? = some cl ∧ Ovr Z cl.cls C) ∧ own_Arf Z h' h.size (.object C) n.toNatClampNeg (fun _ => .null) ∧
      ∀ target, Steps p.tables e below (T'.setTop { g with pc := g.pc + 3, stack := .ref h.size :: rest }) target → Steps p.tables e below (T.setTop g) target := by
  obtain ⟨T', h', cA, X', e', E', A', O', st⟩ := newR X hx hZ hown w1 w2 eT hg hd hs hn hcap hb hc hl
  refine ⟨T', h', X', e', E', ⟨_, A'.1, O'⟩, ⟨_, A', sz_new _ _ _, fun j hj => ?_⟩, st⟩
  simp [newA, hj, defaultValue]
/-- an array of objects of C: the class of the array is C's -/
def own_Ovr (Z : State) (h : Heap) (a : Addr) (C : String) : Prop := ∃ cl : Cell, h[a]? = some cl ∧ Ovr Z cl.cls C
theorem own_Ovr.ext {a : Addr} {C : String} (F : own_Ovr Z h a C) (E : Ext h h') : own_Ovr Z h' a C := by obtain ⟨cl, h1, h2⟩ := F; exact ⟨cl, E.2 _ _ h1, h2⟩
theorem own_Ovr.wr {a b : Addr} {C : String} {sl : Nat} {v : Value} (F : own_Ovr Z h a C) (W : Wr h h' b sl v) : own_Ovr Z h' a C := by
  obtain ⟨cl, h1, h2⟩ := F
  obtain ⟨c', e1, e2, -⟩ := wr_at W h1
  exact ⟨c', e1, by rw [e2]; exact h2⟩
theorem own_Ovr.keep {a : Addr} {C : String} {ws : List Addr} (F : own_Ovr Z h a C) (K : Keep h h' ws) : own_Ovr Z h' a C := by
  obtain ⟨cl, h1, h2⟩ := F
  obtain ⟨c', e1, e2, -⟩ := K.2.2 _ _ h1
  exact ⟨c', e1, by rw [e2]; exact h2⟩
theorem own_stR (X : Stand p l e R s m args below meth c T locs cells slots) (hx : p.tables.exec = Jvm.exec) (hZ : Z.Warmed39 s.vm) (eT : T.heap = h) {a : Addr} {C : String} {n : Nat} {f : Nat → Value} (A : own_Arf Z h a (.object C) n f) (O : own_Ovr Z h a C) {j : Int32} {v : Value} (I : v = .null ∨ ∃ y, v = .ref y ∧ Ins Z h y C true) (q : 0 ≤ j.toInt ∧ j.toInt < (n : Int)) {g : JFrame} (hg : g.method = m) {rest : List Value} (hs : g.stack = v :: .int j :: .ref a :: rest) (hd : decode c.code g.pc = .ok (.aastore, 1)) :
    ∃ T' h', Stand p l e R s m args below meth c T' (locs ++ [⟨a, j.toNatClampNeg⟩]) cells slots ∧ T'.heap = h' ∧ Wr h h' a j.toNatClampNeg v ∧ own_Arf Z h' a (.object C) n (fun k => if k = j.toNatClampNeg then v else f k) ∧ own_Ovr Z h' a C ∧ ∀ t, Steps p.tables e below (T'.setTop { g with pc := g.pc + 1, stack := rest }) t → Steps p.tables e below (T.setTop g) t := by
  obtain ⟨cl, A1, A2, A3⟩ := id A
  obtain ⟨cl2, o1, o2⟩ := id O
  cases A1.1.symm.trans o1
  have F : Sto Z h a v := by
    rcases I with rfl | ⟨y, rfl, I⟩
    · exact Or.inl rfl
    · exact Sto.of A1 o2 I
  obtain ⟨T', h', X', e', W, st⟩ := stR X hx hZ eT A1 (own_inb A2 q) rfl F hg hs hd
  exact ⟨T', h', X', e', W, own_Arf.set A W, O.wr W, st⟩
end OwnKit
theorem own_inc (j : Int32) (h : j.toInt < 2147483647) : (j + (1 : Int32)).toInt = j.toInt + 1 := by
  have h1 := c_iadd j 1
  have h2 := rng32 (j + 1)
  have h3 := rng32 j
  have h4 : (1 : Int32).toInt = 1 := by decide
  omega
theorem own_dec (j : Int32) (h : -2147483648 < j.toInt) : (j - (1 : Int32)).toInt = j.toInt - 1 := by
  have h1 := c_isub j 1
  have h2 := rng32 (j - 1)
  have h3 := rng32 j
  have h4 : (1 : Int32).toInt = 1 := by decide
  omega
theorem own_nat {j : Int32} (h : 0 ≤ j.toInt) : (j.toNatClampNeg : Int) = j.toInt := by show (j.toInt.toNat : Int) = _; omega
theorem own_slot (x : Int64) : 0 ≤ (((x.toUInt64 >>> ((55 : Int32) &&& 0x3f).toInt64.toUInt64).toInt64).toInt32).toInt ∧ (((x.toUInt64 >>> ((55 : Int32) &&& 0x3f).toInt64.toUInt64).toInt64).toInt32).toInt < 512 := by
  have h1 : ((x.toUInt64 >>> ((55 : Int32) &&& 0x3f).toInt64.toUInt64).toInt64).toInt = (x.toInt % 18446744073709551616) / 36028797018963968 := c_lushr x 55 55 (by decide) (by decide)
  have h2 := c_l2i ((x.toUInt64 >>> ((55 : Int32) &&& 0x3f).toInt64.toUInt64).toInt64)
  have h3 := rng32 (((x.toUInt64 >>> ((55 : Int32) &&& 0x3f).toInt64.toUInt64).toInt64).toInt32)
  omega
theorem own_next {t : Int32} (h : 0 ≤ t.toInt ∧ t.toInt < 512) : ((t + (1 : Int32)) &&& (511 : Int32)).toInt = (t.toInt + 1) % 512 := by
  have h1 : ((t + (1 : Int32)) &&& (511 : Int32)).toInt = (t + (1 : Int32)).toInt % 512 := c_mask _ 511 9 (by decide) (by decide)
  rw [h1, own_inc t (by omega)]
theorem own_probe (occ : List Nat) (h : occ.length ≤ 3) (t : Nat) : ∃ j, (t + j) % 512 ∉ occ := by
  by_cases h0 : (t + 0) % 512 ∈ occ
  · by_cases h1 : (t + 1) % 512 ∈ occ
    · by_cases h2 : (t + 2) % 512 ∈ occ
      · by_cases h3 : (t + 3) % 512 ∈ occ
        · exfalso
          match occ, h with
          | [], _ => cases h0
          | [a], _ =>
            simp only [List.mem_cons, List.not_mem_nil, or_false] at h0 h1 h2 h3
            omega
          | [a, b], _ =>
            simp only [List.mem_cons, List.not_mem_nil, or_false] at h0 h1 h2 h3
            omega
          | [a, b, c], _ =>
            simp only [List.mem_cons, List.not_mem_nil, or_false] at h0 h1 h2 h3
            omega
          | a :: b :: c :: d :: r, h => simp at h
        · exact ⟨3, h3⟩
      · exact ⟨2, h2⟩
    · exact ⟨1, h1⟩
  · exact ⟨0, h0⟩
theorem own_l2i {q : Int64} {d : Int32} (h0 : 0 ≤ q.toInt) (h1 : q.toInt < d.toInt) : q.toInt32.toInt = q.toInt := by
  have h2 := c_l2i q
  have h3 := rng32 q.toInt32
  have h4 := rng32 d
  omega
theorem own_ns {x : Int32} (h : 0 ≤ x.toInt ∧ x.toInt ≤ 300) : (nar .short (x.toInt16.toInt32)).toInt = x.toInt := by
  have h1 := c_i2s x
  have h2 := c_i2s x.toInt16.toInt32
  show (x.toInt16.toInt32).toInt16.toInt32.toInt = x.toInt
  omega
theorem own_ci {x : Int32} (h : 0 ≤ x.toInt ∧ x.toInt < 256) : ((nar .byte (x.toInt8.toInt32)) &&& (255 : Int32)).toNatClampNeg = x.toNatClampNeg := by
  have h1 := c_i2b x
  have h2 := c_i2b x.toInt8.toInt32
  have h3 : ((nar .byte (x.toInt8.toInt32)) &&& (255 : Int32)).toInt = (x.toInt8.toInt32).toInt8.toInt32.toInt % 256 := c_mask _ 255 8 (by decide) (by decide)
  show ((nar .byte (x.toInt8.toInt32)) &&& (255 : Int32)).toInt.toNat = x.toInt.toNat
  rw [h3]
  omega
theorem own_m255 (x : Int32) : 0 ≤ (x &&& (255 : Int32)).toInt ∧ (x &&& (255 : Int32)).toInt < (256 : Nat) := by
  have h3 : (x &&& (255 : Int32)).toInt = x.toInt % 256 := c_mask x 255 8 (by decide) (by decide)
  omega
/-- what a code is worth: r stands for q in the table V', which keeps what V held -/
def own_CP (r d d' : Int32) (V V' : Nat → Int64) (q : Int64) : Prop := 0 ≤ r.toInt ∧ r.toInt < d'.toInt ∧ d.toInt ≤ d'.toInt ∧ d'.toInt ≤ d.toInt + 1 ∧ V' r.toNatClampNeg = q ∧ ∀ k : Nat, (k : Int) < d.toInt → V' k = V k
/-- the lookup: what isn't in occ is free, and no entry is above d -/
def own_LK (occ : List Nat) (d : Int32) (K : Nat → Int32) : Prop := (∀ k, k < 512 → k ∉ occ → (K k).toInt = 0) ∧ ∀ k, k < 512 → 0 ≤ (K k).toInt ∧ (K k).toInt ≤ d.toInt
theorem own_LK0 (d : Int32) (h : 0 ≤ d.toInt) : own_LK [] d (fun _ => (0 : Int32)) := ⟨fun _ _ _ => (by decide : (0 : Int32).toInt = 0), fun _ _ => ⟨(by decide : 0 ≤ (0 : Int32).toInt), h⟩⟩
theorem own_LKset {occ : List Nat} {d : Int32} {K : Nat → Int32} (h : own_LK occ d K) (hd : 0 ≤ d.toInt ∧ d.toInt ≤ 200) (t : Nat) : own_LK (t :: occ) (d + (1 : Int32)) (fun k => if k = t then (nar .short ((d + (1 : Int32)).toInt16.toInt32)) else K k) := by
  have h1 := own_inc d (by omega)
  have h2 := own_ns (x := d + (1 : Int32)) (by omega)
  refine ⟨fun k hk hn => ?_, fun k hk => ?_⟩
  · simp only [List.mem_cons, not_or] at hn
    show (if k = t then _ else K k).toInt = 0
    rw [if_neg hn.1]
    exact h.1 k hk hn.2
  · show 0 ≤ (if k = t then _ else K k).toInt ∧ (if k = t then _ else K k).toInt ≤ _
    have := h.2 k hk
    split <;> omega
theorem own_CPset {d : Int32} {V : Nat → Int64} {q : Int64} (hd : 0 ≤ d.toInt ∧ d.toInt ≤ 200) : own_CP d d (d + (1 : Int32)) V (fun k => if k = d.toNatClampNeg then q else V k) q := by
  have h1 := own_inc d (by omega)
  have h2 := own_nat hd.1
  refine ⟨hd.1, by omega, by omega, by omega, by show (if _ then _ else _) = q; rw [if_pos rfl], fun k hk => ?_⟩
  show (if _ then _ else _) = V k
  rw [if_neg (by omega)]
theorem own_CPold {r d : Int32} {V : Nat → Int64} {q : Int64} (h0 : 0 ≤ r.toInt) (h1 : r.toInt < d.toInt) (h : V r.toNatClampNeg = q) : own_CP r d d V V q := ⟨h0, h1, by omega, by omega, h, fun _ _ => rfl⟩
theorem own_pl1 {Z : State} {h : Heap} {a : Addr} {C : String} (E : Exa Z h a C) : ∀ x ∈ [a], ∀ c : Cell, h[x]? = some c → c.vm.isStatics = false := fun x hx c hc => by
  cases List.mem_singleton.mp hx
  obtain ⟨c', k, h1, -, -, h4, -⟩ := E
  cases h1.symm.trans hc
  exact h4
theorem own_at {r : Int32} {V : Nat → Int64} {q : Int64} (h : 0 ≤ r.toInt ∧ r.toInt < 256) (e : V r.toNatClampNeg = q) : V ((nar .byte (r.toInt8.toInt32)) &&& (255 : Int32)).toNatClampNeg = q := by rw [own_ci h]; exact e
theorem own_q3 (x : Int32) : 0 ≤ ((((x.toUInt32 >>> ((3 : Int32) &&& 31).toUInt32).toInt32) &&& (2147483647 : Int32)) % (3 : Int32)).toInt ∧ ((((x.toUInt32 >>> ((3 : Int32) &&& 31).toUInt32).toInt32) &&& (2147483647 : Int32)) % (3 : Int32)).toInt ≤ 2 := by
  generalize ((x.toUInt32 >>> ((3 : Int32) &&& 31).toUInt32).toInt32) = y
  have h1 : (y &&& (2147483647 : Int32)).toInt = y.toInt % 2147483648 := c_mask y 2147483647 31 (by decide) (by decide)
  have h2 := (c_irem (y &&& (2147483647 : Int32)) 3 3 (by decide)).1 (by omega)
  omega
theorem own_3 {i : Int32} (h : 0 ≤ i.toInt ∧ i.toInt ≤ 2) : i = (0 : Int32) ∨ i = (1 : Int32) ∨ i = (2 : Int32) := by
  simp only [← Int32.toInt_inj]
  have e : (0 : Int32).toInt = 0 ∧ (1 : Int32).toInt = 1 ∧ (2 : Int32).toInt = 2 := by decide
  omega
theorem own_pn0 : plainFor (⟨"com/example/reach2/reach2/model/CodedColumn", "<init>", "([B[J[SI[J)V"⟩ : MethodName) = true := by first | exact plainFor_of_name (by simp [plainName, overriddenIn]; done) | decide +kernel
theorem own_d2_0 : decode prog_47_method_2_code 0 = .ok (.aload_n 0, 1) := by decide +kernel
theorem own_d2_1 : decode prog_47_method_2_code 1 = .ok (.invokespecial 7, 3) := by decide +kernel
theorem own_d2_4 : decode prog_47_method_2_code 4 = .ok (.aload_n 0, 1) := by decide +kernel
theorem own_d2_5 : decode prog_47_method_2_code 5 = .ok (.aload_n 1, 1) := by decide +kernel
theorem own_d2_6 : decode prog_47_method_2_code 6 = .ok (.putfield 12, 3) := by decide +kernel
theorem own_d2_9 : decode prog_47_method_2_code 9 = .ok (.aload_n 0, 1) := by decide +kernel
theorem own_d2_10 : decode prog_47_method_2_code 10 = .ok (.aload_n 2, 1) := by decide +kernel
theorem own_d2_11 : decode prog_47_method_2_code 11 = .ok (.putfield 16, 3) := by decide +kernel
theorem own_d2_14 : decode prog_47_method_2_code 14 = .ok (.aload_n 0, 1) := by decide +kernel
theorem own_d2_15 : decode prog_47_method_2_code 15 = .ok (.aload_n 3, 1) := by decide +kernel
theorem own_d2_16 : decode prog_47_method_2_code 16 = .ok (.putfield 20, 3) := by decide +kernel
theorem own_d2_19 : decode prog_47_method_2_code 19 = .ok (.aload_n 0, 1) := by decide +kernel
theorem own_d2_20 : decode prog_47_method_2_code 20 = .ok (.iload 4, 2) := by decide +kernel
theorem own_d2_22 : decode prog_47_method_2_code 22 = .ok (.putfield 24, 3) := by decide +kernel
theorem own_d2_25 : decode prog_47_method_2_code 25 = .ok (.aload_n 0, 1) := by decide +kernel
theorem own_d2_26 : decode prog_47_method_2_code 26 = .ok (.aload 5, 2) := by decide +kernel
theorem own_d2_28 : decode prog_47_method_2_code 28 = .ok (.putfield 28, 3) := by decide +kernel
theorem own_d2_31 : decode prog_47_method_2_code 31 = .ok (.return_, 1) := by decide +kernel
theorem own_ef_rmI2 (m : MethodId) (a1 : Nat) (ac : Nat) (av : Nat) (al : Nat) (p4 : Int32) : entryFrame m #[(.ref a1), (.ref ac), (.ref av), (.ref al), (.int p4), .null] 6 = mkF m 0 #[rv a1, rv ac, rv av, rv al, iv p4, .val .null] [] := by first | (simp [entryFrame, mkF, argsToLocals, Value.category, maxLocals]; done) | rfl
abbrev own_Q_rmI2 (Z : State) (a1 : Nat) (ac : Nat) (av : Nat) (al : Nat) (p4 : Int32) (u_codes : Value) (u_values : Value) (u_lookup : Value) (u_distinct : Value) (u_plain : Value) (h0 : Heap) (n0 : Nat) (v : Option Value) (h : Heap) (L : List Loc) : Prop := v = none ∧ Fr n0 L ∧ Keep h0 h [a1] ∧ Exa Z h a1 "com/example/reach2/reach2/model/CodedColumn" ∧ Fld Z h a1 "com/example/reach2/reach2/model/CodedColumn" "codes" "[B" (.ref ac) ∧ Fld Z h a1 "com/example/reach2/reach2/model/CodedColumn" "values" "[J" (.ref av) ∧ Fld Z h a1 "com/example/reach2/reach2/model/CodedColumn" "lookup" "[S" (.ref al) ∧ Fld Z h a1 "com/example/reach2/reach2/model/CodedColumn" "distinct" "I" (.int p4) ∧ Fld Z h a1 "com/example/reach2/reach2/model/CodedColumn" "plain" "[J" .null
set_option maxRecDepth 65536 in
set_option maxHeartbeats 40000000 in
theorem rmI2 (l : Launch) (Z : State) (a0 : Array Value) (hw : ∀ d ∈ tables_1, d.before a0 Z = true) (ws : List Jvm.Cond) (a1 : Nat) (ac : Nat) (av : Nat) (al : Nat) (p4 : Int32) (u_codes : Value) (u_values : Value) (u_lookup : Value) (u_distinct : Value) (u_plain : Value) (h0 : Heap) (n0 : Nat) (Z0 : n0 ≤ h0.size) (E1 : Exa Z h0 a1 "com/example/reach2/reach2/model/CodedColumn") (F_codes : Fld Z h0 a1 "com/example/reach2/reach2/model/CodedColumn" "codes" "[B" u_codes) (F_values : Fld Z h0 a1 "com/example/reach2/reach2/model/CodedColumn" "values" "[J" u_values) (F_lookup : Fld Z h0 a1 "com/example/reach2/reach2/model/CodedColumn" "lookup" "[S" u_lookup) (F_distinct : Fld Z h0 a1 "com/example/reach2/reach2/model/CodedColumn" "distinct" "I" u_distinct) (F_plain : Fld Z h0 a1 "com/example/reach2/reach2/model/CodedColumn" "plain" "[J" u_plain) (g1 : n0 ≤ a1) :
    MetFree l (⟨"com/example/reach2/reach2/model/CodedColumn", "<init>", "([B[J[SI[J)V"⟩ : MethodName) (head1 (Jvm.Cond.code (⟨"com/example/reach2/reach2/model/CodedColumn", "<init>", "([B[J[SI[J)V"⟩ : MethodName) prog_47_method_2_code 6 none :: ws) ({ frames := 1, cells := 0, slots := 0, locals := 12 } : Room)) (fun a U => a = #[(.ref a1), (.ref ac), (.ref av), (.ref al), (.int p4), .null] ∧ Z.Warmed39 U.vm ∧ U.heap = h0) (fun _ _ _ _ _ => True) (fun _ U o U' => ∃ v L, o = .returned v ∧ own_Q_rmI2 Z a1 ac av al p4 u_codes u_values u_lookup u_distinct u_plain h0 n0 v U'.heap L ∧ FrameEnd U o U' L ({ frames := 1, cells := 0, slots := 0, locals := 12 } : Room).cells ({ frames := 1, cells := 0, slots := 0, locals := 12 } : Room).slots) := by
  refine own_enter (Q := fun v h L => own_Q_rmI2 Z a1 ac av al p4 u_codes u_values u_lookup u_distinct u_plain h0 n0 v h L) (F := fun m => mkF m 0 #[rv a1, rv ac, rv av, rv al, iv p4, .val .null] []) own_pn0 (fun m => own_ef_rmI2 m a1 ac av al p4) ?_
  intro p e s m below meth c T X hx hby hml hret hlk hnm hown hZ e0
  show own_Goes p e below s _ _ (T.setTop (mkF m 0 #[rv a1, rv ac, rv av, rv al, iv p4, .val .null] []))
  have N0 := Fr.nil n0
  refine own_st (fun _ k => XS.aloadN X.here hx rfl (hb hby own_d2_0) rfl rfl  k) ?_
  show own_Goes p e below s _ _ (T.setTop (mkF m 1 #[rv a1, rv ac, rv av, rv al, iv p4, .val .null] [(.ref a1)]))
  obtain ⟨T101, X101, e101, st101⟩ := initO X hx hZ hown (hw _ (List.mem_of_getElem? (i := 12) rfl)) (hw _ (List.mem_of_getElem? (i := 13) rfl)) (hw _ (List.mem_of_getElem? (i := 14) rfl)) e0 (g := (mkF m 1 #[rv a1, rv ac, rv av, rv al, iv p4, .val .null] [(.ref a1)])) rfl (by rw [hml]; rfl) rfl (hb hby own_d2_1) (by decide) (W := 0) (by show 2 * 0 + _ ≤ _; exact Nat.le_of_eq rfl) (by decide)
  refine own_st st101 ?_
  show own_Goes p e below s _ _ (T101.setTop (mkF m 4 #[rv a1, rv ac, rv av, rv al, iv p4, .val .null] []))
  refine own_st (fun _ k => XS.aloadN X101.here hx rfl (hb hby own_d2_4) rfl rfl  k) ?_
  show own_Goes p e below s _ _ (T101.setTop (mkF m 5 #[rv a1, rv ac, rv av, rv al, iv p4, .val .null] [(.ref a1)]))
  refine own_st (fun _ k => XS.aloadN X101.here hx rfl (hb hby own_d2_5) rfl rfl  k) ?_
  show own_Goes p e below s _ _ (T101.setTop (mkF m 6 #[rv a1, rv ac, rv av, rv al, iv p4, .val .null] [(.ref ac), (.ref a1)]))
  obtain ⟨T102, h102, X102, e102, W102, st102⟩ := putF X101 hx hZ hown (host := "") (Or.inl (hw _ (List.mem_of_getElem? (i := 15) rfl))) Via.refl e101 F_codes E1 (Or.inl (hw _ (List.mem_of_getElem? (i := 16) rfl))) (hw _ (List.mem_of_getElem? (i := 1) rfl)) (ty := (.array .byte)) (by decide) rfl rfl (g := (mkF m 6 #[rv a1, rv ac, rv av, rv al, iv p4, .val .null] [(.ref ac), (.ref a1)])) rfl rfl (hb hby own_d2_6)
  have z102 := W102.size
  have N102 := Fr.snoc X102 N0 (by omega)
  have F102 := F_codes.same W102
  refine own_st st102 ?_
  show own_Goes p e below s _ _ (T102.setTop (mkF m 9 #[rv a1, rv ac, rv av, rv al, iv p4, .val .null] []))
  refine own_st (fun _ k => XS.aloadN X102.here hx rfl (hb hby own_d2_9) rfl rfl  k) ?_
  show own_Goes p e below s _ _ (T102.setTop (mkF m 10 #[rv a1, rv ac, rv av, rv al, iv p4, .val .null] [(.ref a1)]))
  refine own_st (fun _ k => XS.aloadN X102.here hx rfl (hb hby own_d2_10) rfl rfl  k) ?_
  show own_Goes p e below s _ _ (T102.setTop (mkF m 11 #[rv a1, rv ac, rv av, rv al, iv p4, .val .null] [(.ref av), (.ref a1)]))
  have f103 := (F_values.other W102 (Or.inr (slot_ne (Or.inl (hw _ (List.mem_of_getElem? (i := 18) rfl))) (Or.inl (hw _ (List.mem_of_getElem? (i := 16) rfl))) (by decide) (t := (.array .long)) (t' := (.array .byte)) (by decide) (by decide))))
  have f104 := (E1.wr W102)
  obtain ⟨T105, h105, X105, e105, W105, st105⟩ := putF X102 hx hZ hown (host := "") (Or.inl (hw _ (List.mem_of_getElem? (i := 17) rfl))) Via.refl e102 f103 f104 (Or.inl (hw _ (List.mem_of_getElem? (i := 18) rfl))) (hw _ (List.mem_of_getElem? (i := 1) rfl)) (ty := (.array .long)) (by decide) rfl rfl (g := (mkF m 11 #[rv a1, rv ac, rv av, rv al, iv p4, .val .null] [(.ref av), (.ref a1)])) rfl rfl (hb hby own_d2_11)
  have z105 := W105.size
  have N105 := Fr.snoc X105 N102 (by omega)
  have F105 := f103.same W105
  refine own_st st105 ?_
  show own_Goes p e below s _ _ (T105.setTop (mkF m 14 #[rv a1, rv ac, rv av, rv al, iv p4, .val .null] []))
  refine own_st (fun _ k => XS.aloadN X105.here hx rfl (hb hby own_d2_14) rfl rfl  k) ?_
  show own_Goes p e below s _ _ (T105.setTop (mkF m 15 #[rv a1, rv ac, rv av, rv al, iv p4, .val .null] [(.ref a1)]))
  refine own_st (fun _ k => XS.aloadN X105.here hx rfl (hb hby own_d2_15) rfl rfl  k) ?_
  show own_Goes p e below s _ _ (T105.setTop (mkF m 16 #[rv a1, rv ac, rv av, rv al, iv p4, .val .null] [(.ref al), (.ref a1)]))
  have f106 := ((F_lookup.other W102 (Or.inr (slot_ne (Or.inl (hw _ (List.mem_of_getElem? (i := 20) rfl))) (Or.inl (hw _ (List.mem_of_getElem? (i := 16) rfl))) (by decide) (t := (.array .short)) (t' := (.array .byte)) (by decide) (by decide)))).other W105 (Or.inr (slot_ne (Or.inl (hw _ (List.mem_of_getElem? (i := 20) rfl))) (Or.inl (hw _ (List.mem_of_getElem? (i := 18) rfl))) (by decide) (t := (.array .short)) (t' := (.array .long)) (by decide) (by decide))))
  have f107 := (f104.wr W105)
  obtain ⟨T108, h108, X108, e108, W108, st108⟩ := putF X105 hx hZ hown (host := "") (Or.inl (hw _ (List.mem_of_getElem? (i := 19) rfl))) Via.refl e105 f106 f107 (Or.inl (hw _ (List.mem_of_getElem? (i := 20) rfl))) (hw _ (List.mem_of_getElem? (i := 1) rfl)) (ty := (.array .short)) (by decide) rfl rfl (g := (mkF m 16 #[rv a1, rv ac, rv av, rv al, iv p4, .val .null] [(.ref al), (.ref a1)])) rfl rfl (hb hby own_d2_16)
  have z108 := W108.size
  have N108 := Fr.snoc X108 N105 (by omega)
  have F108 := f106.same W108
  refine own_st st108 ?_
  show own_Goes p e below s _ _ (T108.setTop (mkF m 19 #[rv a1, rv ac, rv av, rv al, iv p4, .val .null] []))
  refine own_st (fun _ k => XS.aloadN X108.here hx rfl (hb hby own_d2_19) rfl rfl  k) ?_
  show own_Goes p e below s _ _ (T108.setTop (mkF m 20 #[rv a1, rv ac, rv av, rv al, iv p4, .val .null] [(.ref a1)]))
  refine own_st (fun _ k => XS.iload X108.here hx rfl (hb hby own_d2_20) rfl  k) ?_
  show own_Goes p e below s _ _ (T108.setTop (mkF m 22 #[rv a1, rv ac, rv av, rv al, iv p4, .val .null] [(.int p4), (.ref a1)]))
  have f109 := (((F_distinct.other W102 (Or.inr (slot_ne (Or.inl (hw _ (List.mem_of_getElem? (i := 22) rfl))) (Or.inl (hw _ (List.mem_of_getElem? (i := 16) rfl))) (by decide) (t := .int) (t' := (.array .byte)) (by decide) (by decide)))).other W105 (Or.inr (slot_ne (Or.inl (hw _ (List.mem_of_getElem? (i := 22) rfl))) (Or.inl (hw _ (List.mem_of_getElem? (i := 18) rfl))) (by decide) (t := .int) (t' := (.array .long)) (by decide) (by decide)))).other W108 (Or.inr (slot_ne (Or.inl (hw _ (List.mem_of_getElem? (i := 22) rfl))) (Or.inl (hw _ (List.mem_of_getElem? (i := 20) rfl))) (by decide) (t := .int) (t' := (.array .short)) (by decide) (by decide))))
  have f110 := (f107.wr W108)
  obtain ⟨T111, h111, X111, e111, W111, st111⟩ := putF X108 hx hZ hown (host := "") (Or.inl (hw _ (List.mem_of_getElem? (i := 21) rfl))) Via.refl e108 f109 f110 (Or.inl (hw _ (List.mem_of_getElem? (i := 22) rfl))) (hw _ (List.mem_of_getElem? (i := 1) rfl)) (ty := .int) (by decide) rfl rfl (g := (mkF m 22 #[rv a1, rv ac, rv av, rv al, iv p4, .val .null] [(.int p4), (.ref a1)])) rfl rfl (hb hby own_d2_22)
  have z111 := W111.size
  have N111 := Fr.snoc X111 N108 (by omega)
  have F111 := f109.same W111
  refine own_st st111 ?_
  show own_Goes p e below s _ _ (T111.setTop (mkF m 25 #[rv a1, rv ac, rv av, rv al, iv p4, .val .null] []))
  refine own_st (fun _ k => XS.aloadN X111.here hx rfl (hb hby own_d2_25) rfl rfl  k) ?_
  show own_Goes p e below s _ _ (T111.setTop (mkF m 26 #[rv a1, rv ac, rv av, rv al, iv p4, .val .null] [(.ref a1)]))
  refine own_st (fun _ k => XS.aload X111.here hx rfl (hb hby own_d2_26) rfl rfl  k) ?_
  show own_Goes p e below s _ _ (T111.setTop (mkF m 28 #[rv a1, rv ac, rv av, rv al, iv p4, .val .null] [.null, (.ref a1)]))
  have f112 := ((((F_plain.other W102 (Or.inr (slot_ne (Or.inl (hw _ (List.mem_of_getElem? (i := 24) rfl))) (Or.inl (hw _ (List.mem_of_getElem? (i := 16) rfl))) (by decide) (t := (.array .long)) (t' := (.array .byte)) (by decide) (by decide)))).other W105 (Or.inr (slot_ne (Or.inl (hw _ (List.mem_of_getElem? (i := 24) rfl))) (Or.inl (hw _ (List.mem_of_getElem? (i := 18) rfl))) (by decide) (t := (.array .long)) (t' := (.array .long)) (by decide) (by decide)))).other W108 (Or.inr (slot_ne (Or.inl (hw _ (List.mem_of_getElem? (i := 24) rfl))) (Or.inl (hw _ (List.mem_of_getElem? (i := 20) rfl))) (by decide) (t := (.array .long)) (t' := (.array .short)) (by decide) (by decide)))).other W111 (Or.inr (slot_ne (Or.inl (hw _ (List.mem_of_getElem? (i := 24) rfl))) (Or.inl (hw _ (List.mem_of_getElem? (i := 22) rfl))) (by decide) (t := (.array .long)) (t' := .int) (by decide) (by decide))))
  have f113 := (f110.wr W111)
  obtain ⟨T114, h114, X114, e114, W114, st114⟩ := putF X111 hx hZ hown (host := "") (Or.inl (hw _ (List.mem_of_getElem? (i := 23) rfl))) Via.refl e111 f112 f113 (Or.inl (hw _ (List.mem_of_getElem? (i := 24) rfl))) (hw _ (List.mem_of_getElem? (i := 1) rfl)) (ty := (.array .long)) (by decide) rfl rfl (g := (mkF m 28 #[rv a1, rv ac, rv av, rv al, iv p4, .val .null] [.null, (.ref a1)])) rfl rfl (hb hby own_d2_28)
  have z114 := W114.size
  have N114 := Fr.snoc X114 N111 (by omega)
  have F114 := f112.same W114
  refine own_st st114 ?_
  show own_Goes p e below s _ _ (T114.setTop (mkF m 31 #[rv a1, rv ac, rv av, rv al, iv p4, .val .null] []))
  have f115 := (f113.wr W114)
  have f116 := ((((F102.other W105 (Or.inr (slot_ne (Or.inl (hw _ (List.mem_of_getElem? (i := 16) rfl))) (Or.inl (hw _ (List.mem_of_getElem? (i := 18) rfl))) (by decide) (t := (.array .byte)) (t' := (.array .long)) (by decide) (by decide)))).other W108 (Or.inr (slot_ne (Or.inl (hw _ (List.mem_of_getElem? (i := 16) rfl))) (Or.inl (hw _ (List.mem_of_getElem? (i := 20) rfl))) (by decide) (t := (.array .byte)) (t' := (.array .short)) (by decide) (by decide)))).other W111 (Or.inr (slot_ne (Or.inl (hw _ (List.mem_of_getElem? (i := 16) rfl))) (Or.inl (hw _ (List.mem_of_getElem? (i := 22) rfl))) (by decide) (t := (.array .byte)) (t' := .int) (by decide) (by decide)))).other W114 (Or.inr (slot_ne (Or.inl (hw _ (List.mem_of_getElem? (i := 16) rfl))) (Or.inl (hw _ (List.mem_of_getElem? (i := 24) rfl))) (by decide) (t := (.array .byte)) (t' := (.array .long)) (by decide) (by decide))))
  have f117 := (((F105.other W108 (Or.inr (slot_ne (Or.inl (hw _ (List.mem_of_getElem? (i := 18) rfl))) (Or.inl (hw _ (List.mem_of_getElem? (i := 20) rfl))) (by decide) (t := (.array .long)) (t' := (.array .short)) (by decide) (by decide)))).other W111 (Or.inr (slot_ne (Or.inl (hw _ (List.mem_of_getElem? (i := 18) rfl))) (Or.inl (hw _ (List.mem_of_getElem? (i := 22) rfl))) (by decide) (t := (.array .long)) (t' := .int) (by decide) (by decide)))).other W114 (Or.inr (slot_ne (Or.inl (hw _ (List.mem_of_getElem? (i := 18) rfl))) (Or.inl (hw _ (List.mem_of_getElem? (i := 24) rfl))) (by decide) (t := (.array .long)) (t' := (.array .long)) (by decide) (by decide))))
  have f118 := ((F108.other W111 (Or.inr (slot_ne (Or.inl (hw _ (List.mem_of_getElem? (i := 20) rfl))) (Or.inl (hw _ (List.mem_of_getElem? (i := 22) rfl))) (by decide) (t := (.array .short)) (t' := .int) (by decide) (by decide)))).other W114 (Or.inr (slot_ne (Or.inl (hw _ (List.mem_of_getElem? (i := 20) rfl))) (Or.inl (hw _ (List.mem_of_getElem? (i := 24) rfl))) (by decide) (t := (.array .short)) (t' := (.array .long)) (by decide) (by decide))))
  have f119 := (F111.other W114 (Or.inr (slot_ne (Or.inl (hw _ (List.mem_of_getElem? (i := 22) rfl))) (Or.inl (hw _ (List.mem_of_getElem? (i := 24) rfl))) (by decide) (t := .int) (t' := (.array .long)) (by decide) (by decide))))
  exact own_ret0 X114 hx hlk hret (hb hby own_d2_31) (by decide) (by decide) ⟨rfl, N114, by rw [e114]; exact ((((((Keep.refl h0 [a1]).wr W102 (Or.inl (by simp))).wr W105 (Or.inl (by simp))).wr W108 (Or.inl (by simp))).wr W111 (Or.inl (by simp))).wr W114 (Or.inl (by simp))), by rw [e114]; exact f115, by rw [e114]; exact f116, by rw [e114]; exact f117, by rw [e114]; exact f118, by rw [e114]; exact f119, by rw [e114]; exact F114⟩
theorem own_pn1 : plainFor (⟨"com/example/reach2/reach2/model/CodedColumn", "<init>", "(I)V"⟩ : MethodName) = true := by first | exact plainFor_of_name (by simp [plainName, overriddenIn]; done) | decide +kernel
theorem own_d1_0 : decode prog_47_method_1_code 0 = .ok (.aload_n 0, 1) := by decide +kernel
theorem own_d1_1 : decode prog_47_method_1_code 1 = .ok (.iload_n 1, 1) := by decide +kernel
theorem own_d1_2 : decode prog_47_method_1_code 2 = .ok (.newarray .byte, 2) := by decide +kernel
theorem own_d1_4 : decode prog_47_method_1_code 4 = .ok (.sipush 256, 3) := by decide +kernel
theorem own_d1_7 : decode prog_47_method_1_code 7 = .ok (.newarray .long, 2) := by decide +kernel
theorem own_d1_9 : decode prog_47_method_1_code 9 = .ok (.sipush 512, 3) := by decide +kernel
theorem own_d1_12 : decode prog_47_method_1_code 12 = .ok (.newarray .short, 2) := by decide +kernel
theorem own_d1_14 : decode prog_47_method_1_code 14 = .ok (.iconst 0, 1) := by decide +kernel
theorem own_d1_15 : decode prog_47_method_1_code 15 = .ok (.aconst_null, 1) := by decide +kernel
theorem own_d1_16 : decode prog_47_method_1_code 16 = .ok (.invokespecial 3, 3) := by decide +kernel
theorem own_pd0 : parseMethodDescriptor "([B[J[SI[J)V" = some ⟨[(.array .byte), (.array .long), (.array .short), .int, (.array .long)], none⟩ := by decide +kernel
theorem own_d1_19 : decode prog_47_method_1_code 19 = .ok (.return_, 1) := by decide +kernel
theorem own_ef_rmI1 (m : MethodId) (a1 : Nat) : entryFrame m #[(.ref a1), (.int (3 : Int32))] 2 = mkF m 0 #[rv a1, iv (3 : Int32)] [] := by first | (simp [entryFrame, mkF, argsToLocals, Value.category, maxLocals]; done) | rfl
abbrev own_Q_rmI1 (Z : State) (a1 : Nat) (u_codes : Value) (u_values : Value) (u_lookup : Value) (u_distinct : Value) (u_plain : Value) (h0 : Heap) (n0 : Nat) (v : Option Value) (h : Heap) (L : List Loc) : Prop := ∃ ac av al : Nat, v = none ∧ Fr n0 L ∧ Keep h0 h [a1] ∧ h0.size ≤ ac ∧ ac < av ∧ av < al ∧ al < h.size ∧ Exa Z h a1 "com/example/reach2/reach2/model/CodedColumn" ∧ Fld Z h a1 "com/example/reach2/reach2/model/CodedColumn" "codes" "[B" (.ref ac) ∧ Fld Z h a1 "com/example/reach2/reach2/model/CodedColumn" "values" "[J" (.ref av) ∧ Fld Z h a1 "com/example/reach2/reach2/model/CodedColumn" "lookup" "[S" (.ref al) ∧ Fld Z h a1 "com/example/reach2/reach2/model/CodedColumn" "distinct" "I" (.int (0 : Int32)) ∧ Fld Z h a1 "com/example/reach2/reach2/model/CodedColumn" "plain" "[J" .null ∧ own_Arf Z h ac .byte 3 (fun k => .int ((fun _ => (0 : Int32)) k)) ∧ own_Arf Z h av .long 256 (fun k => .long ((fun _ => (0 : Int64)) k)) ∧ own_Arf Z h al .short 512 (fun k => .int ((fun _ => (0 : Int32)) k))
set_option maxRecDepth 65536 in
set_option maxHeartbeats 40000000 in
theorem rmI1 (l : Launch) (Z : State) (a0 : Array Value) (hw : ∀ d ∈ tables_1, d.before a0 Z = true) (ws : List Jvm.Cond) (a1 : Nat) (u_codes : Value) (u_values : Value) (u_lookup : Value) (u_distinct : Value) (u_plain : Value) (h0 : Heap) (n0 : Nat) (Z0 : n0 ≤ h0.size) (E1 : Exa Z h0 a1 "com/example/reach2/reach2/model/CodedColumn") (F_codes : Fld Z h0 a1 "com/example/reach2/reach2/model/CodedColumn" "codes" "[B" u_codes) (F_values : Fld Z h0 a1 "com/example/reach2/reach2/model/CodedColumn" "values" "[J" u_values) (F_lookup : Fld Z h0 a1 "com/example/reach2/reach2/model/CodedColumn" "lookup" "[S" u_lookup) (F_distinct : Fld Z h0 a1 "com/example/reach2/reach2/model/CodedColumn" "distinct" "I" u_distinct) (F_plain : Fld Z h0 a1 "com/example/reach2/reach2/model/CodedColumn" "plain" "[J" u_plain) (g1 : n0 ≤ a1) (y1 : a1 < h0.size) :
    MetFree l (⟨"com/example/reach2/reach2/model/CodedColumn", "<init>", "(I)V"⟩ : MethodName) (head1 (Jvm.Cond.code (⟨"com/example/reach2/reach2/model/CodedColumn", "<init>", "(I)V"⟩ : MethodName) prog_47_method_1_code 2 none :: ws) ({ frames := 2, cells := 3, slots := 771, locals := 29 } : Room)) (fun a U => a = #[(.ref a1), (.int (3 : Int32))] ∧ Z.Warmed39 U.vm ∧ U.heap = h0) (fun _ _ _ _ _ => True) (fun _ U o U' => ∃ v L, o = .returned v ∧ own_Q_rmI1 Z a1 u_codes u_values u_lookup u_distinct u_plain h0 n0 v U'.heap L ∧ FrameEnd U o U' L ({ frames := 2, cells := 3, slots := 771, locals := 29 } : Room).cells ({ frames := 2, cells := 3, slots := 771, locals := 29 } : Room).slots) := by
  refine own_enter (Q := fun v h L => own_Q_rmI1 Z a1 u_codes u_values u_lookup u_distinct u_plain h0 n0 v h L) (F := fun m => mkF m 0 #[rv a1, iv (3 : Int32)] []) own_pn1 (fun m => own_ef_rmI1 m a1) ?_
  intro p e s m below meth c T X hx hby hml hret hlk hnm hown hZ e0
  show own_Goes p e below s _ _ (T.setTop (mkF m 0 #[rv a1, iv (3 : Int32)] []))
  have N0 := Fr.nil n0
  refine own_st (fun _ k => XS.aloadN X.here hx rfl (hb hby own_d1_0) rfl rfl  k) ?_
  show own_Goes p e below s _ _ (T.setTop (mkF m 1 #[rv a1, iv (3 : Int32)] [(.ref a1)]))
  refine own_st (fun _ k => XS.iloadN X.here hx rfl (hb hby own_d1_1) rfl  k) ?_
  show own_Goes p e below s _ _ (T.setTop (mkF m 2 #[rv a1, iv (3 : Int32)] [(.int (3 : Int32)), (.ref a1)]))
  obtain ⟨T101, h101, X101, e101, E101, A101, st101⟩ := own_newP X hx hZ (aty := .byte) (hw _ (List.mem_of_getElem? (i := 6) rfl)) e0 (g := (mkF m 2 #[rv a1, iv (3 : Int32)] [(.int (3 : Int32)), (.ref a1)])) rfl (hb hby own_d1_2) rfl (by decide) (cap := 3) (by decide) (by decide) (by decide) (by decide)
  obtain ⟨b101, g101⟩ : ∃ z, z = h0.size := ⟨_, rfl⟩
  rw [← g101] at A101 st101
  have V101 : own_Arf Z h101 b101 .byte 3 (fun k => .int ((fun _ => (0 : Int32)) k)) := A101
  have y101 := own_lt V101.lt
  have z101 := E101.1
  refine own_st st101 ?_
  show own_Goes p e below s _ _ (T101.setTop (mkF m 4 #[rv a1, iv (3 : Int32)] [(.ref b101), (.ref a1)]))
  refine own_st (fun _ k => XS.sipush X101.here hx rfl (hb hby own_d1_4) k) ?_
  show own_Goes p e below s _ _ (T101.setTop (mkF m 7 #[rv a1, iv (3 : Int32)] [(.int (256 : Int32)), (.ref b101), (.ref a1)]))
  obtain ⟨T102, h102, X102, e102, E102, A102, st102⟩ := own_newP X101 hx hZ (aty := .long) (hw _ (List.mem_of_getElem? (i := 7) rfl)) e101 (g := (mkF m 7 #[rv a1, iv (3 : Int32)] [(.int (256 : Int32)), (.ref b101), (.ref a1)])) rfl (hb hby own_d1_7) rfl (by decide) (cap := 256) (by decide) (by decide) (by decide) (by decide)
  obtain ⟨b102, g102⟩ : ∃ z, z = h101.size := ⟨_, rfl⟩
  rw [← g102] at A102 st102
  have V102 : own_Arf Z h102 b102 .long 256 (fun k => .long ((fun _ => (0 : Int64)) k)) := A102
  have y102 := own_lt V102.lt
  have z102 := E102.1
  refine own_st st102 ?_
  show own_Goes p e below s _ _ (T102.setTop (mkF m 9 #[rv a1, iv (3 : Int32)] [(.ref b102), (.ref b101), (.ref a1)]))
  refine own_st (fun _ k => XS.sipush X102.here hx rfl (hb hby own_d1_9) k) ?_
  show own_Goes p e below s _ _ (T102.setTop (mkF m 12 #[rv a1, iv (3 : Int32)] [(.int (512 : Int32)), (.ref b102), (.ref b101), (.ref a1)]))
  obtain ⟨T103, h103, X103, e103, E103, A103, st103⟩ := own_newP X102 hx hZ (aty := .short) (hw _ (List.mem_of_getElem? (i := 8) rfl)) e102 (g := (mkF m 12 #[rv a1, iv (3 : Int32)] [(.int (512 : Int32)), (.ref b102), (.ref b101), (.ref a1)])) rfl (hb hby own_d1_12) rfl (by decide) (cap := 512) (by decide) (by decide) (by decide) (by decide)
  obtain ⟨b103, g103⟩ : ∃ z, z = h102.size := ⟨_, rfl⟩
  rw [← g103] at A103 st103
  have V103 : own_Arf Z h103 b103 .short 512 (fun k => .int ((fun _ => (0 : Int32)) k)) := A103
  have y103 := own_lt V103.lt
  have z103 := E103.1
  refine own_st st103 ?_
  show own_Goes p e below s _ _ (T103.setTop (mkF m 14 #[rv a1, iv (3 : Int32)] [(.ref b103), (.ref b102), (.ref b101), (.ref a1)]))
  refine own_st (fun _ k => XS.iconst X103.here hx rfl (hb hby own_d1_14) k) ?_
  show own_Goes p e below s _ _ (T103.setTop (mkF m 15 #[rv a1, iv (3 : Int32)] [(.int (0 : Int32)), (.ref b103), (.ref b102), (.ref b101), (.ref a1)]))
  refine own_st (fun _ k => XS.aconstNull X103.here hx rfl (hb hby own_d1_15) k) ?_
  show own_Goes p e below s _ _ (T103.setTop (mkF m 16 #[rv a1, iv (3 : Int32)] [.null, (.int (0 : Int32)), (.ref b103), (.ref b102), (.ref b101), (.ref a1)]))
  have f105 := (((E1.ext E101).ext E102).ext E103)
  have f106 := (((F_codes.ext E101).ext E102).ext E103)
  have f107 := (((F_values.ext E101).ext E102).ext E103)
  have f108 := (((F_lookup.ext E101).ext E102).ext E103)
  have f109 := (((F_distinct.ext E101).ext E102).ext E103)
  have f110 := (((F_plain.ext E101).ext E102).ext E103)
  obtain ⟨v104, T104, L104, X104, Q104, st104⟩ := own_callI X103 hx hZ (y := (⟨"com/example/reach2/reach2/model/CodedColumn", "<init>", "([B[J[SI[J)V"⟩ : MethodName)) hown (hw _ (List.mem_of_getElem? (i := 9) rfl)) (hw _ (List.mem_of_getElem? (i := 10) rfl)) (hw _ (List.mem_of_getElem? (i := 2) rfl)) (hw _ (List.mem_of_getElem? (i := 11) rfl)) rfl (by decide) (W := 0) (rest := []) (argsL := [(.ref b101), (.ref b102), (.ref b103), (.int (0 : Int32)), .null]) (a := a1) (rmI2 l Z a0 hw [] a1 b101 b102 b103 (0 : Int32) _ _ _ _ _  h103 n0 (by omega) f105 f106 f107 f108 f109 f110 (by omega)) (by decide) (by decide) (by decide) (by decide) e103 own_pd0 rfl (g := (mkF m 16 #[rv a1, iv (3 : Int32)] [.null, (.int (0 : Int32)), (.ref b103), (.ref b102), (.ref b101), (.ref a1)])) rfl (by rw [hml]; rfl) rfl (by show 2 * 0 + _ ≤ _; exact Nat.le_of_eq rfl) (hb hby own_d1_16)
  obtain ⟨rfl, N104q, K104, A104, F104_codes, F104_values, F104_lookup, F104_distinct, F104_plain⟩ := Q104
  have z104 := K104.1
  have N104 := Fr.app N0 N104q
  refine own_st st104 ?_
  show own_Goes p e below s _ _ (T104.setTop (mkF m 19 #[rv a1, iv (3 : Int32)] []))
  have f111 := (((V101.ext E102).ext E103).keep K104 (ninS (own_ne (by omega)) nin0))
  have f112 := ((V102.ext E103).keep K104 (ninS (own_ne (by omega)) nin0))
  have f113 := (V103.keep K104 (ninS (own_ne (by omega)) nin0))
  exact own_ret0 X104 hx hlk hret (hb hby own_d1_19) (by decide) (by decide) ⟨b101, b102, b103, rfl, N104, (((((Keep.refl h0 [a1]).ext E101).ext E102).ext E103).trans K104 (allS (Or.inl (by simp)) all0)), by omega, by omega, by omega, by omega, A104, F104_codes, F104_values, F104_lookup, F104_distinct, F104_plain, f111, f112, f113⟩
theorem own_pn2 : plainFor (⟨"com/example/reach2/reach2/model/CodedColumn", "code", "(J)I"⟩ : MethodName) = true := by first | exact plainFor_of_name (by simp [plainName, overriddenIn]; done) | decide +kernel
theorem own_d5_93 : decode prog_47_method_10_code 93 = .ok (.aload_n 0, 1) := by decide +kernel
theorem own_d5_94 : decode prog_47_method_10_code 94 = .ok (.getfield 20, 3) := by decide +kernel
theorem own_d5_97 : decode prog_47_method_10_code 97 = .ok (.iload 4, 2) := by decide +kernel
theorem own_d5_99 : decode prog_47_method_10_code 99 = .ok (.saload, 1) := by decide +kernel
theorem own_d5_100 : decode prog_47_method_10_code 100 = .ok (.iconst 1, 1) := by decide +kernel
theorem own_d5_101 : decode prog_47_method_10_code 101 = .ok (.isub, 1) := by decide +kernel
theorem own_d5_102 : decode prog_47_method_10_code 102 = .ok (.istore_n 3, 1) := by decide +kernel
theorem own_d5_103 : decode prog_47_method_10_code 103 = .ok (.iload_n 3, 1) := by decide +kernel
theorem own_d5_104 : decode prog_47_method_10_code 104 = .ok (.ifCond .ge 43, 3) := by decide +kernel
theorem own_d5_107 : decode prog_47_method_10_code 107 = .ok (.aload_n 0, 1) := by decide +kernel
theorem own_d5_108 : decode prog_47_method_10_code 108 = .ok (.getfield 24, 3) := by decide +kernel
theorem own_d5_111 : decode prog_47_method_10_code 111 = .ok (.sipush 256, 3) := by decide +kernel
theorem own_d5_114 : decode prog_47_method_10_code 114 = .ok (.if_icmp .ge 33, 3) := by decide +kernel
theorem own_d5_117 : decode prog_47_method_10_code 117 = .ok (.aload_n 0, 1) := by decide +kernel
theorem own_d5_118 : decode prog_47_method_10_code 118 = .ok (.dup, 1) := by decide +kernel
theorem own_d5_119 : decode prog_47_method_10_code 119 = .ok (.getfield 24, 3) := by decide +kernel
theorem own_d5_122 : decode prog_47_method_10_code 122 = .ok (.dup_x1, 1) := by decide +kernel
theorem own_d5_123 : decode prog_47_method_10_code 123 = .ok (.iconst 1, 1) := by decide +kernel
theorem own_d5_124 : decode prog_47_method_10_code 124 = .ok (.iadd, 1) := by decide +kernel
theorem own_d5_125 : decode prog_47_method_10_code 125 = .ok (.putfield 24, 3) := by decide +kernel
theorem own_d5_128 : decode prog_47_method_10_code 128 = .ok (.istore_n 3, 1) := by decide +kernel
theorem own_d5_129 : decode prog_47_method_10_code 129 = .ok (.aload_n 0, 1) := by decide +kernel
theorem own_d5_130 : decode prog_47_method_10_code 130 = .ok (.getfield 16, 3) := by decide +kernel
theorem own_d5_133 : decode prog_47_method_10_code 133 = .ok (.iload_n 3, 1) := by decide +kernel
theorem own_d5_134 : decode prog_47_method_10_code 134 = .ok (.lload_n 1, 1) := by decide +kernel
theorem own_d5_135 : decode prog_47_method_10_code 135 = .ok (.lastore, 1) := by decide +kernel
theorem own_d5_136 : decode prog_47_method_10_code 136 = .ok (.aload_n 0, 1) := by decide +kernel
theorem own_d5_137 : decode prog_47_method_10_code 137 = .ok (.getfield 20, 3) := by decide +kernel
theorem own_d5_140 : decode prog_47_method_10_code 140 = .ok (.iload 4, 2) := by decide +kernel
theorem own_d5_142 : decode prog_47_method_10_code 142 = .ok (.iload_n 3, 1) := by decide +kernel
theorem own_d5_143 : decode prog_47_method_10_code 143 = .ok (.iconst 1, 1) := by decide +kernel
theorem own_d5_144 : decode prog_47_method_10_code 144 = .ok (.iadd, 1) := by decide +kernel
theorem own_d5_145 : decode prog_47_method_10_code 145 = .ok (.i2s, 1) := by decide +kernel
theorem own_d5_146 : decode prog_47_method_10_code 146 = .ok (.sastore, 1) := by decide +kernel
theorem own_d5_147 : decode prog_47_method_10_code 147 = .ok (.iload_n 3, 1) := by decide +kernel
theorem own_d5_148 : decode prog_47_method_10_code 148 = .ok (.ireturn, 1) := by decide +kernel
theorem own_d5_51 : decode prog_47_method_10_code 51 = .ok (.aload_n 0, 1) := by decide +kernel
theorem own_d5_52 : decode prog_47_method_10_code 52 = .ok (.getfield 20, 3) := by decide +kernel
theorem own_d5_55 : decode prog_47_method_10_code 55 = .ok (.iload 4, 2) := by decide +kernel
theorem own_d5_57 : decode prog_47_method_10_code 57 = .ok (.saload, 1) := by decide +kernel
theorem own_d5_58 : decode prog_47_method_10_code 58 = .ok (.ifCond .eq 35, 3) := by decide +kernel
theorem own_d5_61 : decode prog_47_method_10_code 61 = .ok (.aload_n 0, 1) := by decide +kernel
theorem own_d5_62 : decode prog_47_method_10_code 62 = .ok (.getfield 16, 3) := by decide +kernel
theorem own_d5_65 : decode prog_47_method_10_code 65 = .ok (.aload_n 0, 1) := by decide +kernel
theorem own_d5_66 : decode prog_47_method_10_code 66 = .ok (.getfield 20, 3) := by decide +kernel
theorem own_d5_69 : decode prog_47_method_10_code 69 = .ok (.iload 4, 2) := by decide +kernel
theorem own_d5_71 : decode prog_47_method_10_code 71 = .ok (.saload, 1) := by decide +kernel
theorem own_d5_72 : decode prog_47_method_10_code 72 = .ok (.iconst 1, 1) := by decide +kernel
theorem own_d5_73 : decode prog_47_method_10_code 73 = .ok (.isub, 1) := by decide +kernel
theorem own_d5_74 : decode prog_47_method_10_code 74 = .ok (.laload, 1) := by decide +kernel
theorem own_d5_75 : decode prog_47_method_10_code 75 = .ok (.lload_n 1, 1) := by decide +kernel
theorem own_d5_76 : decode prog_47_method_10_code 76 = .ok (.lcmp, 1) := by decide +kernel
theorem own_d5_77 : decode prog_47_method_10_code 77 = .ok (.ifCond .eq 16, 3) := by decide +kernel
theorem own_d5_80 : decode prog_47_method_10_code 80 = .ok (.iload 4, 2) := by decide +kernel
theorem own_d5_82 : decode prog_47_method_10_code 82 = .ok (.iconst 1, 1) := by decide +kernel
theorem own_d5_83 : decode prog_47_method_10_code 83 = .ok (.iadd, 1) := by decide +kernel
theorem own_d5_84 : decode prog_47_method_10_code 84 = .ok (.sipush 511, 3) := by decide +kernel
theorem own_d5_87 : decode prog_47_method_10_code 87 = .ok (.iand, 1) := by decide +kernel
theorem own_d5_88 : decode prog_47_method_10_code 88 = .ok (.istore 4, 2) := by decide +kernel
theorem own_d5_90 : decode prog_47_method_10_code 90 = .ok (.goto (-39), 3) := by decide +kernel
theorem own_d5_39 : decode prog_47_method_10_code 39 = .ok (.lload_n 1, 1) := by decide +kernel
theorem own_d5_40 : decode prog_47_method_10_code 40 = .ok (.ldc2_w 60, 3) := by decide +kernel
theorem own_d5_43 : decode prog_47_method_10_code 43 = .ok (.lmul, 1) := by decide +kernel
theorem own_d5_44 : decode prog_47_method_10_code 44 = .ok (.getstatic 62, 3) := by decide +kernel
theorem own_d5_47 : decode prog_47_method_10_code 47 = .ok (.lushr, 1) := by decide +kernel
theorem own_d5_48 : decode prog_47_method_10_code 48 = .ok (.l2i, 1) := by decide +kernel
theorem own_d5_49 : decode prog_47_method_10_code 49 = .ok (.istore 4, 2) := by decide +kernel
theorem own_d5_0 : decode prog_47_method_10_code 0 = .ok (.lload_n 1, 1) := by decide +kernel
theorem own_d5_1 : decode prog_47_method_10_code 1 = .ok (.lconst 0, 1) := by decide +kernel
theorem own_d5_2 : decode prog_47_method_10_code 2 = .ok (.lcmp, 1) := by decide +kernel
theorem own_d5_3 : decode prog_47_method_10_code 3 = .ok (.ifCond .lt 30, 3) := by decide +kernel
theorem own_d5_33 : decode prog_47_method_10_code 33 = .ok (.iconst (-1), 1) := by decide +kernel
theorem own_d5_34 : decode prog_47_method_10_code 34 = .ok (.istore_n 3, 1) := by decide +kernel
theorem own_d5_35 : decode prog_47_method_10_code 35 = .ok (.iload_n 3, 1) := by decide +kernel
theorem own_d5_36 : decode prog_47_method_10_code 36 = .ok (.ifCond .ge 111, 3) := by decide +kernel
theorem own_d5_6 : decode prog_47_method_10_code 6 = .ok (.lload_n 1, 1) := by decide +kernel
theorem own_d5_7 : decode prog_47_method_10_code 7 = .ok (.aload_n 0, 1) := by decide +kernel
theorem own_d5_8 : decode prog_47_method_10_code 8 = .ok (.getfield 24, 3) := by decide +kernel
theorem own_d5_11 : decode prog_47_method_10_code 11 = .ok (.i2l, 1) := by decide +kernel
theorem own_d5_12 : decode prog_47_method_10_code 12 = .ok (.lcmp, 1) := by decide +kernel
theorem own_d5_13 : decode prog_47_method_10_code 13 = .ok (.ifCond .ge 20, 3) := by decide +kernel
theorem own_d5_16 : decode prog_47_method_10_code 16 = .ok (.aload_n 0, 1) := by decide +kernel
theorem own_d5_17 : decode prog_47_method_10_code 17 = .ok (.getfield 16, 3) := by decide +kernel
theorem own_d5_20 : decode prog_47_method_10_code 20 = .ok (.lload_n 1, 1) := by decide +kernel
theorem own_d5_21 : decode prog_47_method_10_code 21 = .ok (.l2i, 1) := by decide +kernel
theorem own_d5_22 : decode prog_47_method_10_code 22 = .ok (.laload, 1) := by decide +kernel
theorem own_d5_23 : decode prog_47_method_10_code 23 = .ok (.lload_n 1, 1) := by decide +kernel
theorem own_d5_24 : decode prog_47_method_10_code 24 = .ok (.lcmp, 1) := by decide +kernel
theorem own_d5_25 : decode prog_47_method_10_code 25 = .ok (.ifCond .ne 8, 3) := by decide +kernel
theorem own_d5_28 : decode prog_47_method_10_code 28 = .ok (.lload_n 1, 1) := by decide +kernel
theorem own_d5_29 : decode prog_47_method_10_code 29 = .ok (.l2i, 1) := by decide +kernel
theorem own_d5_30 : decode prog_47_method_10_code 30 = .ok (.goto 4, 3) := by decide +kernel
theorem own_ef_rmCode (m : MethodId) (a1 : Nat) (q2 : Int64) : entryFrame m #[(.ref a1), (.long q2)] 5 = mkF m 0 #[rv a1, own_jv q2, .second, .unset, .unset] [] := by first | (simp [entryFrame, mkF, argsToLocals, Value.category, maxLocals]; done) | rfl
abbrev own_Q_rmCode (Z : State) (a1 : Nat) (q2 : Int64) (ac : Nat) (av : Nat) (al : Nat) (d : Int32) (Vf : Nat → Int64) (Kf : Nat → Int32) (occ : List Nat) (h0 : Heap) (n0 : Nat) (v : Option Value) (h : Heap) (L : List Loc) : Prop := ∃ (r d' : Int32) (V' : Nat → Int64) (K' : Nat → Int32) (occ' : List Nat), v = some (.int r) ∧ Fr n0 L ∧ Keep h0 h [a1, av, al] ∧ Exa Z h a1 "com/example/reach2/reach2/model/CodedColumn" ∧ Fld Z h a1 "com/example/reach2/reach2/model/CodedColumn" "distinct" "I" (.int d') ∧ Fld Z h a1 "com/example/reach2/reach2/model/CodedColumn" "values" "[J" (.ref av) ∧ Fld Z h a1 "com/example/reach2/reach2/model/CodedColumn" "lookup" "[S" (.ref al) ∧ own_Arf Z h av .long 256 (fun k => .long (V' k)) ∧ own_Arf Z h al .short 512 (fun k => .int (K' k)) ∧ Fld Z h a1 "com/example/reach2/reach2/model/CodedColumn" "codes" "[B" (.ref ac) ∧ own_CP r d d' Vf V' q2 ∧ occ'.length ≤ occ.length + 1 ∧ own_LK occ' d' K' ∧ Sta Z h "com/example/reach2/reach2/model/CodedColumn" "LOOKUP_SHIFT" "I" (.int (55 : Int32))
set_option maxRecDepth 65536 in
set_option maxHeartbeats 40000000 in
theorem rmCode (l : Launch) (Z : State) (a0 : Array Value) (hw : ∀ d ∈ tables_1, d.before a0 Z = true) (ws : List Jvm.Cond) (a1 : Nat) (q2 : Int64) (ac : Nat) (av : Nat) (al : Nat) (d : Int32) (Vf : Nat → Int64) (Kf : Nat → Int32) (occ : List Nat) (h0 : Heap) (n0 : Nat) (Z0 : n0 ≤ h0.size) (E1 : Exa Z h0 a1 "com/example/reach2/reach2/model/CodedColumn") (F_d : Fld Z h0 a1 "com/example/reach2/reach2/model/CodedColumn" "distinct" "I" (.int d)) (F_v : Fld Z h0 a1 "com/example/reach2/reach2/model/CodedColumn" "values" "[J" (.ref av)) (F_l : Fld Z h0 a1 "com/example/reach2/reach2/model/CodedColumn" "lookup" "[S" (.ref al)) (F_c : Fld Z h0 a1 "com/example/reach2/reach2/model/CodedColumn" "codes" "[B" (.ref ac)) (Av : own_Arf Z h0 av .long 256 (fun k => .long (Vf k))) (Al : own_Arf Z h0 al .short 512 (fun k => .int (Kf k))) (S1 : Sta Z h0 "com/example/reach2/reach2/model/CodedColumn" "LOOKUP_SHIFT" "I" (.int (55 : Int32))) (hd : 0 ≤ d.toInt ∧ d.toInt ≤ 100) (ho : occ.length ≤ 3) (hK : own_LK occ d Kf) (g1 : n0 ≤ a1) (g2 : n0 ≤ av) (g3 : n0 ≤ al) (x1 : a1 ≠ av) (x2 : a1 ≠ al) (x3 : av ≠ al) :
    MetFree l (⟨"com/example/reach2/reach2/model/CodedColumn", "code", "(J)I"⟩ : MethodName) (head1 (Jvm.Cond.code (⟨"com/example/reach2/reach2/model/CodedColumn", "code", "(J)I"⟩ : MethodName) prog_47_method_10_code 5 (some .int) :: ws) ({ frames := 0, cells := 0, slots := 0, locals := 0 } : Room)) (fun a U => a = #[(.ref a1), (.long q2)] ∧ Z.Warmed39 U.vm ∧ U.heap = h0) (fun _ _ _ _ _ => True) (fun _ U o U' => ∃ v L, o = .returned v ∧ own_Q_rmCode Z a1 q2 ac av al d Vf Kf occ h0 n0 v U'.heap L ∧ FrameEnd U o U' L ({ frames := 0, cells := 0, slots := 0, locals := 0 } : Room).cells ({ frames := 0, cells := 0, slots := 0, locals := 0 } : Room).slots) := by
  refine own_enter (Q := fun v h L => own_Q_rmCode Z a1 q2 ac av al d Vf Kf occ h0 n0 v h L) (F := fun m => mkF m 0 #[rv a1, own_jv q2, .second, .unset, .unset] []) own_pn2 (fun m => own_ef_rmCode m a1 q2) ?_
  intro p e s m below meth c T X hx hby hml hret hlk hnm hown hZ e0
  show own_Goes p e below s _ _ (T.setTop (mkF m 0 #[rv a1, own_jv q2, .second, .unset, .unset] []))
  have N0 := Fr.nil n0
  have J93 : ∀ (TJ93 : State) (t : Int32), Stand p l e ({ frames := 0, cells := 0, slots := 0, locals := 0 } : Room) s m #[(.ref a1), (.long q2)] below meth c TJ93 [] 0 0 → TJ93.heap = h0 → (0 ≤ t.toInt ∧ t.toInt < 512) → ((Kf t.toNatClampNeg).toInt = 0 ∨ (1 ≤ (Kf t.toNatClampNeg).toInt ∧ Vf (Kf t.toNatClampNeg - (1 : Int32)).toNatClampNeg = q2)) → own_Goes p e below s ({ frames := 0, cells := 0, slots := 0, locals := 0 } : Room) (fun v h L => own_Q_rmCode Z a1 q2 ac av al d Vf Kf occ h0 n0 v h L) (TJ93.setTop (mkF m 93 #[rv a1, own_jv q2, .second, iv (-1 : Int32), iv t] [])) := by
    intro TJ93 t XJ93 eJ93 ht hor
    have hk := hK.2 t.toNatClampNeg (own_idx (n := 512) ht)
    have hk1 := own_dec (Kf t.toNatClampNeg) (by omega)
    generalize hkt : Kf t.toNatClampNeg = kt at hk hk1 hor
    refine own_st (fun _ k => XS.aloadN XJ93.here hx rfl (hb hby own_d5_93) rfl rfl  k) ?_
    show own_Goes p e below s _ _ (TJ93.setTop (mkF m 94 #[rv a1, own_jv q2, .second, iv (-1 : Int32), iv t] [(.ref a1)]))
    obtain ⟨T101, X101, e101, st101⟩ := getF XJ93 hx hZ hown (host := "") (Or.inl (hw _ (List.mem_of_getElem? (i := 19) rfl))) Via.refl eJ93 F_l (g := (mkF m 94 #[rv a1, own_jv q2, .second, iv (-1 : Int32), iv t] [(.ref a1)])) rfl rfl (hb hby own_d5_94)
    refine own_st st101 ?_
    show own_Goes p e below s _ _ (T101.setTop (mkF m 97 #[rv a1, own_jv q2, .second, iv (-1 : Int32), iv t] [(.ref al)]))
    refine own_st (fun _ k => XS.iload X101.here hx rfl (hb hby own_d5_97) rfl  k) ?_
    show own_Goes p e below s _ _ (T101.setTop (mkF m 99 #[rv a1, own_jv q2, .second, iv (-1 : Int32), iv t] [(.int t), (.ref al)]))
    refine own_st (fun _ k => own_ldS X101 hx hZ e101 Al (j := t) ht (g := (mkF m 99 #[rv a1, own_jv q2, .second, iv (-1 : Int32), iv t] [(.int t), (.ref al)])) rfl rfl (hb hby own_d5_99) _ k) ?_
    show own_Goes p e below s _ _ (T101.setTop (mkF m 100 #[rv a1, own_jv q2, .second, iv (-1 : Int32), iv t] [(.int (Kf (t).toNatClampNeg))]))
    rw [hkt]
    show own_Goes p e below s _ _ (T101.setTop (mkF m 100 #[rv a1, own_jv q2, .second, iv (-1 : Int32), iv t] [(.int kt)]))
    refine own_st (fun _ k => XS.iconst X101.here hx rfl (hb hby own_d5_100) k) ?_
    show own_Goes p e below s _ _ (T101.setTop (mkF m 101 #[rv a1, own_jv q2, .second, iv (-1 : Int32), iv t] [(.int (1 : Int32)), (.int kt)]))
    refine own_st (fun _ k => XS.isub X101.here hx rfl (hb hby own_d5_101) rfl k) ?_
    show own_Goes p e below s _ _ (T101.setTop (mkF m 102 #[rv a1, own_jv q2, .second, iv (-1 : Int32), iv t] [(.int (kt - (1 : Int32)))]))
    refine own_st (fun _ k => XS.istoreN X101.here hx rfl (hb hby own_d5_102) rfl (l' := #[rv a1, own_jv q2, .second, iv (kt - (1 : Int32)), iv t]) rfl k) ?_
    show own_Goes p e below s _ _ (T101.setTop (mkF m 103 #[rv a1, own_jv q2, .second, iv (kt - (1 : Int32)), iv t] []))
    refine own_st (fun _ k => XS.iloadN X101.here hx rfl (hb hby own_d5_103) rfl  k) ?_
    show own_Goes p e below s _ _ (T101.setTop (mkF m 104 #[rv a1, own_jv q2, .second, iv (kt - (1 : Int32)), iv t] [(.int (kt - (1 : Int32)))]))
    by_cases c102 : (kt - (1 : Int32)) < (0 : Int32)
    · have c102i : (kt - (1 : Int32)).toInt < 0 := own_i_lt c102
      refine own_st (fun _ k => XS.ifNo X101.here hx rfl (hb hby own_d5_104) rfl ((if0 _ _).trans (tlt c102).2.1) k) ?_
      show own_Goes p e below s _ _ (T101.setTop (mkF m 107 #[rv a1, own_jv q2, .second, iv (kt - (1 : Int32)), iv t] []))
      refine own_st (fun _ k => XS.aloadN X101.here hx rfl (hb hby own_d5_107) rfl rfl  k) ?_
      show own_Goes p e below s _ _ (T101.setTop (mkF m 108 #[rv a1, own_jv q2, .second, iv (kt - (1 : Int32)), iv t] [(.ref a1)]))
      obtain ⟨T103, X103, e103, st103⟩ := getF X101 hx hZ hown (host := "") (Or.inl (hw _ (List.mem_of_getElem? (i := 21) rfl))) Via.refl e101 F_d (g := (mkF m 108 #[rv a1, own_jv q2, .second, iv (kt - (1 : Int32)), iv t] [(.ref a1)])) rfl rfl (hb hby own_d5_108)
      refine own_st st103 ?_
      show own_Goes p e below s _ _ (T103.setTop (mkF m 111 #[rv a1, own_jv q2, .second, iv (kt - (1 : Int32)), iv t] [(.int d)]))
      refine own_st (fun _ k => XS.sipush X103.here hx rfl (hb hby own_d5_111) k) ?_
      show own_Goes p e below s _ _ (T103.setTop (mkF m 114 #[rv a1, own_jv q2, .second, iv (kt - (1 : Int32)), iv t] [(.int (256 : Int32)), (.int d)]))
      by_cases c104 : d < (256 : Int32)
      · have c104i : d.toInt < 256 := own_i_lt c104
        refine own_st (fun _ k => XS.icmpNo X103.here hx rfl (hb hby own_d5_114) rfl (tlt c104).2.1 k) ?_
        show own_Goes p e below s _ _ (T103.setTop (mkF m 117 #[rv a1, own_jv q2, .second, iv (kt - (1 : Int32)), iv t] []))
        refine own_st (fun _ k => XS.aloadN X103.here hx rfl (hb hby own_d5_117) rfl rfl  k) ?_
        show own_Goes p e below s _ _ (T103.setTop (mkF m 118 #[rv a1, own_jv q2, .second, iv (kt - (1 : Int32)), iv t] [(.ref a1)]))
        refine own_st (fun _ k => XS.dup X103.here hx rfl (hb hby own_d5_118) rfl rfl k) ?_
        show own_Goes p e below s _ _ (T103.setTop (mkF m 119 #[rv a1, own_jv q2, .second, iv (kt - (1 : Int32)), iv t] [(.ref a1), (.ref a1)]))
        obtain ⟨T105, X105, e105, st105⟩ := getF X103 hx hZ hown (host := "") (Or.inl (hw _ (List.mem_of_getElem? (i := 21) rfl))) Via.refl e103 F_d (g := (mkF m 119 #[rv a1, own_jv q2, .second, iv (kt - (1 : Int32)), iv t] [(.ref a1), (.ref a1)])) rfl rfl (hb hby own_d5_119)
        refine own_st st105 ?_
        show own_Goes p e below s _ _ (T105.setTop (mkF m 122 #[rv a1, own_jv q2, .second, iv (kt - (1 : Int32)), iv t] [(.int d), (.ref a1)]))
        refine own_st (fun _ k => XS.dupX1 X105.here hx rfl (hb hby own_d5_122) rfl rfl rfl k) ?_
        show own_Goes p e below s _ _ (T105.setTop (mkF m 123 #[rv a1, own_jv q2, .second, iv (kt - (1 : Int32)), iv t] [(.int d), (.ref a1), (.int d)]))
        refine own_st (fun _ k => XS.iconst X105.here hx rfl (hb hby own_d5_123) k) ?_
        show own_Goes p e below s _ _ (T105.setTop (mkF m 124 #[rv a1, own_jv q2, .second, iv (kt - (1 : Int32)), iv t] [(.int (1 : Int32)), (.int d), (.ref a1), (.int d)]))
        refine own_st (fun _ k => XS.iadd X105.here hx rfl (hb hby own_d5_124) rfl k) ?_
        show own_Goes p e below s _ _ (T105.setTop (mkF m 125 #[rv a1, own_jv q2, .second, iv (kt - (1 : Int32)), iv t] [(.int (d + (1 : Int32))), (.ref a1), (.int d)]))
        obtain ⟨T106, h106, X106, e106, W106, st106⟩ := putF X105 hx hZ hown (host := "") (Or.inl (hw _ (List.mem_of_getElem? (i := 21) rfl))) Via.refl e105 F_d E1 (Or.inl (hw _ (List.mem_of_getElem? (i := 22) rfl))) (hw _ (List.mem_of_getElem? (i := 1) rfl)) (ty := .int) (by decide) rfl rfl (g := (mkF m 125 #[rv a1, own_jv q2, .second, iv (kt - (1 : Int32)), iv t] [(.int (d + (1 : Int32))), (.ref a1), (.int d)])) rfl rfl (hb hby own_d5_125)
        have z106 := W106.size
        have N106 := Fr.snoc X106 N0 (by omega)
        have F106 := F_d.same W106
        refine own_st st106 ?_
        show own_Goes p e below s _ _ (T106.setTop (mkF m 128 #[rv a1, own_jv q2, .second, iv (kt - (1 : Int32)), iv t] [(.int d)]))
        refine own_st (fun _ k => XS.istoreN X106.here hx rfl (hb hby own_d5_128) rfl (l' := #[rv a1, own_jv q2, .second, iv d, iv t]) rfl k) ?_
        show own_Goes p e below s _ _ (T106.setTop (mkF m 129 #[rv a1, own_jv q2, .second, iv d, iv t] []))
        refine own_st (fun _ k => XS.aloadN X106.here hx rfl (hb hby own_d5_129) rfl rfl  k) ?_
        show own_Goes p e below s _ _ (T106.setTop (mkF m 130 #[rv a1, own_jv q2, .second, iv d, iv t] [(.ref a1)]))
        have f107 := (F_v.other W106 (Or.inr (slot_ne (Or.inl (hw _ (List.mem_of_getElem? (i := 18) rfl))) (Or.inl (hw _ (List.mem_of_getElem? (i := 22) rfl))) (by decide) (t := (.array .long)) (t' := .int) (by decide) (by decide))))
        obtain ⟨T108, X108, e108, st108⟩ := getF X106 hx hZ hown (host := "") (Or.inl (hw _ (List.mem_of_getElem? (i := 17) rfl))) Via.refl e106 f107 (g := (mkF m 130 #[rv a1, own_jv q2, .second, iv d, iv t] [(.ref a1)])) rfl rfl (hb hby own_d5_130)
        refine own_st st108 ?_
        show own_Goes p e below s _ _ (T108.setTop (mkF m 133 #[rv a1, own_jv q2, .second, iv d, iv t] [(.ref av)]))
        refine own_st (fun _ k => XS.iloadN X108.here hx rfl (hb hby own_d5_133) rfl  k) ?_
        show own_Goes p e below s _ _ (T108.setTop (mkF m 134 #[rv a1, own_jv q2, .second, iv d, iv t] [(.int d), (.ref av)]))
        refine own_st (fun _ k => XS.lloadN X108.here hx rfl (hb hby own_d5_134) rfl  k) ?_
        show own_Goes p e below s _ _ (T108.setTop (mkF m 135 #[rv a1, own_jv q2, .second, iv d, iv t] [(.long q2), (.int d), (.ref av)]))
        have f109 := (Av.other W106 (own_ne (by omega)))
        obtain ⟨T110, h110, X110, e110, W110, A110, st110⟩ := own_stJ X108 hx hZ e108 f109 (j := d) ⟨hd.1, by omega⟩ (g := (mkF m 135 #[rv a1, own_jv q2, .second, iv d, iv t] [(.long q2), (.int d), (.ref av)])) rfl rfl (hb hby own_d5_135)
        have V110 : own_Arf Z h110 av .long 256 (fun k => .long ((fun k => if k = (d).toNatClampNeg then q2 else Vf k) k)) := A110
        have z110 := W110.size
        have N110 := Fr.snoc X110 N106 (by omega)
        refine own_st st110 ?_
        show own_Goes p e below s _ _ (T110.setTop (mkF m 136 #[rv a1, own_jv q2, .second, iv d, iv t] []))
        refine own_st (fun _ k => XS.aloadN X110.here hx rfl (hb hby own_d5_136) rfl rfl  k) ?_
        show own_Goes p e below s _ _ (T110.setTop (mkF m 137 #[rv a1, own_jv q2, .second, iv d, iv t] [(.ref a1)]))
        have f111 := ((F_l.other W106 (Or.inr (slot_ne (Or.inl (hw _ (List.mem_of_getElem? (i := 20) rfl))) (Or.inl (hw _ (List.mem_of_getElem? (i := 22) rfl))) (by decide) (t := (.array .short)) (t' := .int) (by decide) (by decide)))).other W110 (Or.inl (own_ne (by omega))))
        obtain ⟨T112, X112, e112, st112⟩ := getF X110 hx hZ hown (host := "") (Or.inl (hw _ (List.mem_of_getElem? (i := 19) rfl))) Via.refl e110 f111 (g := (mkF m 137 #[rv a1, own_jv q2, .second, iv d, iv t] [(.ref a1)])) rfl rfl (hb hby own_d5_137)
        refine own_st st112 ?_
        show own_Goes p e below s _ _ (T112.setTop (mkF m 140 #[rv a1, own_jv q2, .second, iv d, iv t] [(.ref al)]))
        refine own_st (fun _ k => XS.iload X112.here hx rfl (hb hby own_d5_140) rfl  k) ?_
        show own_Goes p e below s _ _ (T112.setTop (mkF m 142 #[rv a1, own_jv q2, .second, iv d, iv t] [(.int t), (.ref al)]))
        refine own_st (fun _ k => XS.iloadN X112.here hx rfl (hb hby own_d5_142) rfl  k) ?_
        show own_Goes p e below s _ _ (T112.setTop (mkF m 143 #[rv a1, own_jv q2, .second, iv d, iv t] [(.int d), (.int t), (.ref al)]))
        refine own_st (fun _ k => XS.iconst X112.here hx rfl (hb hby own_d5_143) k) ?_
        show own_Goes p e below s _ _ (T112.setTop (mkF m 144 #[rv a1, own_jv q2, .second, iv d, iv t] [(.int (1 : Int32)), (.int d), (.int t), (.ref al)]))
        refine own_st (fun _ k => XS.iadd X112.here hx rfl (hb hby own_d5_144) rfl k) ?_
        show own_Goes p e below s _ _ (T112.setTop (mkF m 145 #[rv a1, own_jv q2, .second, iv d, iv t] [(.int (d + (1 : Int32))), (.int t), (.ref al)]))
        refine own_st (fun _ k => XS.i2s X112.here hx rfl (hb hby own_d5_145) rfl k) ?_
        show own_Goes p e below s _ _ (T112.setTop (mkF m 146 #[rv a1, own_jv q2, .second, iv d, iv t] [(.int ((d + (1 : Int32)).toInt16.toInt32)), (.int t), (.ref al)]))
        have f113 := ((Al.other W106 (own_ne (by omega))).other W110 (own_ne (by omega)))
        obtain ⟨T114, h114, X114, e114, W114, A114, st114⟩ := own_stS X112 hx hZ e112 f113 (j := t) ht (g := (mkF m 146 #[rv a1, own_jv q2, .second, iv d, iv t] [(.int ((d + (1 : Int32)).toInt16.toInt32)), (.int t), (.ref al)])) rfl rfl (hb hby own_d5_146)
        have V114 : own_Arf Z h114 al .short 512 (fun k => .int ((fun k => if k = (t).toNatClampNeg then (nar .short ((d + (1 : Int32)).toInt16.toInt32)) else Kf k) k)) := A114
        have z114 := W114.size
        have N114 := Fr.snoc X114 N110 (by omega)
        refine own_st st114 ?_
        show own_Goes p e below s _ _ (T114.setTop (mkF m 147 #[rv a1, own_jv q2, .second, iv d, iv t] []))
        refine own_st (fun _ k => XS.iloadN X114.here hx rfl (hb hby own_d5_147) rfl  k) ?_
        show own_Goes p e below s _ _ (T114.setTop (mkF m 148 #[rv a1, own_jv q2, .second, iv d, iv t] [(.int d)]))
        have f115 := (((E1.wr W106).wr W110).wr W114)
        have f116 := ((F106.other W110 (Or.inl (own_ne (by omega)))).other W114 (Or.inl (own_ne (by omega))))
        have f117 := ((f107.other W110 (Or.inl (own_ne (by omega)))).other W114 (Or.inl (own_ne (by omega))))
        have f118 := (f111.other W114 (Or.inl (own_ne (by omega))))
        have f119 := (V110.other W114 (own_ne (by omega)))
        have f120 := (((F_c.other W106 (Or.inr (slot_ne (Or.inl (hw _ (List.mem_of_getElem? (i := 16) rfl))) (Or.inl (hw _ (List.mem_of_getElem? (i := 22) rfl))) (by decide) (t := (.array .byte)) (t' := .int) (by decide) (by decide)))).other W110 (Or.inl (own_ne (by omega)))).other W114 (Or.inl (own_ne (by omega))))
        have f121 := (((S1.wr W106).wr W110).wr W114)
        exact own_retI X114 hx hlk hret (hb hby own_d5_148) (by decide) (by decide) ⟨_, _, _, _, _, rfl, N114, by rw [e114]; exact ((((Keep.refl h0 [a1, av, al]).wr W106 (Or.inl (by simp))).wr W110 (Or.inl (by simp))).wr W114 (Or.inl (by simp))), by rw [e114]; exact f115, by rw [e114]; exact f116, by rw [e114]; exact f117, by rw [e114]; exact f118, by rw [e114]; exact f119, by rw [e114]; exact V114, by rw [e114]; exact f120, own_CPset (by omega), by simp, own_LKset hK (by omega) _, by rw [e114]; exact f121⟩
      · have c104i : 256 ≤ d.toInt := own_i_nlt c104
        exfalso; omega
    · have c102i : 0 ≤ (kt - (1 : Int32)).toInt := own_i_nlt c102
      refine own_st (fun _ k => XS.ifYes X101.here hx rfl (pc0 := 104) (pc' := 147) rfl (hb hby own_d5_104) rfl ((if0 _ _).trans (flt c102).2.1) (by decide) (by decide) k) ?_
      show own_Goes p e below s _ _ (T101.setTop (mkF m 147 #[rv a1, own_jv q2, .second, iv (kt - (1 : Int32)), iv t] []))
      refine own_st (fun _ k => XS.iloadN X101.here hx rfl (hb hby own_d5_147) rfl  k) ?_
      show own_Goes p e below s _ _ (T101.setTop (mkF m 148 #[rv a1, own_jv q2, .second, iv (kt - (1 : Int32)), iv t] [(.int (kt - (1 : Int32)))]))
      exact own_retI X101 hx hlk hret (hb hby own_d5_148) (by decide) (by decide) ⟨_, _, _, _, _, rfl, N0, by rw [e101]; exact (Keep.refl h0 [a1, av, al]), by rw [e101]; exact E1, by rw [e101]; exact F_d, by rw [e101]; exact F_v, by rw [e101]; exact F_l, by rw [e101]; exact Av, by rw [e101]; exact Al, by rw [e101]; exact F_c, own_CPold (by omega) (by omega) (hor.resolve_left (by omega)).2, by omega, hK, by rw [e101]; exact S1⟩
  have lp : ∀ (j : Nat) (TL : State) (t : Int32), Stand p l e ({ frames := 0, cells := 0, slots := 0, locals := 0 } : Room) s m #[(.ref a1), (.long q2)] below meth c TL [] 0 0 → TL.heap = h0 → (0 ≤ t.toInt ∧ t.toInt < 512) → (Kf ((t.toNatClampNeg + j) % 512)).toInt = 0 → own_Goes p e below s ({ frames := 0, cells := 0, slots := 0, locals := 0 } : Room) (fun v h L => own_Q_rmCode Z a1 q2 ac av al d Vf Kf occ h0 n0 v h L) (TL.setTop (mkF m 51 #[rv a1, own_jv q2, .second, iv (-1 : Int32), iv t] [])) := by
    intro j
    induction j with
    | zero =>
      intro TL t XL eL ht hz
      have hn := own_nat ht.1
      have hk := hK.2 t.toNatClampNeg (own_idx (n := 512) ht)
      have hk1 := own_dec (Kf t.toNatClampNeg) (by omega)
      have hi : (¬ (Kf t.toNatClampNeg).toInt = 0) → 0 ≤ (Kf t.toNatClampNeg - (1 : Int32)).toInt ∧ (Kf t.toNatClampNeg - (1 : Int32)).toInt < (256 : Nat) := fun q => by omega
      have hz0 : (Kf t.toNatClampNeg).toInt = 0 := by have e : (t.toNatClampNeg + 0) % 512 = t.toNatClampNeg := (by omega); rw [e] at hz; exact hz
      refine own_st (fun _ k => XS.aloadN XL.here hx rfl (hb hby own_d5_51) rfl rfl  k) ?_
      show own_Goes p e below s _ _ (TL.setTop (mkF m 52 #[rv a1, own_jv q2, .second, iv (-1 : Int32), iv t] [(.ref a1)]))
      obtain ⟨T122, X122, e122, st122⟩ := getF XL hx hZ hown (host := "") (Or.inl (hw _ (List.mem_of_getElem? (i := 19) rfl))) Via.refl eL F_l (g := (mkF m 52 #[rv a1, own_jv q2, .second, iv (-1 : Int32), iv t] [(.ref a1)])) rfl rfl (hb hby own_d5_52)
      refine own_st st122 ?_
      show own_Goes p e below s _ _ (T122.setTop (mkF m 55 #[rv a1, own_jv q2, .second, iv (-1 : Int32), iv t] [(.ref al)]))
      refine own_st (fun _ k => XS.iload X122.here hx rfl (hb hby own_d5_55) rfl  k) ?_
      show own_Goes p e below s _ _ (T122.setTop (mkF m 57 #[rv a1, own_jv q2, .second, iv (-1 : Int32), iv t] [(.int t), (.ref al)]))
      refine own_st (fun _ k => own_ldS X122 hx hZ e122 Al (j := t) ht (g := (mkF m 57 #[rv a1, own_jv q2, .second, iv (-1 : Int32), iv t] [(.int t), (.ref al)])) rfl rfl (hb hby own_d5_57) _ k) ?_
      show own_Goes p e below s _ _ (T122.setTop (mkF m 58 #[rv a1, own_jv q2, .second, iv (-1 : Int32), iv t] [(.int (Kf (t).toNatClampNeg))]))
      by_cases c123 : (Kf (t).toNatClampNeg) = (0 : Int32)
      · have c123i : (Kf (t).toNatClampNeg).toInt = 0 := own_i_eq c123
        refine own_st (fun _ k => XS.ifYes X122.here hx rfl (pc0 := 58) (pc' := 93) rfl (hb hby own_d5_58) rfl ((if0 _ _).trans (teq c123).1) (by decide) (by decide) k) ?_
        show own_Goes p e below s _ _ (T122.setTop (mkF m 93 #[rv a1, own_jv q2, .second, iv (-1 : Int32), iv t] []))
        exact J93 _ t X122 e122 ht (Or.inl c123i)
      · have c123i : ¬ (Kf (t).toNatClampNeg).toInt = 0 := own_i_ne c123
        exfalso; omega
    | succ j ih =>
      intro TL t XL eL ht hz
      have hn := own_nat ht.1
      have hk := hK.2 t.toNatClampNeg (own_idx (n := 512) ht)
      have hk1 := own_dec (Kf t.toNatClampNeg) (by omega)
      have hi : (¬ (Kf t.toNatClampNeg).toInt = 0) → 0 ≤ (Kf t.toNatClampNeg - (1 : Int32)).toInt ∧ (Kf t.toNatClampNeg - (1 : Int32)).toInt < (256 : Nat) := fun q => by omega
      refine own_st (fun _ k => XS.aloadN XL.here hx rfl (hb hby own_d5_51) rfl rfl  k) ?_
      show own_Goes p e below s _ _ (TL.setTop (mkF m 52 #[rv a1, own_jv q2, .second, iv (-1 : Int32), iv t] [(.ref a1)]))
      obtain ⟨T124, X124, e124, st124⟩ := getF XL hx hZ hown (host := "") (Or.inl (hw _ (List.mem_of_getElem? (i := 19) rfl))) Via.refl eL F_l (g := (mkF m 52 #[rv a1, own_jv q2, .second, iv (-1 : Int32), iv t] [(.ref a1)])) rfl rfl (hb hby own_d5_52)
      refine own_st st124 ?_
      show own_Goes p e below s _ _ (T124.setTop (mkF m 55 #[rv a1, own_jv q2, .second, iv (-1 : Int32), iv t] [(.ref al)]))
      refine own_st (fun _ k => XS.iload X124.here hx rfl (hb hby own_d5_55) rfl  k) ?_
      show own_Goes p e below s _ _ (T124.setTop (mkF m 57 #[rv a1, own_jv q2, .second, iv (-1 : Int32), iv t] [(.int t), (.ref al)]))
      refine own_st (fun _ k => own_ldS X124 hx hZ e124 Al (j := t) ht (g := (mkF m 57 #[rv a1, own_jv q2, .second, iv (-1 : Int32), iv t] [(.int t), (.ref al)])) rfl rfl (hb hby own_d5_57) _ k) ?_
      show own_Goes p e below s _ _ (T124.setTop (mkF m 58 #[rv a1, own_jv q2, .second, iv (-1 : Int32), iv t] [(.int (Kf (t).toNatClampNeg))]))
      by_cases c125 : (Kf (t).toNatClampNeg) = (0 : Int32)
      · have c125i : (Kf (t).toNatClampNeg).toInt = 0 := own_i_eq c125
        refine own_st (fun _ k => XS.ifYes X124.here hx rfl (pc0 := 58) (pc' := 93) rfl (hb hby own_d5_58) rfl ((if0 _ _).trans (teq c125).1) (by decide) (by decide) k) ?_
        show own_Goes p e below s _ _ (T124.setTop (mkF m 93 #[rv a1, own_jv q2, .second, iv (-1 : Int32), iv t] []))
        exact J93 _ t X124 e124 ht (Or.inl c125i)
      · have c125i : ¬ (Kf (t).toNatClampNeg).toInt = 0 := own_i_ne c125
        refine own_st (fun _ k => XS.ifNo X124.here hx rfl (hb hby own_d5_58) rfl ((if0 _ _).trans (feq c125).1) k) ?_
        show own_Goes p e below s _ _ (T124.setTop (mkF m 61 #[rv a1, own_jv q2, .second, iv (-1 : Int32), iv t] []))
        refine own_st (fun _ k => XS.aloadN X124.here hx rfl (hb hby own_d5_61) rfl rfl  k) ?_
        show own_Goes p e below s _ _ (T124.setTop (mkF m 62 #[rv a1, own_jv q2, .second, iv (-1 : Int32), iv t] [(.ref a1)]))
        obtain ⟨T126, X126, e126, st126⟩ := getF X124 hx hZ hown (host := "") (Or.inl (hw _ (List.mem_of_getElem? (i := 17) rfl))) Via.refl e124 F_v (g := (mkF m 62 #[rv a1, own_jv q2, .second, iv (-1 : Int32), iv t] [(.ref a1)])) rfl rfl (hb hby own_d5_62)
        refine own_st st126 ?_
        show own_Goes p e below s _ _ (T126.setTop (mkF m 65 #[rv a1, own_jv q2, .second, iv (-1 : Int32), iv t] [(.ref av)]))
        refine own_st (fun _ k => XS.aloadN X126.here hx rfl (hb hby own_d5_65) rfl rfl  k) ?_
        show own_Goes p e below s _ _ (T126.setTop (mkF m 66 #[rv a1, own_jv q2, .second, iv (-1 : Int32), iv t] [(.ref a1), (.ref av)]))
        obtain ⟨T127, X127, e127, st127⟩ := getF X126 hx hZ hown (host := "") (Or.inl (hw _ (List.mem_of_getElem? (i := 19) rfl))) Via.refl e126 F_l (g := (mkF m 66 #[rv a1, own_jv q2, .second, iv (-1 : Int32), iv t] [(.ref a1), (.ref av)])) rfl rfl (hb hby own_d5_66)
        refine own_st st127 ?_
        show own_Goes p e below s _ _ (T127.setTop (mkF m 69 #[rv a1, own_jv q2, .second, iv (-1 : Int32), iv t] [(.ref al), (.ref av)]))
        refine own_st (fun _ k => XS.iload X127.here hx rfl (hb hby own_d5_69) rfl  k) ?_
        show own_Goes p e below s _ _ (T127.setTop (mkF m 71 #[rv a1, own_jv q2, .second, iv (-1 : Int32), iv t] [(.int t), (.ref al), (.ref av)]))
        refine own_st (fun _ k => own_ldS X127 hx hZ e127 Al (j := t) ht (g := (mkF m 71 #[rv a1, own_jv q2, .second, iv (-1 : Int32), iv t] [(.int t), (.ref al), (.ref av)])) rfl rfl (hb hby own_d5_71) _ k) ?_
        show own_Goes p e below s _ _ (T127.setTop (mkF m 72 #[rv a1, own_jv q2, .second, iv (-1 : Int32), iv t] [(.int (Kf (t).toNatClampNeg)), (.ref av)]))
        refine own_st (fun _ k => XS.iconst X127.here hx rfl (hb hby own_d5_72) k) ?_
        show own_Goes p e below s _ _ (T127.setTop (mkF m 73 #[rv a1, own_jv q2, .second, iv (-1 : Int32), iv t] [(.int (1 : Int32)), (.int (Kf (t).toNatClampNeg)), (.ref av)]))
        refine own_st (fun _ k => XS.isub X127.here hx rfl (hb hby own_d5_73) rfl k) ?_
        show own_Goes p e below s _ _ (T127.setTop (mkF m 74 #[rv a1, own_jv q2, .second, iv (-1 : Int32), iv t] [(.int ((Kf (t).toNatClampNeg) - (1 : Int32))), (.ref av)]))
        refine own_st (fun _ k => own_ldJ X127 hx hZ e127 Av (j := ((Kf (t).toNatClampNeg) - (1 : Int32))) (hi (by omega)) (g := (mkF m 74 #[rv a1, own_jv q2, .second, iv (-1 : Int32), iv t] [(.int ((Kf (t).toNatClampNeg) - (1 : Int32))), (.ref av)])) rfl rfl (hb hby own_d5_74) _ k) ?_
        show own_Goes p e below s _ _ (T127.setTop (mkF m 75 #[rv a1, own_jv q2, .second, iv (-1 : Int32), iv t] [(.long (Vf (((Kf (t).toNatClampNeg) - (1 : Int32))).toNatClampNeg))]))
        refine own_st (fun _ k => XS.lloadN X127.here hx rfl (hb hby own_d5_75) rfl  k) ?_
        show own_Goes p e below s _ _ (T127.setTop (mkF m 76 #[rv a1, own_jv q2, .second, iv (-1 : Int32), iv t] [(.long q2), (.long (Vf (((Kf (t).toNatClampNeg) - (1 : Int32))).toNatClampNeg))]))
        refine own_st (fun _ k => XS.lcmp X127.here hx rfl (hb hby own_d5_76) rfl k) ?_
        show own_Goes p e below s _ _ (T127.setTop (mkF m 77 #[rv a1, own_jv q2, .second, iv (-1 : Int32), iv t] [(.int (lcmpW (Vf (((Kf (t).toNatClampNeg) - (1 : Int32))).toNatClampNeg) q2))]))
        by_cases c128 : (Vf (((Kf (t).toNatClampNeg) - (1 : Int32))).toNatClampNeg) = q2
        · have c128i : (Vf (((Kf (t).toNatClampNeg) - (1 : Int32))).toNatClampNeg).toInt = q2.toInt := own_j_eq c128
          refine own_st (fun _ k => XS.ifYes X127.here hx rfl (pc0 := 77) (pc' := 93) rfl (hb hby own_d5_77) rfl ((if0 _ _).trans (teq ((lw_eq _ _).mpr c128)).1) (by decide) (by decide) k) ?_
          show own_Goes p e below s _ _ (T127.setTop (mkF m 93 #[rv a1, own_jv q2, .second, iv (-1 : Int32), iv t] []))
          exact J93 _ t X127 e127 ht (Or.inr ⟨by omega, c128⟩)
        · have c128i : ¬ (Vf (((Kf (t).toNatClampNeg) - (1 : Int32))).toNatClampNeg).toInt = q2.toInt := own_j_ne c128
          refine own_st (fun _ k => XS.ifNo X127.here hx rfl (hb hby own_d5_77) rfl ((if0 _ _).trans (feq (fun q => c128 ((lw_eq _ _).mp q))).1) k) ?_
          show own_Goes p e below s _ _ (T127.setTop (mkF m 80 #[rv a1, own_jv q2, .second, iv (-1 : Int32), iv t] []))
          refine own_st (fun _ k => XS.iload X127.here hx rfl (hb hby own_d5_80) rfl  k) ?_
          show own_Goes p e below s _ _ (T127.setTop (mkF m 82 #[rv a1, own_jv q2, .second, iv (-1 : Int32), iv t] [(.int t)]))
          refine own_st (fun _ k => XS.iconst X127.here hx rfl (hb hby own_d5_82) k) ?_
          show own_Goes p e below s _ _ (T127.setTop (mkF m 83 #[rv a1, own_jv q2, .second, iv (-1 : Int32), iv t] [(.int (1 : Int32)), (.int t)]))
          refine own_st (fun _ k => XS.iadd X127.here hx rfl (hb hby own_d5_83) rfl k) ?_
          show own_Goes p e below s _ _ (T127.setTop (mkF m 84 #[rv a1, own_jv q2, .second, iv (-1 : Int32), iv t] [(.int (t + (1 : Int32)))]))
          refine own_st (fun _ k => XS.sipush X127.here hx rfl (hb hby own_d5_84) k) ?_
          show own_Goes p e below s _ _ (T127.setTop (mkF m 87 #[rv a1, own_jv q2, .second, iv (-1 : Int32), iv t] [(.int (511 : Int32)), (.int (t + (1 : Int32)))]))
          refine own_st (fun _ k => XS.iand X127.here hx rfl (hb hby own_d5_87) rfl k) ?_
          show own_Goes p e below s _ _ (T127.setTop (mkF m 88 #[rv a1, own_jv q2, .second, iv (-1 : Int32), iv t] [(.int ((t + (1 : Int32)) &&& (511 : Int32)))]))
          refine own_st (fun _ k => XS.istore X127.here hx rfl (hb hby own_d5_88) rfl (l' := #[rv a1, own_jv q2, .second, iv (-1 : Int32), iv ((t + (1 : Int32)) &&& (511 : Int32))]) rfl k) ?_
          show own_Goes p e below s _ _ (T127.setTop (mkF m 90 #[rv a1, own_jv q2, .second, iv (-1 : Int32), iv ((t + (1 : Int32)) &&& (511 : Int32))] []))
          refine own_st (fun _ k => XS.goto X127.here hx rfl (pc0 := 90) (pc' := 51) rfl (hb hby own_d5_90) (by decide) (by decide) k) ?_
          show own_Goes p e below s _ _ (T127.setTop (mkF m 51 #[rv a1, own_jv q2, .second, iv (-1 : Int32), iv ((t + (1 : Int32)) &&& (511 : Int32))] []))
          have hn2 := own_next ht
          have hn3 := own_nat (show 0 ≤ ((t + (1 : Int32)) &&& (511 : Int32)).toInt by omega)
          exact ih _ ((t + (1 : Int32)) &&& (511 : Int32)) X127 e127 (by omega) (by rw [show ((((t + (1 : Int32)) &&& (511 : Int32)).toNatClampNeg + j) % 512) = (t.toNatClampNeg + (j + 1)) % 512 by omega]; exact hz)
  have J39 : ∀ (TJ39 : State) , Stand p l e ({ frames := 0, cells := 0, slots := 0, locals := 0 } : Room) s m #[(.ref a1), (.long q2)] below meth c TJ39 [] 0 0 → TJ39.heap = h0 → own_Goes p e below s ({ frames := 0, cells := 0, slots := 0, locals := 0 } : Room) (fun v h L => own_Q_rmCode Z a1 q2 ac av al d Vf Kf occ h0 n0 v h L) (TJ39.setTop (mkF m 39 #[rv a1, own_jv q2, .second, iv (-1 : Int32), .unset] [])) := by
    intro TJ39  XJ39 eJ39 
    refine own_st (fun _ k => XS.lloadN XJ39.here hx rfl (hb hby own_d5_39) rfl  k) ?_
    show own_Goes p e below s _ _ (TJ39.setTop (mkF m 40 #[rv a1, own_jv q2, .second, iv (-1 : Int32), .unset] [(.long q2)]))
    refine own_st (fun _ k => XJ39.ldc2Long hx hown (mvT hZ (hw _ (List.mem_of_getElem? (i := 36) rfl))) (g := (mkF m 40 #[rv a1, own_jv q2, .second, iv (-1 : Int32), .unset] [(.long q2)])) rfl (hb hby own_d5_40) _ k) ?_
    show own_Goes p e below s _ _ (TJ39.setTop (mkF m 43 #[rv a1, own_jv q2, .second, iv (-1 : Int32), .unset] [(.long (-7046029254386353131 : Int64)), (.long q2)]))
    refine own_st (fun _ k => XS.lmul XJ39.here hx rfl (hb hby own_d5_43) rfl k) ?_
    show own_Goes p e below s _ _ (TJ39.setTop (mkF m 44 #[rv a1, own_jv q2, .second, iv (-1 : Int32), .unset] [(.long (q2 * (-7046029254386353131 : Int64)))]))
    obtain ⟨T129, X129, e129, st129⟩ := getS2 XJ39 hx hZ hown (host := "") (Or.inl (hw _ (List.mem_of_getElem? (i := 37) rfl))) Via.refl eJ39 S1 (g := (mkF m 44 #[rv a1, own_jv q2, .second, iv (-1 : Int32), .unset] [(.long (q2 * (-7046029254386353131 : Int64)))])) rfl (hb hby own_d5_44)
    refine own_st st129 ?_
    show own_Goes p e below s _ _ (T129.setTop (mkF m 47 #[rv a1, own_jv q2, .second, iv (-1 : Int32), .unset] [(.int (55 : Int32)), (.long (q2 * (-7046029254386353131 : Int64)))]))
    refine own_st (fun _ k => XS.lushr X129.here hx rfl (hb hby own_d5_47) rfl k) ?_
    show own_Goes p e below s _ _ (T129.setTop (mkF m 48 #[rv a1, own_jv q2, .second, iv (-1 : Int32), .unset] [(.long (((q2 * (-7046029254386353131 : Int64)).toUInt64 >>> ((55 : Int32) &&& 0x3f).toInt64.toUInt64).toInt64))]))
    refine own_st (fun _ k => XS.l2i X129.here hx rfl (hb hby own_d5_48) rfl k) ?_
    show own_Goes p e below s _ _ (T129.setTop (mkF m 49 #[rv a1, own_jv q2, .second, iv (-1 : Int32), .unset] [(.int ((((q2 * (-7046029254386353131 : Int64)).toUInt64 >>> ((55 : Int32) &&& 0x3f).toInt64.toUInt64).toInt64).toInt32))]))
    refine own_st (fun _ k => XS.istore X129.here hx rfl (hb hby own_d5_49) rfl (l' := #[rv a1, own_jv q2, .second, iv (-1 : Int32), iv ((((q2 * (-7046029254386353131 : Int64)).toUInt64 >>> ((55 : Int32) &&& 0x3f).toInt64.toUInt64).toInt64).toInt32)]) rfl k) ?_
    show own_Goes p e below s _ _ (T129.setTop (mkF m 51 #[rv a1, own_jv q2, .second, iv (-1 : Int32), iv ((((q2 * (-7046029254386353131 : Int64)).toUInt64 >>> ((55 : Int32) &&& 0x3f).toInt64.toUInt64).toInt64).toInt32)] []))
    have ht := own_slot (q2 * (-7046029254386353131 : Int64))
    generalize ((((q2 * (-7046029254386353131 : Int64)).toUInt64 >>> ((55 : Int32) &&& 0x3f).toInt64.toUInt64).toInt64).toInt32) = t at ht ⊢
    show own_Goes p e below s _ _ (T129.setTop (mkF m 51 #[rv a1, own_jv q2, .second, iv (-1 : Int32), iv t] []))
    obtain ⟨j, hj⟩ := own_probe occ ho t.toNatClampNeg
    exact lp j _ t X129 e129 ht (hK.1 _ (Nat.mod_lt _ (by decide)) hj)
  refine own_st (fun _ k => XS.lloadN X.here hx rfl (hb hby own_d5_0) rfl  k) ?_
  show own_Goes p e below s _ _ (T.setTop (mkF m 1 #[rv a1, own_jv q2, .second, .unset, .unset] [(.long q2)]))
  refine own_st (fun _ k => XS.lconst X.here hx rfl (hb hby own_d5_1) k) ?_
  show own_Goes p e below s _ _ (T.setTop (mkF m 2 #[rv a1, own_jv q2, .second, .unset, .unset] [(.long (0 : Int64)), (.long q2)]))
  refine own_st (fun _ k => XS.lcmp X.here hx rfl (hb hby own_d5_2) rfl k) ?_
  show own_Goes p e below s _ _ (T.setTop (mkF m 3 #[rv a1, own_jv q2, .second, .unset, .unset] [(.int (lcmpW q2 (0 : Int64)))]))
  by_cases c130 : q2 < (0 : Int64)
  · have c130i : q2.toInt < 0 := own_j_lt c130
    refine own_st (fun _ k => XS.ifYes X.here hx rfl (pc0 := 3) (pc' := 33) rfl (hb hby own_d5_3) rfl ((if0 _ _).trans (tlt ((lw_lt _ _).mpr c130)).1) (by decide) (by decide) k) ?_
    show own_Goes p e below s _ _ (T.setTop (mkF m 33 #[rv a1, own_jv q2, .second, .unset, .unset] []))
    refine own_st (fun _ k => XS.iconst X.here hx rfl (hb hby own_d5_33) k) ?_
    show own_Goes p e below s _ _ (T.setTop (mkF m 34 #[rv a1, own_jv q2, .second, .unset, .unset] [(.int (-1 : Int32))]))
    refine own_st (fun _ k => XS.istoreN X.here hx rfl (hb hby own_d5_34) rfl (l' := #[rv a1, own_jv q2, .second, iv (-1 : Int32), .unset]) rfl k) ?_
    show own_Goes p e below s _ _ (T.setTop (mkF m 35 #[rv a1, own_jv q2, .second, iv (-1 : Int32), .unset] []))
    refine own_st (fun _ k => XS.iloadN X.here hx rfl (hb hby own_d5_35) rfl  k) ?_
    show own_Goes p e below s _ _ (T.setTop (mkF m 36 #[rv a1, own_jv q2, .second, iv (-1 : Int32), .unset] [(.int (-1 : Int32))]))
    refine own_st (fun _ k => XS.ifNo X.here hx rfl (hb hby own_d5_36) rfl ((if0 _ _).trans (tlt (by decide : (-1 : Int32) < (0 : Int32))).2.1) k) ?_
    show own_Goes p e below s _ _ (T.setTop (mkF m 39 #[rv a1, own_jv q2, .second, iv (-1 : Int32), .unset] []))
    exact J39 _ X e0
  · have c130i : 0 ≤ q2.toInt := own_j_nlt c130
    refine own_st (fun _ k => XS.ifNo X.here hx rfl (hb hby own_d5_3) rfl ((if0 _ _).trans (flt (fun q => c130 ((lw_lt _ _).mp q))).1) k) ?_
    show own_Goes p e below s _ _ (T.setTop (mkF m 6 #[rv a1, own_jv q2, .second, .unset, .unset] []))
    refine own_st (fun _ k => XS.lloadN X.here hx rfl (hb hby own_d5_6) rfl  k) ?_
    show own_Goes p e below s _ _ (T.setTop (mkF m 7 #[rv a1, own_jv q2, .second, .unset, .unset] [(.long q2)]))
    refine own_st (fun _ k => XS.aloadN X.here hx rfl (hb hby own_d5_7) rfl rfl  k) ?_
    show own_Goes p e below s _ _ (T.setTop (mkF m 8 #[rv a1, own_jv q2, .second, .unset, .unset] [(.ref a1), (.long q2)]))
    obtain ⟨T131, X131, e131, st131⟩ := getF X hx hZ hown (host := "") (Or.inl (hw _ (List.mem_of_getElem? (i := 21) rfl))) Via.refl e0 F_d (g := (mkF m 8 #[rv a1, own_jv q2, .second, .unset, .unset] [(.ref a1), (.long q2)])) rfl rfl (hb hby own_d5_8)
    refine own_st st131 ?_
    show own_Goes p e below s _ _ (T131.setTop (mkF m 11 #[rv a1, own_jv q2, .second, .unset, .unset] [(.int d), (.long q2)]))
    refine own_st (fun _ k => XS.i2l X131.here hx rfl (hb hby own_d5_11) rfl k) ?_
    show own_Goes p e below s _ _ (T131.setTop (mkF m 12 #[rv a1, own_jv q2, .second, .unset, .unset] [(.long (d.toInt64)), (.long q2)]))
    refine own_st (fun _ k => XS.lcmp X131.here hx rfl (hb hby own_d5_12) rfl k) ?_
    show own_Goes p e below s _ _ (T131.setTop (mkF m 13 #[rv a1, own_jv q2, .second, .unset, .unset] [(.int (lcmpW q2 (d.toInt64)))]))
    have hdj := c_i2l d
    by_cases c132 : q2 < (d.toInt64)
    · have c132i : q2.toInt < (d.toInt64).toInt := own_j_lt c132
      refine own_st (fun _ k => XS.ifNo X131.here hx rfl (hb hby own_d5_13) rfl ((if0 _ _).trans (tlt ((lw_lt _ _).mpr c132)).2.1) k) ?_
      show own_Goes p e below s _ _ (T131.setTop (mkF m 16 #[rv a1, own_jv q2, .second, .unset, .unset] []))
      refine own_st (fun _ k => XS.aloadN X131.here hx rfl (hb hby own_d5_16) rfl rfl  k) ?_
      show own_Goes p e below s _ _ (T131.setTop (mkF m 17 #[rv a1, own_jv q2, .second, .unset, .unset] [(.ref a1)]))
      obtain ⟨T133, X133, e133, st133⟩ := getF X131 hx hZ hown (host := "") (Or.inl (hw _ (List.mem_of_getElem? (i := 17) rfl))) Via.refl e131 F_v (g := (mkF m 17 #[rv a1, own_jv q2, .second, .unset, .unset] [(.ref a1)])) rfl rfl (hb hby own_d5_17)
      refine own_st st133 ?_
      show own_Goes p e below s _ _ (T133.setTop (mkF m 20 #[rv a1, own_jv q2, .second, .unset, .unset] [(.ref av)]))
      refine own_st (fun _ k => XS.lloadN X133.here hx rfl (hb hby own_d5_20) rfl  k) ?_
      show own_Goes p e below s _ _ (T133.setTop (mkF m 21 #[rv a1, own_jv q2, .second, .unset, .unset] [(.long q2), (.ref av)]))
      refine own_st (fun _ k => XS.l2i X133.here hx rfl (hb hby own_d5_21) rfl k) ?_
      show own_Goes p e below s _ _ (T133.setTop (mkF m 22 #[rv a1, own_jv q2, .second, .unset, .unset] [(.int (q2.toInt32)), (.ref av)]))
      refine own_st (fun _ k => own_ldJ X133 hx hZ e133 Av (j := (q2.toInt32)) (by have := own_l2i (q := q2) (d := d) (by omega) (by omega); omega) (g := (mkF m 22 #[rv a1, own_jv q2, .second, .unset, .unset] [(.int (q2.toInt32)), (.ref av)])) rfl rfl (hb hby own_d5_22) _ k) ?_
      show own_Goes p e below s _ _ (T133.setTop (mkF m 23 #[rv a1, own_jv q2, .second, .unset, .unset] [(.long (Vf ((q2.toInt32)).toNatClampNeg))]))
      refine own_st (fun _ k => XS.lloadN X133.here hx rfl (hb hby own_d5_23) rfl  k) ?_
      show own_Goes p e below s _ _ (T133.setTop (mkF m 24 #[rv a1, own_jv q2, .second, .unset, .unset] [(.long q2), (.long (Vf ((q2.toInt32)).toNatClampNeg))]))
      refine own_st (fun _ k => XS.lcmp X133.here hx rfl (hb hby own_d5_24) rfl k) ?_
      show own_Goes p e below s _ _ (T133.setTop (mkF m 25 #[rv a1, own_jv q2, .second, .unset, .unset] [(.int (lcmpW (Vf ((q2.toInt32)).toNatClampNeg) q2))]))
      by_cases c134 : (Vf ((q2.toInt32)).toNatClampNeg) = q2
      · have c134i : (Vf ((q2.toInt32)).toNatClampNeg).toInt = q2.toInt := own_j_eq c134
        refine own_st (fun _ k => XS.ifNo X133.here hx rfl (hb hby own_d5_25) rfl ((if0 _ _).trans (teq ((lw_eq _ _).mpr c134)).2) k) ?_
        show own_Goes p e below s _ _ (T133.setTop (mkF m 28 #[rv a1, own_jv q2, .second, .unset, .unset] []))
        refine own_st (fun _ k => XS.lloadN X133.here hx rfl (hb hby own_d5_28) rfl  k) ?_
        show own_Goes p e below s _ _ (T133.setTop (mkF m 29 #[rv a1, own_jv q2, .second, .unset, .unset] [(.long q2)]))
        refine own_st (fun _ k => XS.l2i X133.here hx rfl (hb hby own_d5_29) rfl k) ?_
        show own_Goes p e below s _ _ (T133.setTop (mkF m 30 #[rv a1, own_jv q2, .second, .unset, .unset] [(.int (q2.toInt32))]))
        refine own_st (fun _ k => XS.goto X133.here hx rfl (pc0 := 30) (pc' := 34) rfl (hb hby own_d5_30) (by decide) (by decide) k) ?_
        show own_Goes p e below s _ _ (T133.setTop (mkF m 34 #[rv a1, own_jv q2, .second, .unset, .unset] [(.int (q2.toInt32))]))
        refine own_st (fun _ k => XS.istoreN X133.here hx rfl (hb hby own_d5_34) rfl (l' := #[rv a1, own_jv q2, .second, iv (q2.toInt32), .unset]) rfl k) ?_
        show own_Goes p e below s _ _ (T133.setTop (mkF m 35 #[rv a1, own_jv q2, .second, iv (q2.toInt32), .unset] []))
        have hl := own_l2i (q := q2) (d := d) (by omega) (by omega)
        refine own_st (fun _ k => XS.iloadN X133.here hx rfl (hb hby own_d5_35) rfl  k) ?_
        show own_Goes p e below s _ _ (T133.setTop (mkF m 36 #[rv a1, own_jv q2, .second, iv (q2.toInt32), .unset] [(.int (q2.toInt32))]))
        by_cases c135 : (q2.toInt32) < (0 : Int32)
        · have c135i : (q2.toInt32).toInt < 0 := own_i_lt c135
          exfalso; omega
        · have c135i : 0 ≤ (q2.toInt32).toInt := own_i_nlt c135
          refine own_st (fun _ k => XS.ifYes X133.here hx rfl (pc0 := 36) (pc' := 147) rfl (hb hby own_d5_36) rfl ((if0 _ _).trans (flt c135).2.1) (by decide) (by decide) k) ?_
          show own_Goes p e below s _ _ (T133.setTop (mkF m 147 #[rv a1, own_jv q2, .second, iv (q2.toInt32), .unset] []))
          refine own_st (fun _ k => XS.iloadN X133.here hx rfl (hb hby own_d5_147) rfl  k) ?_
          show own_Goes p e below s _ _ (T133.setTop (mkF m 148 #[rv a1, own_jv q2, .second, iv (q2.toInt32), .unset] [(.int (q2.toInt32))]))
          exact own_retI X133 hx hlk hret (hb hby own_d5_148) (by decide) (by decide) ⟨_, _, _, _, _, rfl, N0, by rw [e133]; exact (Keep.refl h0 [a1, av, al]), by rw [e133]; exact E1, by rw [e133]; exact F_d, by rw [e133]; exact F_v, by rw [e133]; exact F_l, by rw [e133]; exact Av, by rw [e133]; exact Al, by rw [e133]; exact F_c, own_CPold (by omega) (by omega) c134, by omega, hK, by rw [e133]; exact S1⟩
      · have c134i : ¬ (Vf ((q2.toInt32)).toNatClampNeg).toInt = q2.toInt := own_j_ne c134
        refine own_st (fun _ k => XS.ifYes X133.here hx rfl (pc0 := 25) (pc' := 33) rfl (hb hby own_d5_25) rfl ((if0 _ _).trans (feq (fun q => c134 ((lw_eq _ _).mp q))).2) (by decide) (by decide) k) ?_
        show own_Goes p e below s _ _ (T133.setTop (mkF m 33 #[rv a1, own_jv q2, .second, .unset, .unset] []))
        refine own_st (fun _ k => XS.iconst X133.here hx rfl (hb hby own_d5_33) k) ?_
        show own_Goes p e below s _ _ (T133.setTop (mkF m 34 #[rv a1, own_jv q2, .second, .unset, .unset] [(.int (-1 : Int32))]))
        refine own_st (fun _ k => XS.istoreN X133.here hx rfl (hb hby own_d5_34) rfl (l' := #[rv a1, own_jv q2, .second, iv (-1 : Int32), .unset]) rfl k) ?_
        show own_Goes p e below s _ _ (T133.setTop (mkF m 35 #[rv a1, own_jv q2, .second, iv (-1 : Int32), .unset] []))
        refine own_st (fun _ k => XS.iloadN X133.here hx rfl (hb hby own_d5_35) rfl  k) ?_
        show own_Goes p e below s _ _ (T133.setTop (mkF m 36 #[rv a1, own_jv q2, .second, iv (-1 : Int32), .unset] [(.int (-1 : Int32))]))
        refine own_st (fun _ k => XS.ifNo X133.here hx rfl (hb hby own_d5_36) rfl ((if0 _ _).trans (tlt (by decide : (-1 : Int32) < (0 : Int32))).2.1) k) ?_
        show own_Goes p e below s _ _ (T133.setTop (mkF m 39 #[rv a1, own_jv q2, .second, iv (-1 : Int32), .unset] []))
        exact J39 _ X133 e133
    · have c132i : (d.toInt64).toInt ≤ q2.toInt := own_j_nlt c132
      refine own_st (fun _ k => XS.ifYes X131.here hx rfl (pc0 := 13) (pc' := 33) rfl (hb hby own_d5_13) rfl ((if0 _ _).trans (flt (fun q => c132 ((lw_lt _ _).mp q))).2.1) (by decide) (by decide) k) ?_
      show own_Goes p e below s _ _ (T131.setTop (mkF m 33 #[rv a1, own_jv q2, .second, .unset, .unset] []))
      refine own_st (fun _ k => XS.iconst X131.here hx rfl (hb hby own_d5_33) k) ?_
      show own_Goes p e below s _ _ (T131.setTop (mkF m 34 #[rv a1, own_jv q2, .second, .unset, .unset] [(.int (-1 : Int32))]))
      refine own_st (fun _ k => XS.istoreN X131.here hx rfl (hb hby own_d5_34) rfl (l' := #[rv a1, own_jv q2, .second, iv (-1 : Int32), .unset]) rfl k) ?_
      show own_Goes p e below s _ _ (T131.setTop (mkF m 35 #[rv a1, own_jv q2, .second, iv (-1 : Int32), .unset] []))
      refine own_st (fun _ k => XS.iloadN X131.here hx rfl (hb hby own_d5_35) rfl  k) ?_
      show own_Goes p e below s _ _ (T131.setTop (mkF m 36 #[rv a1, own_jv q2, .second, iv (-1 : Int32), .unset] [(.int (-1 : Int32))]))
      refine own_st (fun _ k => XS.ifNo X131.here hx rfl (hb hby own_d5_36) rfl ((if0 _ _).trans (tlt (by decide : (-1 : Int32) < (0 : Int32))).2.1) k) ?_
      show own_Goes p e below s _ _ (T131.setTop (mkF m 39 #[rv a1, own_jv q2, .second, iv (-1 : Int32), .unset] []))
      exact J39 _ X131 e131
theorem own_pn3 : plainFor (⟨"com/example/reach2/reach2/model/CodedColumn", "set", "(IJ)V"⟩ : MethodName) = true := by first | exact plainFor_of_name (by simp [plainName, overriddenIn]; done) | decide +kernel
theorem own_d4_0 : decode prog_47_method_6_code 0 = .ok (.aload_n 0, 1) := by decide +kernel
theorem own_d4_1 : decode prog_47_method_6_code 1 = .ok (.getfield 12, 3) := by decide +kernel
theorem own_d4_4 : decode prog_47_method_6_code 4 = .ok (.ifnonnull 7, 3) := by decide +kernel
theorem own_d4_11 : decode prog_47_method_6_code 11 = .ok (.aload_n 0, 1) := by decide +kernel
theorem own_d4_12 : decode prog_47_method_6_code 12 = .ok (.lload_n 2, 1) := by decide +kernel
theorem own_d4_13 : decode prog_47_method_6_code 13 = .ok (.invokevirtual 38, 3) := by decide +kernel
theorem own_pd1 : parseMethodDescriptor "(J)I" = some ⟨[.long], some .int⟩ := by decide +kernel
theorem own_d4_16 : decode prog_47_method_6_code 16 = .ok (.istore 4, 2) := by decide +kernel
theorem own_d4_18 : decode prog_47_method_6_code 18 = .ok (.iload 4, 2) := by decide +kernel
theorem own_d4_20 : decode prog_47_method_6_code 20 = .ok (.ifCond .ge 14, 3) := by decide +kernel
theorem own_d4_34 : decode prog_47_method_6_code 34 = .ok (.aload_n 0, 1) := by decide +kernel
theorem own_d4_35 : decode prog_47_method_6_code 35 = .ok (.getfield 12, 3) := by decide +kernel
theorem own_d4_38 : decode prog_47_method_6_code 38 = .ok (.ifnonnull 13, 3) := by decide +kernel
theorem own_d4_51 : decode prog_47_method_6_code 51 = .ok (.aload_n 0, 1) := by decide +kernel
theorem own_d4_52 : decode prog_47_method_6_code 52 = .ok (.getfield 12, 3) := by decide +kernel
theorem own_d4_55 : decode prog_47_method_6_code 55 = .ok (.iload_n 1, 1) := by decide +kernel
theorem own_d4_56 : decode prog_47_method_6_code 56 = .ok (.iload 4, 2) := by decide +kernel
theorem own_d4_58 : decode prog_47_method_6_code 58 = .ok (.i2b, 1) := by decide +kernel
theorem own_d4_59 : decode prog_47_method_6_code 59 = .ok (.bastore, 1) := by decide +kernel
theorem own_d4_60 : decode prog_47_method_6_code 60 = .ok (.return_, 1) := by decide +kernel
theorem own_ef_rmSet (m : MethodId) (a1 : Nat) (p2 : Int32) (q3 : Int64) : entryFrame m #[(.ref a1), (.int p2), (.long q3)] 5 = mkF m 0 #[rv a1, iv p2, own_jv q3, .second, .unset] [] := by first | (simp [entryFrame, mkF, argsToLocals, Value.category, maxLocals]; done) | rfl
abbrev own_Q_rmSet (Z : State) (a1 : Nat) (p2 : Int32) (q3 : Int64) (ac : Nat) (av : Nat) (al : Nat) (d : Int32) (Cf : Nat → Int32) (Vf : Nat → Int64) (Kf : Nat → Int32) (occ : List Nat) (h0 : Heap) (n0 : Nat) (v : Option Value) (h : Heap) (L : List Loc) : Prop := ∃ (r d' : Int32) (V' : Nat → Int64) (K' : Nat → Int32) (occ' : List Nat), v = none ∧ Fr n0 L ∧ Keep h0 h [a1, ac, av, al] ∧ Exa Z h a1 "com/example/reach2/reach2/model/CodedColumn" ∧ Fld Z h a1 "com/example/reach2/reach2/model/CodedColumn" "codes" "[B" (.ref ac) ∧ Fld Z h a1 "com/example/reach2/reach2/model/CodedColumn" "distinct" "I" (.int d') ∧ Fld Z h a1 "com/example/reach2/reach2/model/CodedColumn" "values" "[J" (.ref av) ∧ Fld Z h a1 "com/example/reach2/reach2/model/CodedColumn" "lookup" "[S" (.ref al) ∧ own_Arf Z h ac .byte 3 (fun k => .int ((fun k => if k = p2.toNatClampNeg then (nar .byte (r.toInt8.toInt32)) else Cf k) k)) ∧ own_Arf Z h av .long 256 (fun k => .long (V' k)) ∧ own_Arf Z h al .short 512 (fun k => .int (K' k)) ∧ own_CP r d d' Vf V' q3 ∧ occ'.length ≤ occ.length + 1 ∧ own_LK occ' d' K' ∧ Sta Z h "com/example/reach2/reach2/model/CodedColumn" "LOOKUP_SHIFT" "I" (.int (55 : Int32))
set_option maxRecDepth 65536 in
set_option maxHeartbeats 40000000 in
theorem rmSet (l : Launch) (Z : State) (a0 : Array Value) (hw : ∀ d ∈ tables_1, d.before a0 Z = true) (ws : List Jvm.Cond) (a1 : Nat) (p2 : Int32) (q3 : Int64) (ac : Nat) (av : Nat) (al : Nat) (d : Int32) (Cf : Nat → Int32) (Vf : Nat → Int64) (Kf : Nat → Int32) (occ : List Nat) (h0 : Heap) (n0 : Nat) (Z0 : n0 ≤ h0.size) (E1 : Exa Z h0 a1 "com/example/reach2/reach2/model/CodedColumn") (F_d : Fld Z h0 a1 "com/example/reach2/reach2/model/CodedColumn" "distinct" "I" (.int d)) (F_v : Fld Z h0 a1 "com/example/reach2/reach2/model/CodedColumn" "values" "[J" (.ref av)) (F_l : Fld Z h0 a1 "com/example/reach2/reach2/model/CodedColumn" "lookup" "[S" (.ref al)) (F_c : Fld Z h0 a1 "com/example/reach2/reach2/model/CodedColumn" "codes" "[B" (.ref ac)) (Av : own_Arf Z h0 av .long 256 (fun k => .long (Vf k))) (Al : own_Arf Z h0 al .short 512 (fun k => .int (Kf k))) (S1 : Sta Z h0 "com/example/reach2/reach2/model/CodedColumn" "LOOKUP_SHIFT" "I" (.int (55 : Int32))) (hd : 0 ≤ d.toInt ∧ d.toInt ≤ 100) (ho : occ.length ≤ 3) (hK : own_LK occ d Kf) (g1 : n0 ≤ a1) (g2 : n0 ≤ av) (g3 : n0 ≤ al) (x1 : a1 ≠ av) (x2 : a1 ≠ al) (x3 : av ≠ al) (Ac : own_Arf Z h0 ac .byte 3 (fun k => .int (Cf k))) (g4 : n0 ≤ ac) (x4 : ac ≠ a1) (x5 : ac ≠ av) (x6 : ac ≠ al) (hp : 0 ≤ p2.toInt ∧ p2.toInt < (3 : Nat)) :
    MetFree l (⟨"com/example/reach2/reach2/model/CodedColumn", "set", "(IJ)V"⟩ : MethodName) (head1 (Jvm.Cond.code (⟨"com/example/reach2/reach2/model/CodedColumn", "set", "(IJ)V"⟩ : MethodName) prog_47_method_6_code 5 none :: ws) ({ frames := 1, cells := 0, slots := 0, locals := 16 } : Room)) (fun a U => a = #[(.ref a1), (.int p2), (.long q3)] ∧ Z.Warmed39 U.vm ∧ U.heap = h0) (fun _ _ _ _ _ => True) (fun _ U o U' => ∃ v L, o = .returned v ∧ own_Q_rmSet Z a1 p2 q3 ac av al d Cf Vf Kf occ h0 n0 v U'.heap L ∧ FrameEnd U o U' L ({ frames := 1, cells := 0, slots := 0, locals := 16 } : Room).cells ({ frames := 1, cells := 0, slots := 0, locals := 16 } : Room).slots) := by
  refine own_enter (Q := fun v h L => own_Q_rmSet Z a1 p2 q3 ac av al d Cf Vf Kf occ h0 n0 v h L) (F := fun m => mkF m 0 #[rv a1, iv p2, own_jv q3, .second, .unset] []) own_pn3 (fun m => own_ef_rmSet m a1 p2 q3) ?_
  intro p e s m below meth c T X hx hby hml hret hlk hnm hown hZ e0
  show own_Goes p e below s _ _ (T.setTop (mkF m 0 #[rv a1, iv p2, own_jv q3, .second, .unset] []))
  have N0 := Fr.nil n0
  refine own_st (fun _ k => XS.aloadN X.here hx rfl (hb hby own_d4_0) rfl rfl  k) ?_
  show own_Goes p e below s _ _ (T.setTop (mkF m 1 #[rv a1, iv p2, own_jv q3, .second, .unset] [(.ref a1)]))
  obtain ⟨T101, X101, e101, st101⟩ := getF X hx hZ hown (host := "") (Or.inl (hw _ (List.mem_of_getElem? (i := 15) rfl))) Via.refl e0 F_c (g := (mkF m 1 #[rv a1, iv p2, own_jv q3, .second, .unset] [(.ref a1)])) rfl rfl (hb hby own_d4_1)
  refine own_st st101 ?_
  show own_Goes p e below s _ _ (T101.setTop (mkF m 4 #[rv a1, iv p2, own_jv q3, .second, .unset] [(.ref ac)]))
  refine own_st (fun _ k => XS.ifnonnullYes X101.here hx rfl (pc0 := 4) (pc' := 11) rfl (hb hby own_d4_4) rfl (by decide) (by decide) k) ?_
  show own_Goes p e below s _ _ (T101.setTop (mkF m 11 #[rv a1, iv p2, own_jv q3, .second, .unset] []))
  refine own_st (fun _ k => XS.aloadN X101.here hx rfl (hb hby own_d4_11) rfl rfl  k) ?_
  show own_Goes p e below s _ _ (T101.setTop (mkF m 12 #[rv a1, iv p2, own_jv q3, .second, .unset] [(.ref a1)]))
  refine own_st (fun _ k => XS.lloadN X101.here hx rfl (hb hby own_d4_12) rfl  k) ?_
  show own_Goes p e below s _ _ (T101.setTop (mkF m 13 #[rv a1, iv p2, own_jv q3, .second, .unset] [(.long q3), (.ref a1)]))
  obtain ⟨v102, T102, L102, X102, Q102, st102⟩ := own_callP X101 hx hZ (y := (⟨"com/example/reach2/reach2/model/CodedColumn", "code", "(J)I"⟩ : MethodName)) hown (hw _ (List.mem_of_getElem? (i := 32) rfl)) (hw _ (List.mem_of_getElem? (i := 34) rfl)) (hw _ (List.mem_of_getElem? (i := 1) rfl)) (hw _ (List.mem_of_getElem? (i := 33) rfl)) (hw _ (List.mem_of_getElem? (i := 2) rfl)) (hw _ (List.mem_of_getElem? (i := 35) rfl)) (by decide) (W := 0) (rest := []) (argsL := [(.long q3)]) (a := a1) (rmCode l Z a0 hw [] a1 q3 ac av al d Vf Kf occ h0 n0 (by omega) E1 F_d F_v F_l F_c Av Al S1 hd ho hK g1 g2 g3 x1 x2 x3) (by decide) (by decide) (by decide) (by decide) e101 E1 own_pd1 rfl (g := (mkF m 13 #[rv a1, iv p2, own_jv q3, .second, .unset] [(.long q3), (.ref a1)])) rfl (by rw [hml]; rfl) rfl (by show 2 * 0 + _ ≤ _; exact Nat.le_of_eq rfl) (hb hby own_d4_13)
  obtain ⟨r, d', V', K', occ', rfl, N102q, K102, A102, Fd102, Fv102, Fl102, Vv102, Vl102, Fc102, hcp, hoc, hlk2, S102⟩ := Q102
  have z102 := K102.1
  have hcp' := id hcp
  obtain ⟨r0, r1, r2, r3, -, -⟩ := hcp'
  have N102 := Fr.app N0 N102q
  refine own_st st102 ?_
  show own_Goes p e below s _ _ (T102.setTop (mkF m 16 #[rv a1, iv p2, own_jv q3, .second, .unset] [(.int r)]))
  refine own_st (fun _ k => XS.istore X102.here hx rfl (hb hby own_d4_16) rfl (l' := #[rv a1, iv p2, own_jv q3, .second, iv r]) rfl k) ?_
  show own_Goes p e below s _ _ (T102.setTop (mkF m 18 #[rv a1, iv p2, own_jv q3, .second, iv r] []))
  refine own_st (fun _ k => XS.iload X102.here hx rfl (hb hby own_d4_18) rfl  k) ?_
  show own_Goes p e below s _ _ (T102.setTop (mkF m 20 #[rv a1, iv p2, own_jv q3, .second, iv r] [(.int r)]))
  by_cases c103 : r < (0 : Int32)
  · have c103i : r.toInt < 0 := own_i_lt c103
    exfalso; omega
  · have c103i : 0 ≤ r.toInt := own_i_nlt c103
    refine own_st (fun _ k => XS.ifYes X102.here hx rfl (pc0 := 20) (pc' := 34) rfl (hb hby own_d4_20) rfl ((if0 _ _).trans (flt c103).2.1) (by decide) (by decide) k) ?_
    show own_Goes p e below s _ _ (T102.setTop (mkF m 34 #[rv a1, iv p2, own_jv q3, .second, iv r] []))
    refine own_st (fun _ k => XS.aloadN X102.here hx rfl (hb hby own_d4_34) rfl rfl  k) ?_
    show own_Goes p e below s _ _ (T102.setTop (mkF m 35 #[rv a1, iv p2, own_jv q3, .second, iv r] [(.ref a1)]))
    obtain ⟨T104, X104, e104, st104⟩ := getF X102 hx hZ hown (host := "") (Or.inl (hw _ (List.mem_of_getElem? (i := 15) rfl))) Via.refl rfl Fc102 (g := (mkF m 35 #[rv a1, iv p2, own_jv q3, .second, iv r] [(.ref a1)])) rfl rfl (hb hby own_d4_35)
    refine own_st st104 ?_
    show own_Goes p e below s _ _ (T104.setTop (mkF m 38 #[rv a1, iv p2, own_jv q3, .second, iv r] [(.ref ac)]))
    refine own_st (fun _ k => XS.ifnonnullYes X104.here hx rfl (pc0 := 38) (pc' := 51) rfl (hb hby own_d4_38) rfl (by decide) (by decide) k) ?_
    show own_Goes p e below s _ _ (T104.setTop (mkF m 51 #[rv a1, iv p2, own_jv q3, .second, iv r] []))
    refine own_st (fun _ k => XS.aloadN X104.here hx rfl (hb hby own_d4_51) rfl rfl  k) ?_
    show own_Goes p e below s _ _ (T104.setTop (mkF m 52 #[rv a1, iv p2, own_jv q3, .second, iv r] [(.ref a1)]))
    obtain ⟨T105, X105, e105, st105⟩ := getF X104 hx hZ hown (host := "") (Or.inl (hw _ (List.mem_of_getElem? (i := 15) rfl))) Via.refl e104 Fc102 (g := (mkF m 52 #[rv a1, iv p2, own_jv q3, .second, iv r] [(.ref a1)])) rfl rfl (hb hby own_d4_52)
    refine own_st st105 ?_
    show own_Goes p e below s _ _ (T105.setTop (mkF m 55 #[rv a1, iv p2, own_jv q3, .second, iv r] [(.ref ac)]))
    refine own_st (fun _ k => XS.iloadN X105.here hx rfl (hb hby own_d4_55) rfl  k) ?_
    show own_Goes p e below s _ _ (T105.setTop (mkF m 56 #[rv a1, iv p2, own_jv q3, .second, iv r] [(.int p2), (.ref ac)]))
    refine own_st (fun _ k => XS.iload X105.here hx rfl (hb hby own_d4_56) rfl  k) ?_
    show own_Goes p e below s _ _ (T105.setTop (mkF m 58 #[rv a1, iv p2, own_jv q3, .second, iv r] [(.int r), (.int p2), (.ref ac)]))
    refine own_st (fun _ k => XS.i2b X105.here hx rfl (hb hby own_d4_58) rfl k) ?_
    show own_Goes p e below s _ _ (T105.setTop (mkF m 59 #[rv a1, iv p2, own_jv q3, .second, iv r] [(.int (r.toInt8.toInt32)), (.int p2), (.ref ac)]))
    have f106 := (Ac.keep K102 (ninS (own_ne (by omega)) (ninS (own_ne (by omega)) (ninS (own_ne (by omega)) nin0))))
    obtain ⟨T107, h107, X107, e107, W107, A107, st107⟩ := own_stB X105 hx hZ e105 f106 (j := p2) hp (g := (mkF m 59 #[rv a1, iv p2, own_jv q3, .second, iv r] [(.int (r.toInt8.toInt32)), (.int p2), (.ref ac)])) rfl rfl (hb hby own_d4_59)
    have V107 : own_Arf Z h107 ac .byte 3 (fun k => .int ((fun k => if k = (p2).toNatClampNeg then (nar .byte (r.toInt8.toInt32)) else Cf k) k)) := A107
    have z107 := W107.size
    have N107 := Fr.snoc X107 N102 (by omega)
    refine own_st st107 ?_
    show own_Goes p e below s _ _ (T107.setTop (mkF m 60 #[rv a1, iv p2, own_jv q3, .second, iv r] []))
    have f108 := (A102.wr W107)
    have f109 := (Fc102.other W107 (Or.inl (own_ne (by omega))))
    have f110 := (Fd102.other W107 (Or.inl (own_ne (by omega))))
    have f111 := (Fv102.other W107 (Or.inl (own_ne (by omega))))
    have f112 := (Fl102.other W107 (Or.inl (own_ne (by omega))))
    have f113 := (Vv102.other W107 (own_ne (by omega)))
    have f114 := (Vl102.other W107 (own_ne (by omega)))
    have f115 := (S102.wr W107)
    exact own_ret0 X107 hx hlk hret (hb hby own_d4_60) (by decide) (by decide) ⟨r, d', V', K', occ', rfl, N107, by rw [e107]; exact (((Keep.refl h0 [a1, ac, av, al]).trans K102 (allS (Or.inl (by simp)) (allS (Or.inl (by simp)) (allS (Or.inl (by simp)) all0)))).wr W107 (Or.inl (by simp))), by rw [e107]; exact f108, by rw [e107]; exact f109, by rw [e107]; exact f110, by rw [e107]; exact f111, by rw [e107]; exact f112, by rw [e107]; exact V107, by rw [e107]; exact f113, by rw [e107]; exact f114, hcp, hoc, hlk2, by rw [e107]; exact f115⟩
theorem own_pn4 : plainFor (⟨"com/example/reach2/reach2/model/CodedColumn", "get", "(I)J"⟩ : MethodName) = true := by first | exact plainFor_of_name (by simp [plainName, overriddenIn]; done) | decide +kernel
theorem own_d6_0 : decode prog_47_method_5_code 0 = .ok (.aload_n 0, 1) := by decide +kernel
theorem own_d6_1 : decode prog_47_method_5_code 1 = .ok (.getfield 12, 3) := by decide +kernel
theorem own_d6_4 : decode prog_47_method_5_code 4 = .ok (.ifnonnull 12, 3) := by decide +kernel
theorem own_d6_16 : decode prog_47_method_5_code 16 = .ok (.aload_n 0, 1) := by decide +kernel
theorem own_d6_17 : decode prog_47_method_5_code 17 = .ok (.getfield 16, 3) := by decide +kernel
theorem own_d6_20 : decode prog_47_method_5_code 20 = .ok (.aload_n 0, 1) := by decide +kernel
theorem own_d6_21 : decode prog_47_method_5_code 21 = .ok (.getfield 12, 3) := by decide +kernel
theorem own_d6_24 : decode prog_47_method_5_code 24 = .ok (.iload_n 1, 1) := by decide +kernel
theorem own_d6_25 : decode prog_47_method_5_code 25 = .ok (.baload, 1) := by decide +kernel
theorem own_d6_26 : decode prog_47_method_5_code 26 = .ok (.sipush 255, 3) := by decide +kernel
theorem own_d6_29 : decode prog_47_method_5_code 29 = .ok (.iand, 1) := by decide +kernel
theorem own_d6_30 : decode prog_47_method_5_code 30 = .ok (.laload, 1) := by decide +kernel
theorem own_d6_31 : decode prog_47_method_5_code 31 = .ok (.lreturn, 1) := by decide +kernel
theorem own_ef_rmGet (m : MethodId) (a1 : Nat) (p2 : Int32) : entryFrame m #[(.ref a1), (.int p2)] 2 = mkF m 0 #[rv a1, iv p2] [] := by first | (simp [entryFrame, mkF, argsToLocals, Value.category, maxLocals]; done) | rfl
abbrev own_Q_rmGet (Z : State) (a1 : Nat) (p2 : Int32) (ac : Nat) (av : Nat) (Cf : Nat → Int32) (Vf : Nat → Int64) (h0 : Heap) (n0 : Nat) (v : Option Value) (h : Heap) (L : List Loc) : Prop := ∃ r : Int64, v = some (.long r) ∧ r = Vf ((Cf p2.toNatClampNeg) &&& (255 : Int32)).toNatClampNeg ∧ Fr n0 L ∧ h = h0
set_option maxRecDepth 65536 in
set_option maxHeartbeats 40000000 in
theorem rmGet (l : Launch) (Z : State) (a0 : Array Value) (hw : ∀ d ∈ tables_1, d.before a0 Z = true) (ws : List Jvm.Cond) (a1 : Nat) (p2 : Int32) (ac : Nat) (av : Nat) (Cf : Nat → Int32) (Vf : Nat → Int64) (h0 : Heap) (n0 : Nat) (Z0 : n0 ≤ h0.size) (F_c : Fld Z h0 a1 "com/example/reach2/reach2/model/CodedColumn" "codes" "[B" (.ref ac)) (F_v : Fld Z h0 a1 "com/example/reach2/reach2/model/CodedColumn" "values" "[J" (.ref av)) (Ac : own_Arf Z h0 ac .byte 3 (fun k => .int (Cf k))) (Av : own_Arf Z h0 av .long 256 (fun k => .long (Vf k))) (hp : 0 ≤ p2.toInt ∧ p2.toInt < (3 : Nat)) :
    MetFree l (⟨"com/example/reach2/reach2/model/CodedColumn", "get", "(I)J"⟩ : MethodName) (head1 (Jvm.Cond.code (⟨"com/example/reach2/reach2/model/CodedColumn", "get", "(I)J"⟩ : MethodName) prog_47_method_5_code 2 (some .long) :: ws) ({ frames := 0, cells := 0, slots := 0, locals := 0 } : Room)) (fun a U => a = #[(.ref a1), (.int p2)] ∧ Z.Warmed39 U.vm ∧ U.heap = h0) (fun _ _ _ _ _ => True) (fun _ U o U' => ∃ v L, o = .returned v ∧ own_Q_rmGet Z a1 p2 ac av Cf Vf h0 n0 v U'.heap L ∧ FrameEnd U o U' L ({ frames := 0, cells := 0, slots := 0, locals := 0 } : Room).cells ({ frames := 0, cells := 0, slots := 0, locals := 0 } : Room).slots) := by
  refine own_enter (Q := fun v h L => own_Q_rmGet Z a1 p2 ac av Cf Vf h0 n0 v h L) (F := fun m => mkF m 0 #[rv a1, iv p2] []) own_pn4 (fun m => own_ef_rmGet m a1 p2) ?_
  intro p e s m below meth c T X hx hby hml hret hlk hnm hown hZ e0
  show own_Goes p e below s _ _ (T.setTop (mkF m 0 #[rv a1, iv p2] []))
  have N0 := Fr.nil n0
  refine own_st (fun _ k => XS.aloadN X.here hx rfl (hb hby own_d6_0) rfl rfl  k) ?_
  show own_Goes p e below s _ _ (T.setTop (mkF m 1 #[rv a1, iv p2] [(.ref a1)]))
  obtain ⟨T101, X101, e101, st101⟩ := getF X hx hZ hown (host := "") (Or.inl (hw _ (List.mem_of_getElem? (i := 15) rfl))) Via.refl e0 F_c (g := (mkF m 1 #[rv a1, iv p2] [(.ref a1)])) rfl rfl (hb hby own_d6_1)
  refine own_st st101 ?_
  show own_Goes p e below s _ _ (T101.setTop (mkF m 4 #[rv a1, iv p2] [(.ref ac)]))
  refine own_st (fun _ k => XS.ifnonnullYes X101.here hx rfl (pc0 := 4) (pc' := 16) rfl (hb hby own_d6_4) rfl (by decide) (by decide) k) ?_
  show own_Goes p e below s _ _ (T101.setTop (mkF m 16 #[rv a1, iv p2] []))
  refine own_st (fun _ k => XS.aloadN X101.here hx rfl (hb hby own_d6_16) rfl rfl  k) ?_
  show own_Goes p e below s _ _ (T101.setTop (mkF m 17 #[rv a1, iv p2] [(.ref a1)]))
  obtain ⟨T102, X102, e102, st102⟩ := getF X101 hx hZ hown (host := "") (Or.inl (hw _ (List.mem_of_getElem? (i := 17) rfl))) Via.refl e101 F_v (g := (mkF m 17 #[rv a1, iv p2] [(.ref a1)])) rfl rfl (hb hby own_d6_17)
  refine own_st st102 ?_
  show own_Goes p e below s _ _ (T102.setTop (mkF m 20 #[rv a1, iv p2] [(.ref av)]))
  refine own_st (fun _ k => XS.aloadN X102.here hx rfl (hb hby own_d6_20) rfl rfl  k) ?_
  show own_Goes p e below s _ _ (T102.setTop (mkF m 21 #[rv a1, iv p2] [(.ref a1), (.ref av)]))
  obtain ⟨T103, X103, e103, st103⟩ := getF X102 hx hZ hown (host := "") (Or.inl (hw _ (List.mem_of_getElem? (i := 15) rfl))) Via.refl e102 F_c (g := (mkF m 21 #[rv a1, iv p2] [(.ref a1), (.ref av)])) rfl rfl (hb hby own_d6_21)
  refine own_st st103 ?_
  show own_Goes p e below s _ _ (T103.setTop (mkF m 24 #[rv a1, iv p2] [(.ref ac), (.ref av)]))
  refine own_st (fun _ k => XS.iloadN X103.here hx rfl (hb hby own_d6_24) rfl  k) ?_
  show own_Goes p e below s _ _ (T103.setTop (mkF m 25 #[rv a1, iv p2] [(.int p2), (.ref ac), (.ref av)]))
  refine own_st (fun _ k => own_ldB X103 hx hZ e103 Ac (j := p2) hp (g := (mkF m 25 #[rv a1, iv p2] [(.int p2), (.ref ac), (.ref av)])) rfl rfl (hb hby own_d6_25) _ k) ?_
  show own_Goes p e below s _ _ (T103.setTop (mkF m 26 #[rv a1, iv p2] [(.int (Cf (p2).toNatClampNeg)), (.ref av)]))
  refine own_st (fun _ k => XS.sipush X103.here hx rfl (hb hby own_d6_26) k) ?_
  show own_Goes p e below s _ _ (T103.setTop (mkF m 29 #[rv a1, iv p2] [(.int (255 : Int32)), (.int (Cf (p2).toNatClampNeg)), (.ref av)]))
  refine own_st (fun _ k => XS.iand X103.here hx rfl (hb hby own_d6_29) rfl k) ?_
  show own_Goes p e below s _ _ (T103.setTop (mkF m 30 #[rv a1, iv p2] [(.int ((Cf (p2).toNatClampNeg) &&& (255 : Int32))), (.ref av)]))
  refine own_st (fun _ k => own_ldJ X103 hx hZ e103 Av (j := ((Cf (p2).toNatClampNeg) &&& (255 : Int32))) (own_m255 _) (g := (mkF m 30 #[rv a1, iv p2] [(.int ((Cf (p2).toNatClampNeg) &&& (255 : Int32))), (.ref av)])) rfl rfl (hb hby own_d6_30) _ k) ?_
  show own_Goes p e below s _ _ (T103.setTop (mkF m 31 #[rv a1, iv p2] [(.long (Vf (((Cf (p2).toNatClampNeg) &&& (255 : Int32))).toNatClampNeg))]))
  exact own_retJ X103 hx hlk hret (hb hby own_d6_31) (by decide) (by decide) ⟨_, rfl, rfl, N0, e103⟩
theorem own_pn5 : plainFor (⟨"com/example/reach2/reach2/model/CodedColumn", "length", "()I"⟩ : MethodName) = true := by first | exact plainFor_of_name (by simp [plainName, overriddenIn]; done) | decide +kernel
theorem own_d7_0 : decode prog_47_method_4_code 0 = .ok (.aload_n 0, 1) := by decide +kernel
theorem own_d7_1 : decode prog_47_method_4_code 1 = .ok (.getfield 12, 3) := by decide +kernel
theorem own_d7_4 : decode prog_47_method_4_code 4 = .ok (.ifnonnull 11, 3) := by decide +kernel
theorem own_d7_15 : decode prog_47_method_4_code 15 = .ok (.aload_n 0, 1) := by decide +kernel
theorem own_d7_16 : decode prog_47_method_4_code 16 = .ok (.getfield 12, 3) := by decide +kernel
theorem own_d7_19 : decode prog_47_method_4_code 19 = .ok (.arraylength, 1) := by decide +kernel
theorem own_d7_20 : decode prog_47_method_4_code 20 = .ok (.ireturn, 1) := by decide +kernel
theorem own_ef_rmLen (m : MethodId) (a1 : Nat) : entryFrame m #[(.ref a1)] 1 = mkF m 0 #[rv a1] [] := by first | (simp [entryFrame, mkF, argsToLocals, Value.category, maxLocals]; done) | rfl
abbrev own_Q_rmLen (Z : State) (a1 : Nat) (ac : Nat) (Cf : Nat → Int32) (h0 : Heap) (n0 : Nat) (v : Option Value) (h : Heap) (L : List Loc) : Prop := v = some (.int (3 : Int32)) ∧ Fr n0 L ∧ h = h0
set_option maxRecDepth 65536 in
set_option maxHeartbeats 40000000 in
theorem rmLen (l : Launch) (Z : State) (a0 : Array Value) (hw : ∀ d ∈ tables_1, d.before a0 Z = true) (ws : List Jvm.Cond) (a1 : Nat) (ac : Nat) (Cf : Nat → Int32) (h0 : Heap) (n0 : Nat) (Z0 : n0 ≤ h0.size) (F_c : Fld Z h0 a1 "com/example/reach2/reach2/model/CodedColumn" "codes" "[B" (.ref ac)) (Ac : own_Arf Z h0 ac .byte 3 (fun k => .int (Cf k))) :
    MetFree l (⟨"com/example/reach2/reach2/model/CodedColumn", "length", "()I"⟩ : MethodName) (head1 (Jvm.Cond.code (⟨"com/example/reach2/reach2/model/CodedColumn", "length", "()I"⟩ : MethodName) prog_47_method_4_code 1 (some .int) :: ws) ({ frames := 0, cells := 0, slots := 0, locals := 0 } : Room)) (fun a U => a = #[(.ref a1)] ∧ Z.Warmed39 U.vm ∧ U.heap = h0) (fun _ _ _ _ _ => True) (fun _ U o U' => ∃ v L, o = .returned v ∧ own_Q_rmLen Z a1 ac Cf h0 n0 v U'.heap L ∧ FrameEnd U o U' L ({ frames := 0, cells := 0, slots := 0, locals := 0 } : Room).cells ({ frames := 0, cells := 0, slots := 0, locals := 0 } : Room).slots) := by
  refine own_enter (Q := fun v h L => own_Q_rmLen Z a1 ac Cf h0 n0 v h L) (F := fun m => mkF m 0 #[rv a1] []) own_pn5 (fun m => own_ef_rmLen m a1) ?_
  intro p e s m below meth c T X hx hby hml hret hlk hnm hown hZ e0
  show own_Goes p e below s _ _ (T.setTop (mkF m 0 #[rv a1] []))
  have N0 := Fr.nil n0
  refine own_st (fun _ k => XS.aloadN X.here hx rfl (hb hby own_d7_0) rfl rfl  k) ?_
  show own_Goes p e below s _ _ (T.setTop (mkF m 1 #[rv a1] [(.ref a1)]))
  obtain ⟨T101, X101, e101, st101⟩ := getF X hx hZ hown (host := "") (Or.inl (hw _ (List.mem_of_getElem? (i := 15) rfl))) Via.refl e0 F_c (g := (mkF m 1 #[rv a1] [(.ref a1)])) rfl rfl (hb hby own_d7_1)
  refine own_st st101 ?_
  show own_Goes p e below s _ _ (T101.setTop (mkF m 4 #[rv a1] [(.ref ac)]))
  refine own_st (fun _ k => XS.ifnonnullYes X101.here hx rfl (pc0 := 4) (pc' := 15) rfl (hb hby own_d7_4) rfl (by decide) (by decide) k) ?_
  show own_Goes p e below s _ _ (T101.setTop (mkF m 15 #[rv a1] []))
  refine own_st (fun _ k => XS.aloadN X101.here hx rfl (hb hby own_d7_15) rfl rfl  k) ?_
  show own_Goes p e below s _ _ (T101.setTop (mkF m 16 #[rv a1] [(.ref a1)]))
  obtain ⟨T102, X102, e102, st102⟩ := getF X101 hx hZ hown (host := "") (Or.inl (hw _ (List.mem_of_getElem? (i := 15) rfl))) Via.refl e101 F_c (g := (mkF m 16 #[rv a1] [(.ref a1)])) rfl rfl (hb hby own_d7_16)
  refine own_st st102 ?_
  show own_Goes p e below s _ _ (T102.setTop (mkF m 19 #[rv a1] [(.ref ac)]))
  refine own_st (fun _ k => own_len X102 hx hZ e102 Ac (g := (mkF m 19 #[rv a1] [(.ref ac)])) rfl rfl (hb hby own_d7_19) _ k) ?_
  show own_Goes p e below s _ _ (T102.setTop (mkF m 20 #[rv a1] [(.int (3 : Int32))]))
  exact own_retI X102 hx hlk hret (hb hby own_d7_20) (by decide) (by decide) ⟨rfl, N0, e102⟩
theorem own_pn6 : plainFor (⟨"com/example/reach2/reach2/model/CodedColumnGetPinLaw", "law", "(JJJJI)Z"⟩ : MethodName) = true := by first | exact plainFor_of_name (by simp [plainName, overriddenIn]; done) | decide +kernel
theorem own_pd2 : parseMethodDescriptor "(I)V" = some ⟨[.int], none⟩ := by decide +kernel
theorem own_pd3 : parseMethodDescriptor "(IJ)V" = some ⟨[.int, .long], none⟩ := by decide +kernel
theorem own_pd4 : parseMethodDescriptor "(I)J" = some ⟨[.int], some .long⟩ := by decide +kernel
theorem own_pd5 : parseMethodDescriptor "()I" = some ⟨[], some .int⟩ := by decide +kernel
theorem own_ef_rm0 (m : MethodId) (q0 : Int64) (q1 : Int64) (q2 : Int64) (q3 : Int64) (p4 : Int32) : entryFrame m #[(.long q0), (.long q1), (.long q2), (.long q3), (.int p4)] maxLocals = mkF m 0 #[own_jv q0, .second, own_jv q1, .second, own_jv q2, .second, own_jv q3, .second, iv p4, .unset, .unset, .unset, .unset, .unset, .unset, .unset, .unset, .unset, .unset, .unset, .unset, .unset, .unset, .unset, .unset] [] := by first | (simp [entryFrame, mkF, argsToLocals, Value.category, maxLocals]; done) | rfl
abbrev own_Q_rm0 (Z : State) (q0 : Int64) (q1 : Int64) (q2 : Int64) (q3 : Int64) (p4 : Int32) (h0 : Heap) (n0 : Nat) (v : Option Value) (h : Heap) (L : List Loc) : Prop := v = some (.int 1) ∧ Fr n0 L
set_option maxRecDepth 65536 in
set_option maxHeartbeats 40000000 in
theorem rm0 (l : Launch) (Z : State) (a0 : Array Value) (hw : ∀ d ∈ tables_1, d.before a0 Z = true) (ws : List Jvm.Cond) (q0 : Int64) (q1 : Int64) (q2 : Int64) (q3 : Int64) (p4 : Int32) (h0 : Heap) (n0 : Nat) (Z0 : n0 ≤ h0.size) (S1 : Sta Z h0 "com/example/reach2/reach2/model/CodedColumn" "LOOKUP_SHIFT" "I" (.int (55 : Int32))) :
    MetFree l x (head1 (Jvm.Cond.code x code maxLocals ret :: ws) room_1) (fun a U => a = #[(.long q0), (.long q1), (.long q2), (.long q3), (.int p4)] ∧ Z.Warmed39 U.vm ∧ U.heap = h0) (fun _ _ _ _ _ => True) (fun _ U o U' => ∃ v L, o = .returned v ∧ own_Q_rm0 Z q0 q1 q2 q3 p4 h0 n0 v U'.heap L ∧ FrameEnd U o U' L room_1.cells room_1.slots) := by
  refine own_enter (Q := fun v h L => own_Q_rm0 Z q0 q1 q2 q3 p4 h0 n0 v h L) (F := fun m => mkF m 0 #[own_jv q0, .second, own_jv q1, .second, own_jv q2, .second, own_jv q3, .second, iv p4, .unset, .unset, .unset, .unset, .unset, .unset, .unset, .unset, .unset, .unset, .unset, .unset, .unset, .unset, .unset, .unset] []) own_pn6 (fun m => own_ef_rm0 m q0 q1 q2 q3 p4) ?_
  intro p e s m below meth c T X hx hby hml hret hlk hnm hown hZ e0
  show own_Goes p e below s _ _ (T.setTop (mkF m 0 #[own_jv q0, .second, own_jv q1, .second, own_jv q2, .second, own_jv q3, .second, iv p4, .unset, .unset, .unset, .unset, .unset, .unset, .unset, .unset, .unset, .unset, .unset, .unset, .unset, .unset, .unset, .unset] []))
  have N0 := Fr.nil n0
  obtain ⟨T101, h101, X101, e101, E101, A101, D101, -, st101⟩ := newO X hx hZ hown (hw _ (List.mem_of_getElem? (i := 0) rfl)) (hw _ (List.mem_of_getElem? (i := 1) rfl)) (hw _ (List.mem_of_getElem? (i := 2) rfl)) e0 (g := (mkF m 0 #[own_jv q0, .second, own_jv q1, .second, own_jv q2, .second, own_jv q3, .second, iv p4, .unset, .unset, .unset, .unset, .unset, .unset, .unset, .unset, .unset, .unset, .unset, .unset, .unset, .unset, .unset, .unset] [])) rfl (hb hby at_0) (by decide) (by decide)
  obtain ⟨b101, g101⟩ : ∃ z, z = h0.size := ⟨_, rfl⟩
  rw [← g101] at A101 D101 st101
  have y101 := own_lt A101.lt
  have z101 := E101.1
  have F101_codes : Fld Z h101 b101 "com/example/reach2/reach2/model/CodedColumn" "codes" "[B" .null := D101 (Or.inl (hw _ (List.mem_of_getElem? (i := 16) rfl))) (ty := (.array .byte)) (by decide)
  have F101_values : Fld Z h101 b101 "com/example/reach2/reach2/model/CodedColumn" "values" "[J" .null := D101 (Or.inl (hw _ (List.mem_of_getElem? (i := 18) rfl))) (ty := (.array .long)) (by decide)
  have F101_lookup : Fld Z h101 b101 "com/example/reach2/reach2/model/CodedColumn" "lookup" "[S" .null := D101 (Or.inl (hw _ (List.mem_of_getElem? (i := 20) rfl))) (ty := (.array .short)) (by decide)
  have F101_distinct : Fld Z h101 b101 "com/example/reach2/reach2/model/CodedColumn" "distinct" "I" (.int (0 : Int32)) := D101 (Or.inl (hw _ (List.mem_of_getElem? (i := 22) rfl))) (ty := .int) (by decide)
  have F101_plain : Fld Z h101 b101 "com/example/reach2/reach2/model/CodedColumn" "plain" "[J" .null := D101 (Or.inl (hw _ (List.mem_of_getElem? (i := 24) rfl))) (ty := (.array .long)) (by decide)
  refine own_st st101 ?_
  show own_Goes p e below s _ _ (T101.setTop (mkF m 3 #[own_jv q0, .second, own_jv q1, .second, own_jv q2, .second, own_jv q3, .second, iv p4, .unset, .unset, .unset, .unset, .unset, .unset, .unset, .unset, .unset, .unset, .unset, .unset, .unset, .unset, .unset, .unset] [(.ref b101)]))
  refine own_st (fun _ k => XS.dup X101.here hx rfl (hb hby at_3) rfl rfl k) ?_
  show own_Goes p e below s _ _ (T101.setTop (mkF m 4 #[own_jv q0, .second, own_jv q1, .second, own_jv q2, .second, own_jv q3, .second, iv p4, .unset, .unset, .unset, .unset, .unset, .unset, .unset, .unset, .unset, .unset, .unset, .unset, .unset, .unset, .unset, .unset] [(.ref b101), (.ref b101)]))
  refine own_st (fun _ k => XS.iconst X101.here hx rfl (hb hby at_4) k) ?_
  show own_Goes p e below s _ _ (T101.setTop (mkF m 5 #[own_jv q0, .second, own_jv q1, .second, own_jv q2, .second, own_jv q3, .second, iv p4, .unset, .unset, .unset, .unset, .unset, .unset, .unset, .unset, .unset, .unset, .unset, .unset, .unset, .unset, .unset, .unset] [(.int (3 : Int32)), (.ref b101), (.ref b101)]))
  obtain ⟨v102, T102, L102, X102, Q102, st102⟩ := own_callI X101 hx hZ (y := (⟨"com/example/reach2/reach2/model/CodedColumn", "<init>", "(I)V"⟩ : MethodName)) hown (hw _ (List.mem_of_getElem? (i := 3) rfl)) (hw _ (List.mem_of_getElem? (i := 4) rfl)) (hw _ (List.mem_of_getElem? (i := 2) rfl)) (hw _ (List.mem_of_getElem? (i := 5) rfl)) rfl (by decide) (W := 1) (rest := [(.ref b101)]) (argsL := [(.int (3 : Int32))]) (a := b101) (rmI1 l Z a0 hw [] b101 _ _ _ _ _  h101 n0 (by omega) A101 F101_codes F101_values F101_lookup F101_distinct F101_plain (by omega) (by omega)) (by decide) (by decide) (by decide) (by decide) e101 own_pd2 rfl (g := (mkF m 5 #[own_jv q0, .second, own_jv q1, .second, own_jv q2, .second, own_jv q3, .second, iv p4, .unset, .unset, .unset, .unset, .unset, .unset, .unset, .unset, .unset, .unset, .unset, .unset, .unset, .unset, .unset, .unset] [(.int (3 : Int32)), (.ref b101), (.ref b101)])) rfl (by rw [hml]; rfl) rfl (by show 2 * 0 + _ ≤ _; exact Nat.le_of_eq rfl) (hb hby at_5)
  obtain ⟨ac102, av102, al102, rfl, N102q, K102, g102a, g102b, g102c, g102d, A102, F102_codes, F102_values, F102_lookup, F102_distinct, F102_plain, Vc102, Vv102, Vl102⟩ := Q102
  have z102 := K102.1
  have N102 := Fr.app N0 N102q
  refine own_st st102 ?_
  show own_Goes p e below s _ _ (T102.setTop (mkF m 8 #[own_jv q0, .second, own_jv q1, .second, own_jv q2, .second, own_jv q3, .second, iv p4, .unset, .unset, .unset, .unset, .unset, .unset, .unset, .unset, .unset, .unset, .unset, .unset, .unset, .unset, .unset, .unset] [(.ref b101)]))
  refine own_st (fun _ k => XS.astore X102.here hx rfl (hb hby at_8) rfl rfl (l' := #[own_jv q0, .second, own_jv q1, .second, own_jv q2, .second, own_jv q3, .second, iv p4, rv b101, .unset, .unset, .unset, .unset, .unset, .unset, .unset, .unset, .unset, .unset, .unset, .unset, .unset, .unset, .unset]) rfl k) ?_
  show own_Goes p e below s _ _ (T102.setTop (mkF m 10 #[own_jv q0, .second, own_jv q1, .second, own_jv q2, .second, own_jv q3, .second, iv p4, rv b101, .unset, .unset, .unset, .unset, .unset, .unset, .unset, .unset, .unset, .unset, .unset, .unset, .unset, .unset, .unset] []))
  refine own_st (fun _ k => XS.lloadN X102.here hx rfl (hb hby at_10) rfl  k) ?_
  show own_Goes p e below s _ _ (T102.setTop (mkF m 11 #[own_jv q0, .second, own_jv q1, .second, own_jv q2, .second, own_jv q3, .second, iv p4, rv b101, .unset, .unset, .unset, .unset, .unset, .unset, .unset, .unset, .unset, .unset, .unset, .unset, .unset, .unset, .unset] [(.long q0)]))
  refine own_st (fun _ k => XS.lstore X102.here hx rfl (hb hby at_11) rfl (l' := #[own_jv q0, .second, own_jv q1, .second, own_jv q2, .second, own_jv q3, .second, iv p4, rv b101, own_jv q0, .second, .unset, .unset, .unset, .unset, .unset, .unset, .unset, .unset, .unset, .unset, .unset, .unset, .unset]) rfl k) ?_
  show own_Goes p e below s _ _ (T102.setTop (mkF m 13 #[own_jv q0, .second, own_jv q1, .second, own_jv q2, .second, own_jv q3, .second, iv p4, rv b101, own_jv q0, .second, .unset, .unset, .unset, .unset, .unset, .unset, .unset, .unset, .unset, .unset, .unset, .unset, .unset] []))
  refine own_st (fun _ k => XS.iload X102.here hx rfl (hb hby at_13) rfl  k) ?_
  show own_Goes p e below s _ _ (T102.setTop (mkF m 15 #[own_jv q0, .second, own_jv q1, .second, own_jv q2, .second, own_jv q3, .second, iv p4, rv b101, own_jv q0, .second, .unset, .unset, .unset, .unset, .unset, .unset, .unset, .unset, .unset, .unset, .unset, .unset, .unset] [(.int p4)]))
  refine own_st (fun _ k => XS.iconst X102.here hx rfl (hb hby at_15) k) ?_
  show own_Goes p e below s _ _ (T102.setTop (mkF m 16 #[own_jv q0, .second, own_jv q1, .second, own_jv q2, .second, own_jv q3, .second, iv p4, rv b101, own_jv q0, .second, .unset, .unset, .unset, .unset, .unset, .unset, .unset, .unset, .unset, .unset, .unset, .unset, .unset] [(.int (1 : Int32)), (.int p4)]))
  refine own_st (fun _ k => XS.iand X102.here hx rfl (hb hby at_16) rfl k) ?_
  show own_Goes p e below s _ _ (T102.setTop (mkF m 17 #[own_jv q0, .second, own_jv q1, .second, own_jv q2, .second, own_jv q3, .second, iv p4, rv b101, own_jv q0, .second, .unset, .unset, .unset, .unset, .unset, .unset, .unset, .unset, .unset, .unset, .unset, .unset, .unset] [(.int (p4 &&& (1 : Int32)))]))
  have J25 : ∀ (yy : Int64), own_Goes p e below s room_1 (fun v h L => own_Q_rm0 Z q0 q1 q2 q3 p4 h0 n0 v h L) (T102.setTop (mkF m 25 #[own_jv q0, .second, own_jv q1, .second, own_jv q2, .second, own_jv q3, .second, iv p4, rv b101, own_jv q0, .second, .unset, .unset, .unset, .unset, .unset, .unset, .unset, .unset, .unset, .unset, .unset, .unset, .unset] [(.long yy)])) := by
    intro yy
    refine own_st (fun _ k => XS.lstore X102.here hx rfl (hb hby at_25) rfl (l' := #[own_jv q0, .second, own_jv q1, .second, own_jv q2, .second, own_jv q3, .second, iv p4, rv b101, own_jv q0, .second, own_jv yy, .second, .unset, .unset, .unset, .unset, .unset, .unset, .unset, .unset, .unset, .unset, .unset]) rfl k) ?_
    show own_Goes p e below s _ _ (T102.setTop (mkF m 27 #[own_jv q0, .second, own_jv q1, .second, own_jv q2, .second, own_jv q3, .second, iv p4, rv b101, own_jv q0, .second, own_jv yy, .second, .unset, .unset, .unset, .unset, .unset, .unset, .unset, .unset, .unset, .unset, .unset] []))
    refine own_st (fun _ k => XS.iload X102.here hx rfl (hb hby at_27) rfl  k) ?_
    show own_Goes p e below s _ _ (T102.setTop (mkF m 29 #[own_jv q0, .second, own_jv q1, .second, own_jv q2, .second, own_jv q3, .second, iv p4, rv b101, own_jv q0, .second, own_jv yy, .second, .unset, .unset, .unset, .unset, .unset, .unset, .unset, .unset, .unset, .unset, .unset] [(.int p4)]))
    refine own_st (fun _ k => XS.iconst X102.here hx rfl (hb hby at_29) k) ?_
    show own_Goes p e below s _ _ (T102.setTop (mkF m 30 #[own_jv q0, .second, own_jv q1, .second, own_jv q2, .second, own_jv q3, .second, iv p4, rv b101, own_jv q0, .second, own_jv yy, .second, .unset, .unset, .unset, .unset, .unset, .unset, .unset, .unset, .unset, .unset, .unset] [(.int (2 : Int32)), (.int p4)]))
    refine own_st (fun _ k => XS.iand X102.here hx rfl (hb hby at_30) rfl k) ?_
    show own_Goes p e below s _ _ (T102.setTop (mkF m 31 #[own_jv q0, .second, own_jv q1, .second, own_jv q2, .second, own_jv q3, .second, iv p4, rv b101, own_jv q0, .second, own_jv yy, .second, .unset, .unset, .unset, .unset, .unset, .unset, .unset, .unset, .unset, .unset, .unset] [(.int (p4 &&& (2 : Int32)))]))
    have J45 : ∀ (zz : Int64), own_Goes p e below s room_1 (fun v h L => own_Q_rm0 Z q0 q1 q2 q3 p4 h0 n0 v h L) (T102.setTop (mkF m 45 #[own_jv q0, .second, own_jv q1, .second, own_jv q2, .second, own_jv q3, .second, iv p4, rv b101, own_jv q0, .second, own_jv yy, .second, .unset, .unset, .unset, .unset, .unset, .unset, .unset, .unset, .unset, .unset, .unset] [(.long zz)])) := by
      intro zz
      refine own_st (fun _ k => XS.lstore X102.here hx rfl (hb hby at_45) rfl (l' := #[own_jv q0, .second, own_jv q1, .second, own_jv q2, .second, own_jv q3, .second, iv p4, rv b101, own_jv q0, .second, own_jv yy, .second, own_jv zz, .second, .unset, .unset, .unset, .unset, .unset, .unset, .unset, .unset, .unset]) rfl k) ?_
      show own_Goes p e below s _ _ (T102.setTop (mkF m 47 #[own_jv q0, .second, own_jv q1, .second, own_jv q2, .second, own_jv q3, .second, iv p4, rv b101, own_jv q0, .second, own_jv yy, .second, own_jv zz, .second, .unset, .unset, .unset, .unset, .unset, .unset, .unset, .unset, .unset] []))
      refine own_st (fun _ k => XS.iload X102.here hx rfl (hb hby at_47) rfl  k) ?_
      show own_Goes p e below s _ _ (T102.setTop (mkF m 49 #[own_jv q0, .second, own_jv q1, .second, own_jv q2, .second, own_jv q3, .second, iv p4, rv b101, own_jv q0, .second, own_jv yy, .second, own_jv zz, .second, .unset, .unset, .unset, .unset, .unset, .unset, .unset, .unset, .unset] [(.int p4)]))
      refine own_st (fun _ k => XS.iconst X102.here hx rfl (hb hby at_49) k) ?_
      show own_Goes p e below s _ _ (T102.setTop (mkF m 50 #[own_jv q0, .second, own_jv q1, .second, own_jv q2, .second, own_jv q3, .second, iv p4, rv b101, own_jv q0, .second, own_jv yy, .second, own_jv zz, .second, .unset, .unset, .unset, .unset, .unset, .unset, .unset, .unset, .unset] [(.int (4 : Int32)), (.int p4)]))
      refine own_st (fun _ k => XS.iand X102.here hx rfl (hb hby at_50) rfl k) ?_
      show own_Goes p e below s _ _ (T102.setTop (mkF m 51 #[own_jv q0, .second, own_jv q1, .second, own_jv q2, .second, own_jv q3, .second, iv p4, rv b101, own_jv q0, .second, own_jv yy, .second, own_jv zz, .second, .unset, .unset, .unset, .unset, .unset, .unset, .unset, .unset, .unset] [(.int (p4 &&& (4 : Int32)))]))
      have J61 : ∀ (ww : Int64), own_Goes p e below s room_1 (fun v h L => own_Q_rm0 Z q0 q1 q2 q3 p4 h0 n0 v h L) (T102.setTop (mkF m 61 #[own_jv q0, .second, own_jv q1, .second, own_jv q2, .second, own_jv q3, .second, iv p4, rv b101, own_jv q0, .second, own_jv yy, .second, own_jv zz, .second, .unset, .unset, .unset, .unset, .unset, .unset, .unset, .unset, .unset] [(.long ww)])) := by
        intro ww
        refine own_st (fun _ k => XS.lstore X102.here hx rfl (hb hby at_61) rfl (l' := #[own_jv q0, .second, own_jv q1, .second, own_jv q2, .second, own_jv q3, .second, iv p4, rv b101, own_jv q0, .second, own_jv yy, .second, own_jv zz, .second, own_jv ww, .second, .unset, .unset, .unset, .unset, .unset, .unset, .unset]) rfl k) ?_
        show own_Goes p e below s _ _ (T102.setTop (mkF m 63 #[own_jv q0, .second, own_jv q1, .second, own_jv q2, .second, own_jv q3, .second, iv p4, rv b101, own_jv q0, .second, own_jv yy, .second, own_jv zz, .second, own_jv ww, .second, .unset, .unset, .unset, .unset, .unset, .unset, .unset] []))
        refine own_st (fun _ k => XS.iload X102.here hx rfl (hb hby at_63) rfl  k) ?_
        show own_Goes p e below s _ _ (T102.setTop (mkF m 65 #[own_jv q0, .second, own_jv q1, .second, own_jv q2, .second, own_jv q3, .second, iv p4, rv b101, own_jv q0, .second, own_jv yy, .second, own_jv zz, .second, own_jv ww, .second, .unset, .unset, .unset, .unset, .unset, .unset, .unset] [(.int p4)]))
        refine own_st (fun _ k => XS.iconst X102.here hx rfl (hb hby at_65) k) ?_
        show own_Goes p e below s _ _ (T102.setTop (mkF m 66 #[own_jv q0, .second, own_jv q1, .second, own_jv q2, .second, own_jv q3, .second, iv p4, rv b101, own_jv q0, .second, own_jv yy, .second, own_jv zz, .second, own_jv ww, .second, .unset, .unset, .unset, .unset, .unset, .unset, .unset] [(.int (3 : Int32)), (.int p4)]))
        refine own_st (fun _ k => XS.iushr X102.here hx rfl (hb hby at_66) rfl k) ?_
        show own_Goes p e below s _ _ (T102.setTop (mkF m 67 #[own_jv q0, .second, own_jv q1, .second, own_jv q2, .second, own_jv q3, .second, iv p4, rv b101, own_jv q0, .second, own_jv yy, .second, own_jv zz, .second, own_jv ww, .second, .unset, .unset, .unset, .unset, .unset, .unset, .unset] [(.int ((p4.toUInt32 >>> ((3 : Int32) &&& 31).toUInt32).toInt32))]))
        refine own_st (fun _ k => X102.ldcInt hx hown (mvT hZ (hw _ (List.mem_of_getElem? (i := 26) rfl))) (g := (mkF m 67 #[own_jv q0, .second, own_jv q1, .second, own_jv q2, .second, own_jv q3, .second, iv p4, rv b101, own_jv q0, .second, own_jv yy, .second, own_jv zz, .second, own_jv ww, .second, .unset, .unset, .unset, .unset, .unset, .unset, .unset] [(.int ((p4.toUInt32 >>> ((3 : Int32) &&& 31).toUInt32).toInt32))])) rfl (hb hby at_67) _ k) ?_
        show own_Goes p e below s _ _ (T102.setTop (mkF m 69 #[own_jv q0, .second, own_jv q1, .second, own_jv q2, .second, own_jv q3, .second, iv p4, rv b101, own_jv q0, .second, own_jv yy, .second, own_jv zz, .second, own_jv ww, .second, .unset, .unset, .unset, .unset, .unset, .unset, .unset] [(.int (2147483647 : Int32)), (.int ((p4.toUInt32 >>> ((3 : Int32) &&& 31).toUInt32).toInt32))]))
        refine own_st (fun _ k => XS.iand X102.here hx rfl (hb hby at_69) rfl k) ?_
        show own_Goes p e below s _ _ (T102.setTop (mkF m 70 #[own_jv q0, .second, own_jv q1, .second, own_jv q2, .second, own_jv q3, .second, iv p4, rv b101, own_jv q0, .second, own_jv yy, .second, own_jv zz, .second, own_jv ww, .second, .unset, .unset, .unset, .unset, .unset, .unset, .unset] [(.int (((p4.toUInt32 >>> ((3 : Int32) &&& 31).toUInt32).toInt32) &&& (2147483647 : Int32)))]))
        refine own_st (fun _ k => XS.iconst X102.here hx rfl (hb hby at_70) k) ?_
        show own_Goes p e below s _ _ (T102.setTop (mkF m 71 #[own_jv q0, .second, own_jv q1, .second, own_jv q2, .second, own_jv q3, .second, iv p4, rv b101, own_jv q0, .second, own_jv yy, .second, own_jv zz, .second, own_jv ww, .second, .unset, .unset, .unset, .unset, .unset, .unset, .unset] [(.int (3 : Int32)), (.int (((p4.toUInt32 >>> ((3 : Int32) &&& 31).toUInt32).toInt32) &&& (2147483647 : Int32)))]))
        refine own_st (fun _ k => iremM X102 hx rfl (hb hby at_71) rfl (by decide) k) ?_
        show own_Goes p e below s _ _ (T102.setTop (mkF m 72 #[own_jv q0, .second, own_jv q1, .second, own_jv q2, .second, own_jv q3, .second, iv p4, rv b101, own_jv q0, .second, own_jv yy, .second, own_jv zz, .second, own_jv ww, .second, .unset, .unset, .unset, .unset, .unset, .unset, .unset] [(.int ((((p4.toUInt32 >>> ((3 : Int32) &&& 31).toUInt32).toInt32) &&& (2147483647 : Int32)) % (3 : Int32)))]))
        have hq := own_q3 p4
        generalize ((((p4.toUInt32 >>> ((3 : Int32) &&& 31).toUInt32).toInt32) &&& (2147483647 : Int32)) % (3 : Int32)) = qq at hq ⊢
        rcases own_3 hq with rfl | rfl | rfl
        · show own_Goes p e below s _ _ (T102.setTop (mkF m 72 #[own_jv q0, .second, own_jv q1, .second, own_jv q2, .second, own_jv q3, .second, iv p4, rv b101, own_jv q0, .second, own_jv yy, .second, own_jv zz, .second, own_jv ww, .second, .unset, .unset, .unset, .unset, .unset, .unset, .unset] [(.int (0 : Int32))]))
          refine own_st (fun _ k => XS.istore X102.here hx rfl (hb hby at_72) rfl (l' := #[own_jv q0, .second, own_jv q1, .second, own_jv q2, .second, own_jv q3, .second, iv p4, rv b101, own_jv q0, .second, own_jv yy, .second, own_jv zz, .second, own_jv ww, .second, iv (0 : Int32), .unset, .unset, .unset, .unset, .unset, .unset]) rfl k) ?_
          show own_Goes p e below s _ _ (T102.setTop (mkF m 74 #[own_jv q0, .second, own_jv q1, .second, own_jv q2, .second, own_jv q3, .second, iv p4, rv b101, own_jv q0, .second, own_jv yy, .second, own_jv zz, .second, own_jv ww, .second, iv (0 : Int32), .unset, .unset, .unset, .unset, .unset, .unset] []))
          refine own_st (fun _ k => XS.aload X102.here hx rfl (hb hby at_74) rfl rfl  k) ?_
          show own_Goes p e below s _ _ (T102.setTop (mkF m 76 #[own_jv q0, .second, own_jv q1, .second, own_jv q2, .second, own_jv q3, .second, iv p4, rv b101, own_jv q0, .second, own_jv yy, .second, own_jv zz, .second, own_jv ww, .second, iv (0 : Int32), .unset, .unset, .unset, .unset, .unset, .unset] [(.ref b101)]))
          refine own_st (fun _ k => XS.iconst X102.here hx rfl (hb hby at_76) k) ?_
          show own_Goes p e below s _ _ (T102.setTop (mkF m 77 #[own_jv q0, .second, own_jv q1, .second, own_jv q2, .second, own_jv q3, .second, iv p4, rv b101, own_jv q0, .second, own_jv yy, .second, own_jv zz, .second, own_jv ww, .second, iv (0 : Int32), .unset, .unset, .unset, .unset, .unset, .unset] [(.int (0 : Int32)), (.ref b101)]))
          refine own_st (fun _ k => XS.lload X102.here hx rfl (hb hby at_77) rfl  k) ?_
          show own_Goes p e below s _ _ (T102.setTop (mkF m 79 #[own_jv q0, .second, own_jv q1, .second, own_jv q2, .second, own_jv q3, .second, iv p4, rv b101, own_jv q0, .second, own_jv yy, .second, own_jv zz, .second, own_jv ww, .second, iv (0 : Int32), .unset, .unset, .unset, .unset, .unset, .unset] [(.long q0), (.int (0 : Int32)), (.ref b101)]))
          have ho104 : ([] : List Nat).length ≤ 3 := by decide
          have hd104 : 0 ≤ (0 : Int32).toInt ∧ (0 : Int32).toInt ≤ 100 := by decide
          have f105 := (own_sta_keep (S1.ext E101) K102 (own_pl1 A101))
          obtain ⟨v103, T103, L103, X103, Q103, st103⟩ := own_callV X102 hx hZ (C := "com/example/reach2/reach2/model/CodedColumn") (y := (⟨"com/example/reach2/reach2/model/CodedColumn", "set", "(IJ)V"⟩ : MethodName)) hown (hw _ (List.mem_of_getElem? (i := 27) rfl)) (hw _ (List.mem_of_getElem? (i := 28) rfl)) (hw _ (List.mem_of_getElem? (i := 30) rfl)) (hw _ (List.mem_of_getElem? (i := 29) rfl)) (hw _ (List.mem_of_getElem? (i := 2) rfl)) (hw _ (List.mem_of_getElem? (i := 31) rfl)) (by decide) (W := 0) (rest := []) (argsL := [(.int (0 : Int32)), (.long q0)]) (a := b101) (rmSet l Z a0 hw [] b101 (0 : Int32) q0 ac102 av102 al102 _ _ _ _ ([] : List Nat) T102.heap n0 (by omega) A102 F102_distinct F102_values F102_lookup F102_codes Vv102 Vl102 f105 hd104 ho104 (own_LK0 (0 : Int32) (by decide)) (by omega) (by omega) (by omega) (by omega) (by omega) (by omega) Vc102 (by omega) (by omega) (by omega) (by omega) (by decide)) (by decide) (by decide) (by decide) (by decide) rfl A102 own_pd3 rfl (g := (mkF m 79 #[own_jv q0, .second, own_jv q1, .second, own_jv q2, .second, own_jv q3, .second, iv p4, rv b101, own_jv q0, .second, own_jv yy, .second, own_jv zz, .second, own_jv ww, .second, iv (0 : Int32), .unset, .unset, .unset, .unset, .unset, .unset] [(.long q0), (.int (0 : Int32)), (.ref b101)])) rfl (by rw [hml]; rfl) rfl (by show 2 * 0 + _ ≤ _; exact Nat.le_of_eq rfl) (hb hby at_79)
          obtain ⟨r103, d103, V103, K103f, occ103, rfl, N103q, K103, A103, Fc103, Fd103, Fv103, Fl103, Vc103, Vv103, Vl103, hcp103, hoc103, hlk103, S103⟩ := Q103
          have z103 := K103.1
          obtain ⟨ra103, rb103, rc103, rd103, re103, rf103⟩ := hcp103
          have rn103 := own_nat ra103
          have Vd103 : own_Arf Z T103.heap ac102 .byte 3 (fun k => .int ((fun k => if k = 0 then (nar .byte (r103.toInt8.toInt32)) else (fun _ => (0 : Int32)) k) k)) := Vc103
          have ho103' : occ103.length ≤ 1 := hoc103
          have rd103' : d103.toInt ≤ 1 := rd103
          have rc103' : 0 ≤ d103.toInt := rc103
          have N103 := Fr.app N102 N103q
          refine own_st st103 ?_
          show own_Goes p e below s _ _ (T103.setTop (mkF m 82 #[own_jv q0, .second, own_jv q1, .second, own_jv q2, .second, own_jv q3, .second, iv p4, rv b101, own_jv q0, .second, own_jv yy, .second, own_jv zz, .second, own_jv ww, .second, iv (0 : Int32), .unset, .unset, .unset, .unset, .unset, .unset] []))
          refine own_st (fun _ k => XS.aload X103.here hx rfl (hb hby at_82) rfl rfl  k) ?_
          show own_Goes p e below s _ _ (T103.setTop (mkF m 84 #[own_jv q0, .second, own_jv q1, .second, own_jv q2, .second, own_jv q3, .second, iv p4, rv b101, own_jv q0, .second, own_jv yy, .second, own_jv zz, .second, own_jv ww, .second, iv (0 : Int32), .unset, .unset, .unset, .unset, .unset, .unset] [(.ref b101)]))
          refine own_st (fun _ k => XS.iconst X103.here hx rfl (hb hby at_84) k) ?_
          show own_Goes p e below s _ _ (T103.setTop (mkF m 85 #[own_jv q0, .second, own_jv q1, .second, own_jv q2, .second, own_jv q3, .second, iv p4, rv b101, own_jv q0, .second, own_jv yy, .second, own_jv zz, .second, own_jv ww, .second, iv (0 : Int32), .unset, .unset, .unset, .unset, .unset, .unset] [(.int (1 : Int32)), (.ref b101)]))
          refine own_st (fun _ k => XS.lload X103.here hx rfl (hb hby at_85) rfl  k) ?_
          show own_Goes p e below s _ _ (T103.setTop (mkF m 87 #[own_jv q0, .second, own_jv q1, .second, own_jv q2, .second, own_jv q3, .second, iv p4, rv b101, own_jv q0, .second, own_jv yy, .second, own_jv zz, .second, own_jv ww, .second, iv (0 : Int32), .unset, .unset, .unset, .unset, .unset, .unset] [(.long yy), (.int (1 : Int32)), (.ref b101)]))
          have ho107 : occ103.length ≤ 3 := by omega
          have hd107 : 0 ≤ d103.toInt ∧ d103.toInt ≤ 100 := by omega
          obtain ⟨v106, T106, L106, X106, Q106, st106⟩ := own_callV X103 hx hZ (C := "com/example/reach2/reach2/model/CodedColumn") (y := (⟨"com/example/reach2/reach2/model/CodedColumn", "set", "(IJ)V"⟩ : MethodName)) hown (hw _ (List.mem_of_getElem? (i := 27) rfl)) (hw _ (List.mem_of_getElem? (i := 28) rfl)) (hw _ (List.mem_of_getElem? (i := 30) rfl)) (hw _ (List.mem_of_getElem? (i := 29) rfl)) (hw _ (List.mem_of_getElem? (i := 2) rfl)) (hw _ (List.mem_of_getElem? (i := 31) rfl)) (by decide) (W := 0) (rest := []) (argsL := [(.int (1 : Int32)), (.long yy)]) (a := b101) (rmSet l Z a0 hw [] b101 (1 : Int32) yy ac102 av102 al102 _ _ _ _ occ103 T103.heap n0 (by omega) A103 Fd103 Fv103 Fl103 Fc103 Vv103 Vl103 S103 hd107 ho107 hlk103 (by omega) (by omega) (by omega) (by omega) (by omega) (by omega) Vd103 (by omega) (by omega) (by omega) (by omega) (by decide)) (by decide) (by decide) (by decide) (by decide) rfl A103 own_pd3 rfl (g := (mkF m 87 #[own_jv q0, .second, own_jv q1, .second, own_jv q2, .second, own_jv q3, .second, iv p4, rv b101, own_jv q0, .second, own_jv yy, .second, own_jv zz, .second, own_jv ww, .second, iv (0 : Int32), .unset, .unset, .unset, .unset, .unset, .unset] [(.long yy), (.int (1 : Int32)), (.ref b101)])) rfl (by rw [hml]; rfl) rfl (by show 2 * 0 + _ ≤ _; exact Nat.le_of_eq rfl) (hb hby at_87)
          obtain ⟨r106, d106, V106, K106f, occ106, rfl, N106q, K106, A106, Fc106, Fd106, Fv106, Fl106, Vc106, Vv106, Vl106, hcp106, hoc106, hlk106, S106⟩ := Q106
          have z106 := K106.1
          obtain ⟨ra106, rb106, rc106, rd106, re106, rf106⟩ := hcp106
          have rn106 := own_nat ra106
          have Vd106 : own_Arf Z T106.heap ac102 .byte 3 (fun k => .int ((fun k => if k = 1 then (nar .byte (r106.toInt8.toInt32)) else (fun k => if k = 0 then (nar .byte (r103.toInt8.toInt32)) else (fun _ => (0 : Int32)) k) k) k)) := Vc106
          have N106 := Fr.app N103 N106q
          refine own_st st106 ?_
          show own_Goes p e below s _ _ (T106.setTop (mkF m 90 #[own_jv q0, .second, own_jv q1, .second, own_jv q2, .second, own_jv q3, .second, iv p4, rv b101, own_jv q0, .second, own_jv yy, .second, own_jv zz, .second, own_jv ww, .second, iv (0 : Int32), .unset, .unset, .unset, .unset, .unset, .unset] []))
          refine own_st (fun _ k => XS.aload X106.here hx rfl (hb hby at_90) rfl rfl  k) ?_
          show own_Goes p e below s _ _ (T106.setTop (mkF m 92 #[own_jv q0, .second, own_jv q1, .second, own_jv q2, .second, own_jv q3, .second, iv p4, rv b101, own_jv q0, .second, own_jv yy, .second, own_jv zz, .second, own_jv ww, .second, iv (0 : Int32), .unset, .unset, .unset, .unset, .unset, .unset] [(.ref b101)]))
          refine own_st (fun _ k => XS.iconst X106.here hx rfl (hb hby at_92) k) ?_
          show own_Goes p e below s _ _ (T106.setTop (mkF m 93 #[own_jv q0, .second, own_jv q1, .second, own_jv q2, .second, own_jv q3, .second, iv p4, rv b101, own_jv q0, .second, own_jv yy, .second, own_jv zz, .second, own_jv ww, .second, iv (0 : Int32), .unset, .unset, .unset, .unset, .unset, .unset] [(.int (2 : Int32)), (.ref b101)]))
          refine own_st (fun _ k => XS.lload X106.here hx rfl (hb hby at_93) rfl  k) ?_
          show own_Goes p e below s _ _ (T106.setTop (mkF m 95 #[own_jv q0, .second, own_jv q1, .second, own_jv q2, .second, own_jv q3, .second, iv p4, rv b101, own_jv q0, .second, own_jv yy, .second, own_jv zz, .second, own_jv ww, .second, iv (0 : Int32), .unset, .unset, .unset, .unset, .unset, .unset] [(.long zz), (.int (2 : Int32)), (.ref b101)]))
          have ho109 : occ106.length ≤ 3 := by omega
          have hd109 : 0 ≤ d106.toInt ∧ d106.toInt ≤ 100 := by omega
          obtain ⟨v108, T108, L108, X108, Q108, st108⟩ := own_callV X106 hx hZ (C := "com/example/reach2/reach2/model/CodedColumn") (y := (⟨"com/example/reach2/reach2/model/CodedColumn", "set", "(IJ)V"⟩ : MethodName)) hown (hw _ (List.mem_of_getElem? (i := 27) rfl)) (hw _ (List.mem_of_getElem? (i := 28) rfl)) (hw _ (List.mem_of_getElem? (i := 30) rfl)) (hw _ (List.mem_of_getElem? (i := 29) rfl)) (hw _ (List.mem_of_getElem? (i := 2) rfl)) (hw _ (List.mem_of_getElem? (i := 31) rfl)) (by decide) (W := 0) (rest := []) (argsL := [(.int (2 : Int32)), (.long zz)]) (a := b101) (rmSet l Z a0 hw [] b101 (2 : Int32) zz ac102 av102 al102 _ _ _ _ occ106 T106.heap n0 (by omega) A106 Fd106 Fv106 Fl106 Fc106 Vv106 Vl106 S106 hd109 ho109 hlk106 (by omega) (by omega) (by omega) (by omega) (by omega) (by omega) Vd106 (by omega) (by omega) (by omega) (by omega) (by decide)) (by decide) (by decide) (by decide) (by decide) rfl A106 own_pd3 rfl (g := (mkF m 95 #[own_jv q0, .second, own_jv q1, .second, own_jv q2, .second, own_jv q3, .second, iv p4, rv b101, own_jv q0, .second, own_jv yy, .second, own_jv zz, .second, own_jv ww, .second, iv (0 : Int32), .unset, .unset, .unset, .unset, .unset, .unset] [(.long zz), (.int (2 : Int32)), (.ref b101)])) rfl (by rw [hml]; rfl) rfl (by show 2 * 0 + _ ≤ _; exact Nat.le_of_eq rfl) (hb hby at_95)
          obtain ⟨r108, d108, V108, K108f, occ108, rfl, N108q, K108, A108, Fc108, Fd108, Fv108, Fl108, Vc108, Vv108, Vl108, hcp108, hoc108, hlk108, S108⟩ := Q108
          have z108 := K108.1
          obtain ⟨ra108, rb108, rc108, rd108, re108, rf108⟩ := hcp108
          have rn108 := own_nat ra108
          have Vd108 : own_Arf Z T108.heap ac102 .byte 3 (fun k => .int ((fun k => if k = 2 then (nar .byte (r108.toInt8.toInt32)) else (fun k => if k = 1 then (nar .byte (r106.toInt8.toInt32)) else (fun k => if k = 0 then (nar .byte (r103.toInt8.toInt32)) else (fun _ => (0 : Int32)) k) k) k) k)) := Vc108
          have N108 := Fr.app N106 N108q
          refine own_st st108 ?_
          show own_Goes p e below s _ _ (T108.setTop (mkF m 98 #[own_jv q0, .second, own_jv q1, .second, own_jv q2, .second, own_jv q3, .second, iv p4, rv b101, own_jv q0, .second, own_jv yy, .second, own_jv zz, .second, own_jv ww, .second, iv (0 : Int32), .unset, .unset, .unset, .unset, .unset, .unset] []))
          refine own_st (fun _ k => XS.aload X108.here hx rfl (hb hby at_98) rfl rfl  k) ?_
          show own_Goes p e below s _ _ (T108.setTop (mkF m 100 #[own_jv q0, .second, own_jv q1, .second, own_jv q2, .second, own_jv q3, .second, iv p4, rv b101, own_jv q0, .second, own_jv yy, .second, own_jv zz, .second, own_jv ww, .second, iv (0 : Int32), .unset, .unset, .unset, .unset, .unset, .unset] [(.ref b101)]))
          refine own_st (fun _ k => XS.iload X108.here hx rfl (hb hby at_100) rfl  k) ?_
          show own_Goes p e below s _ _ (T108.setTop (mkF m 102 #[own_jv q0, .second, own_jv q1, .second, own_jv q2, .second, own_jv q3, .second, iv p4, rv b101, own_jv q0, .second, own_jv yy, .second, own_jv zz, .second, own_jv ww, .second, iv (0 : Int32), .unset, .unset, .unset, .unset, .unset, .unset] [(.int (0 : Int32)), (.ref b101)]))
          refine own_st (fun _ k => XS.lload X108.here hx rfl (hb hby at_102) rfl  k) ?_
          show own_Goes p e below s _ _ (T108.setTop (mkF m 104 #[own_jv q0, .second, own_jv q1, .second, own_jv q2, .second, own_jv q3, .second, iv p4, rv b101, own_jv q0, .second, own_jv yy, .second, own_jv zz, .second, own_jv ww, .second, iv (0 : Int32), .unset, .unset, .unset, .unset, .unset, .unset] [(.long ww), (.int (0 : Int32)), (.ref b101)]))
          have ho111 : occ108.length ≤ 3 := by omega
          have hd111 : 0 ≤ d108.toInt ∧ d108.toInt ≤ 100 := by omega
          obtain ⟨v110, T110, L110, X110, Q110, st110⟩ := own_callV X108 hx hZ (C := "com/example/reach2/reach2/model/CodedColumn") (y := (⟨"com/example/reach2/reach2/model/CodedColumn", "set", "(IJ)V"⟩ : MethodName)) hown (hw _ (List.mem_of_getElem? (i := 27) rfl)) (hw _ (List.mem_of_getElem? (i := 28) rfl)) (hw _ (List.mem_of_getElem? (i := 30) rfl)) (hw _ (List.mem_of_getElem? (i := 29) rfl)) (hw _ (List.mem_of_getElem? (i := 2) rfl)) (hw _ (List.mem_of_getElem? (i := 31) rfl)) (by decide) (W := 0) (rest := []) (argsL := [(.int (0 : Int32)), (.long ww)]) (a := b101) (rmSet l Z a0 hw [] b101 (0 : Int32) ww ac102 av102 al102 _ _ _ _ occ108 T108.heap n0 (by omega) A108 Fd108 Fv108 Fl108 Fc108 Vv108 Vl108 S108 hd111 ho111 hlk108 (by omega) (by omega) (by omega) (by omega) (by omega) (by omega) Vd108 (by omega) (by omega) (by omega) (by omega) (by decide)) (by decide) (by decide) (by decide) (by decide) rfl A108 own_pd3 rfl (g := (mkF m 104 #[own_jv q0, .second, own_jv q1, .second, own_jv q2, .second, own_jv q3, .second, iv p4, rv b101, own_jv q0, .second, own_jv yy, .second, own_jv zz, .second, own_jv ww, .second, iv (0 : Int32), .unset, .unset, .unset, .unset, .unset, .unset] [(.long ww), (.int (0 : Int32)), (.ref b101)])) rfl (by rw [hml]; rfl) rfl (by show 2 * 0 + _ ≤ _; exact Nat.le_of_eq rfl) (hb hby at_104)
          obtain ⟨r110, d110, V110, K110f, occ110, rfl, N110q, K110, A110, Fc110, Fd110, Fv110, Fl110, Vc110, Vv110, Vl110, hcp110, hoc110, hlk110, S110⟩ := Q110
          have z110 := K110.1
          obtain ⟨ra110, rb110, rc110, rd110, re110, rf110⟩ := hcp110
          have rn110 := own_nat ra110
          have Vd110 : own_Arf Z T110.heap ac102 .byte 3 (fun k => .int ((fun k => if k = 0 then (nar .byte (r110.toInt8.toInt32)) else (fun k => if k = 2 then (nar .byte (r108.toInt8.toInt32)) else (fun k => if k = 1 then (nar .byte (r106.toInt8.toInt32)) else (fun k => if k = 0 then (nar .byte (r103.toInt8.toInt32)) else (fun _ => (0 : Int32)) k) k) k) k) k)) := Vc110
          have N110 := Fr.app N108 N110q
          refine own_st st110 ?_
          show own_Goes p e below s _ _ (T110.setTop (mkF m 107 #[own_jv q0, .second, own_jv q1, .second, own_jv q2, .second, own_jv q3, .second, iv p4, rv b101, own_jv q0, .second, own_jv yy, .second, own_jv zz, .second, own_jv ww, .second, iv (0 : Int32), .unset, .unset, .unset, .unset, .unset, .unset] []))
          refine own_st (fun _ k => XS.iload X110.here hx rfl (hb hby at_107) rfl  k) ?_
          show own_Goes p e below s _ _ (T110.setTop (mkF m 109 #[own_jv q0, .second, own_jv q1, .second, own_jv q2, .second, own_jv q3, .second, iv p4, rv b101, own_jv q0, .second, own_jv yy, .second, own_jv zz, .second, own_jv ww, .second, iv (0 : Int32), .unset, .unset, .unset, .unset, .unset, .unset] [(.int (0 : Int32))]))
          refine own_st (fun _ k => XS.ifNo X110.here hx rfl (hb hby at_109) rfl ((if0 _ _).trans (teq (by decide : (0 : Int32) = (0 : Int32))).2) k) ?_
          show own_Goes p e below s _ _ (T110.setTop (mkF m 112 #[own_jv q0, .second, own_jv q1, .second, own_jv q2, .second, own_jv q3, .second, iv p4, rv b101, own_jv q0, .second, own_jv yy, .second, own_jv zz, .second, own_jv ww, .second, iv (0 : Int32), .unset, .unset, .unset, .unset, .unset, .unset] []))
          refine own_st (fun _ k => XS.lload X110.here hx rfl (hb hby at_112) rfl  k) ?_
          show own_Goes p e below s _ _ (T110.setTop (mkF m 114 #[own_jv q0, .second, own_jv q1, .second, own_jv q2, .second, own_jv q3, .second, iv p4, rv b101, own_jv q0, .second, own_jv yy, .second, own_jv zz, .second, own_jv ww, .second, iv (0 : Int32), .unset, .unset, .unset, .unset, .unset, .unset] [(.long ww)]))
          refine own_st (fun _ k => XS.goto X110.here hx rfl (pc0 := 114) (pc' := 119) rfl (hb hby at_114) (by decide) (by decide) k) ?_
          show own_Goes p e below s _ _ (T110.setTop (mkF m 119 #[own_jv q0, .second, own_jv q1, .second, own_jv q2, .second, own_jv q3, .second, iv p4, rv b101, own_jv q0, .second, own_jv yy, .second, own_jv zz, .second, own_jv ww, .second, iv (0 : Int32), .unset, .unset, .unset, .unset, .unset, .unset] [(.long ww)]))
          refine own_st (fun _ k => XS.lstore X110.here hx rfl (hb hby at_119) rfl (l' := #[own_jv q0, .second, own_jv q1, .second, own_jv q2, .second, own_jv q3, .second, iv p4, rv b101, own_jv q0, .second, own_jv yy, .second, own_jv zz, .second, own_jv ww, .second, iv (0 : Int32), own_jv ww, .second, .unset, .unset, .unset, .unset]) rfl k) ?_
          show own_Goes p e below s _ _ (T110.setTop (mkF m 121 #[own_jv q0, .second, own_jv q1, .second, own_jv q2, .second, own_jv q3, .second, iv p4, rv b101, own_jv q0, .second, own_jv yy, .second, own_jv zz, .second, own_jv ww, .second, iv (0 : Int32), own_jv ww, .second, .unset, .unset, .unset, .unset] []))
          refine own_st (fun _ k => XS.iload X110.here hx rfl (hb hby at_121) rfl  k) ?_
          show own_Goes p e below s _ _ (T110.setTop (mkF m 123 #[own_jv q0, .second, own_jv q1, .second, own_jv q2, .second, own_jv q3, .second, iv p4, rv b101, own_jv q0, .second, own_jv yy, .second, own_jv zz, .second, own_jv ww, .second, iv (0 : Int32), own_jv ww, .second, .unset, .unset, .unset, .unset] [(.int (0 : Int32))]))
          refine own_st (fun _ k => XS.iconst X110.here hx rfl (hb hby at_123) k) ?_
          show own_Goes p e below s _ _ (T110.setTop (mkF m 124 #[own_jv q0, .second, own_jv q1, .second, own_jv q2, .second, own_jv q3, .second, iv p4, rv b101, own_jv q0, .second, own_jv yy, .second, own_jv zz, .second, own_jv ww, .second, iv (0 : Int32), own_jv ww, .second, .unset, .unset, .unset, .unset] [(.int (1 : Int32)), (.int (0 : Int32))]))
          refine own_st (fun _ k => XS.icmpYes X110.here hx rfl (pc0 := 124) (pc' := 132) rfl (hb hby at_124) rfl (feq (by decide : ¬ ((0 : Int32) = (1 : Int32)))).2 (by decide) (by decide) k) ?_
          show own_Goes p e below s _ _ (T110.setTop (mkF m 132 #[own_jv q0, .second, own_jv q1, .second, own_jv q2, .second, own_jv q3, .second, iv p4, rv b101, own_jv q0, .second, own_jv yy, .second, own_jv zz, .second, own_jv ww, .second, iv (0 : Int32), own_jv ww, .second, .unset, .unset, .unset, .unset] []))
          refine own_st (fun _ k => XS.lload X110.here hx rfl (hb hby at_132) rfl  k) ?_
          show own_Goes p e below s _ _ (T110.setTop (mkF m 134 #[own_jv q0, .second, own_jv q1, .second, own_jv q2, .second, own_jv q3, .second, iv p4, rv b101, own_jv q0, .second, own_jv yy, .second, own_jv zz, .second, own_jv ww, .second, iv (0 : Int32), own_jv ww, .second, .unset, .unset, .unset, .unset] [(.long yy)]))
          refine own_st (fun _ k => XS.lstore X110.here hx rfl (hb hby at_134) rfl (l' := #[own_jv q0, .second, own_jv q1, .second, own_jv q2, .second, own_jv q3, .second, iv p4, rv b101, own_jv q0, .second, own_jv yy, .second, own_jv zz, .second, own_jv ww, .second, iv (0 : Int32), own_jv ww, .second, own_jv yy, .second, .unset, .unset]) rfl k) ?_
          show own_Goes p e below s _ _ (T110.setTop (mkF m 136 #[own_jv q0, .second, own_jv q1, .second, own_jv q2, .second, own_jv q3, .second, iv p4, rv b101, own_jv q0, .second, own_jv yy, .second, own_jv zz, .second, own_jv ww, .second, iv (0 : Int32), own_jv ww, .second, own_jv yy, .second, .unset, .unset] []))
          refine own_st (fun _ k => XS.iload X110.here hx rfl (hb hby at_136) rfl  k) ?_
          show own_Goes p e below s _ _ (T110.setTop (mkF m 138 #[own_jv q0, .second, own_jv q1, .second, own_jv q2, .second, own_jv q3, .second, iv p4, rv b101, own_jv q0, .second, own_jv yy, .second, own_jv zz, .second, own_jv ww, .second, iv (0 : Int32), own_jv ww, .second, own_jv yy, .second, .unset, .unset] [(.int (0 : Int32))]))
          refine own_st (fun _ k => XS.iconst X110.here hx rfl (hb hby at_138) k) ?_
          show own_Goes p e below s _ _ (T110.setTop (mkF m 139 #[own_jv q0, .second, own_jv q1, .second, own_jv q2, .second, own_jv q3, .second, iv p4, rv b101, own_jv q0, .second, own_jv yy, .second, own_jv zz, .second, own_jv ww, .second, iv (0 : Int32), own_jv ww, .second, own_jv yy, .second, .unset, .unset] [(.int (2 : Int32)), (.int (0 : Int32))]))
          refine own_st (fun _ k => XS.icmpYes X110.here hx rfl (pc0 := 139) (pc' := 147) rfl (hb hby at_139) rfl (feq (by decide : ¬ ((0 : Int32) = (2 : Int32)))).2 (by decide) (by decide) k) ?_
          show own_Goes p e below s _ _ (T110.setTop (mkF m 147 #[own_jv q0, .second, own_jv q1, .second, own_jv q2, .second, own_jv q3, .second, iv p4, rv b101, own_jv q0, .second, own_jv yy, .second, own_jv zz, .second, own_jv ww, .second, iv (0 : Int32), own_jv ww, .second, own_jv yy, .second, .unset, .unset] []))
          refine own_st (fun _ k => XS.lload X110.here hx rfl (hb hby at_147) rfl  k) ?_
          show own_Goes p e below s _ _ (T110.setTop (mkF m 149 #[own_jv q0, .second, own_jv q1, .second, own_jv q2, .second, own_jv q3, .second, iv p4, rv b101, own_jv q0, .second, own_jv yy, .second, own_jv zz, .second, own_jv ww, .second, iv (0 : Int32), own_jv ww, .second, own_jv yy, .second, .unset, .unset] [(.long zz)]))
          refine own_st (fun _ k => XS.lstore X110.here hx rfl (hb hby at_149) rfl (l' := #[own_jv q0, .second, own_jv q1, .second, own_jv q2, .second, own_jv q3, .second, iv p4, rv b101, own_jv q0, .second, own_jv yy, .second, own_jv zz, .second, own_jv ww, .second, iv (0 : Int32), own_jv ww, .second, own_jv yy, .second, own_jv zz, .second]) rfl k) ?_
          show own_Goes p e below s _ _ (T110.setTop (mkF m 151 #[own_jv q0, .second, own_jv q1, .second, own_jv q2, .second, own_jv q3, .second, iv p4, rv b101, own_jv q0, .second, own_jv yy, .second, own_jv zz, .second, own_jv ww, .second, iv (0 : Int32), own_jv ww, .second, own_jv yy, .second, own_jv zz, .second] []))
          refine own_st (fun _ k => XS.aload X110.here hx rfl (hb hby at_151) rfl rfl  k) ?_
          show own_Goes p e below s _ _ (T110.setTop (mkF m 153 #[own_jv q0, .second, own_jv q1, .second, own_jv q2, .second, own_jv q3, .second, iv p4, rv b101, own_jv q0, .second, own_jv yy, .second, own_jv zz, .second, own_jv ww, .second, iv (0 : Int32), own_jv ww, .second, own_jv yy, .second, own_jv zz, .second] [(.ref b101)]))
          refine own_st (fun _ k => XS.iconst X110.here hx rfl (hb hby at_153) k) ?_
          show own_Goes p e below s _ _ (T110.setTop (mkF m 154 #[own_jv q0, .second, own_jv q1, .second, own_jv q2, .second, own_jv q3, .second, iv p4, rv b101, own_jv q0, .second, own_jv yy, .second, own_jv zz, .second, own_jv ww, .second, iv (0 : Int32), own_jv ww, .second, own_jv yy, .second, own_jv zz, .second] [(.int (0 : Int32)), (.ref b101)]))
          obtain ⟨v112, T112, L112, X112, Q112, st112⟩ := own_callV X110 hx hZ (C := "com/example/reach2/reach2/model/CodedColumn") (y := (⟨"com/example/reach2/reach2/model/CodedColumn", "get", "(I)J"⟩ : MethodName)) hown (hw _ (List.mem_of_getElem? (i := 39) rfl)) (hw _ (List.mem_of_getElem? (i := 40) rfl)) (hw _ (List.mem_of_getElem? (i := 42) rfl)) (hw _ (List.mem_of_getElem? (i := 41) rfl)) (hw _ (List.mem_of_getElem? (i := 2) rfl)) (hw _ (List.mem_of_getElem? (i := 43) rfl)) (by decide) (W := 0) (rest := []) (argsL := [(.int (0 : Int32))]) (a := b101) (rmGet l Z a0 hw [] b101 (0 : Int32) _ _ _ _ T110.heap n0 (by omega) Fc110 Fv110 Vd110 Vv110 (by decide)) (by decide) (by decide) (by decide) (by decide) rfl A110 own_pd4 rfl (g := (mkF m 154 #[own_jv q0, .second, own_jv q1, .second, own_jv q2, .second, own_jv q3, .second, iv p4, rv b101, own_jv q0, .second, own_jv yy, .second, own_jv zz, .second, own_jv ww, .second, iv (0 : Int32), own_jv ww, .second, own_jv yy, .second, own_jv zz, .second] [(.int (0 : Int32)), (.ref b101)])) rfl (by rw [hml]; rfl) rfl (by show 2 * 0 + _ ≤ _; exact Nat.le_of_eq rfl) (hb hby at_154)
          obtain ⟨g112, rfl, hg112, N112q, e112⟩ := Q112
          obtain rfl : ww = g112 := (hg112.trans (own_at (by omega) re110)).symm
          have N112 := Fr.app N110 N112q
          refine own_st st112 ?_
          show own_Goes p e below s _ _ (T112.setTop (mkF m 157 #[own_jv q0, .second, own_jv q1, .second, own_jv q2, .second, own_jv q3, .second, iv p4, rv b101, own_jv q0, .second, own_jv yy, .second, own_jv zz, .second, own_jv ww, .second, iv (0 : Int32), own_jv ww, .second, own_jv yy, .second, own_jv zz, .second] [(.long ww)]))
          refine own_st (fun _ k => XS.lload X112.here hx rfl (hb hby at_157) rfl  k) ?_
          show own_Goes p e below s _ _ (T112.setTop (mkF m 159 #[own_jv q0, .second, own_jv q1, .second, own_jv q2, .second, own_jv q3, .second, iv p4, rv b101, own_jv q0, .second, own_jv yy, .second, own_jv zz, .second, own_jv ww, .second, iv (0 : Int32), own_jv ww, .second, own_jv yy, .second, own_jv zz, .second] [(.long ww), (.long ww)]))
          refine own_st (fun _ k => XS.lcmp X112.here hx rfl (hb hby at_159) rfl k) ?_
          show own_Goes p e below s _ _ (T112.setTop (mkF m 160 #[own_jv q0, .second, own_jv q1, .second, own_jv q2, .second, own_jv q3, .second, iv p4, rv b101, own_jv q0, .second, own_jv yy, .second, own_jv zz, .second, own_jv ww, .second, iv (0 : Int32), own_jv ww, .second, own_jv yy, .second, own_jv zz, .second] [(.int (lcmpW ww ww))]))
          refine own_st (fun _ k => XS.ifNo X112.here hx rfl (hb hby at_160) rfl ((if0 _ _).trans (teq ((lw_eq _ _).mpr (rfl : ww = ww))).2) k) ?_
          show own_Goes p e below s _ _ (T112.setTop (mkF m 163 #[own_jv q0, .second, own_jv q1, .second, own_jv q2, .second, own_jv q3, .second, iv p4, rv b101, own_jv q0, .second, own_jv yy, .second, own_jv zz, .second, own_jv ww, .second, iv (0 : Int32), own_jv ww, .second, own_jv yy, .second, own_jv zz, .second] []))
          refine own_st (fun _ k => XS.aload X112.here hx rfl (hb hby at_163) rfl rfl  k) ?_
          show own_Goes p e below s _ _ (T112.setTop (mkF m 165 #[own_jv q0, .second, own_jv q1, .second, own_jv q2, .second, own_jv q3, .second, iv p4, rv b101, own_jv q0, .second, own_jv yy, .second, own_jv zz, .second, own_jv ww, .second, iv (0 : Int32), own_jv ww, .second, own_jv yy, .second, own_jv zz, .second] [(.ref b101)]))
          refine own_st (fun _ k => XS.iconst X112.here hx rfl (hb hby at_165) k) ?_
          show own_Goes p e below s _ _ (T112.setTop (mkF m 166 #[own_jv q0, .second, own_jv q1, .second, own_jv q2, .second, own_jv q3, .second, iv p4, rv b101, own_jv q0, .second, own_jv yy, .second, own_jv zz, .second, own_jv ww, .second, iv (0 : Int32), own_jv ww, .second, own_jv yy, .second, own_jv zz, .second] [(.int (1 : Int32)), (.ref b101)]))
          obtain ⟨v113, T113, L113, X113, Q113, st113⟩ := own_callV X112 hx hZ (C := "com/example/reach2/reach2/model/CodedColumn") (y := (⟨"com/example/reach2/reach2/model/CodedColumn", "get", "(I)J"⟩ : MethodName)) hown (hw _ (List.mem_of_getElem? (i := 39) rfl)) (hw _ (List.mem_of_getElem? (i := 40) rfl)) (hw _ (List.mem_of_getElem? (i := 42) rfl)) (hw _ (List.mem_of_getElem? (i := 41) rfl)) (hw _ (List.mem_of_getElem? (i := 2) rfl)) (hw _ (List.mem_of_getElem? (i := 43) rfl)) (by decide) (W := 0) (rest := []) (argsL := [(.int (1 : Int32))]) (a := b101) (rmGet l Z a0 hw [] b101 (1 : Int32) _ _ _ _ T110.heap n0 (by omega) Fc110 Fv110 Vd110 Vv110 (by decide)) (by decide) (by decide) (by decide) (by decide) e112 A110 own_pd4 rfl (g := (mkF m 166 #[own_jv q0, .second, own_jv q1, .second, own_jv q2, .second, own_jv q3, .second, iv p4, rv b101, own_jv q0, .second, own_jv yy, .second, own_jv zz, .second, own_jv ww, .second, iv (0 : Int32), own_jv ww, .second, own_jv yy, .second, own_jv zz, .second] [(.int (1 : Int32)), (.ref b101)])) rfl (by rw [hml]; rfl) rfl (by show 2 * 0 + _ ≤ _; exact Nat.le_of_eq rfl) (hb hby at_166)
          obtain ⟨g113, rfl, hg113, N113q, e113⟩ := Q113
          obtain rfl : yy = g113 := (hg113.trans (own_at (by omega) ((rf110 _ (by omega)).trans ((rf108 _ (by omega)).trans re106)))).symm
          have N113 := Fr.app N112 N113q
          refine own_st st113 ?_
          show own_Goes p e below s _ _ (T113.setTop (mkF m 169 #[own_jv q0, .second, own_jv q1, .second, own_jv q2, .second, own_jv q3, .second, iv p4, rv b101, own_jv q0, .second, own_jv yy, .second, own_jv zz, .second, own_jv ww, .second, iv (0 : Int32), own_jv ww, .second, own_jv yy, .second, own_jv zz, .second] [(.long yy)]))
          refine own_st (fun _ k => XS.lload X113.here hx rfl (hb hby at_169) rfl  k) ?_
          show own_Goes p e below s _ _ (T113.setTop (mkF m 171 #[own_jv q0, .second, own_jv q1, .second, own_jv q2, .second, own_jv q3, .second, iv p4, rv b101, own_jv q0, .second, own_jv yy, .second, own_jv zz, .second, own_jv ww, .second, iv (0 : Int32), own_jv ww, .second, own_jv yy, .second, own_jv zz, .second] [(.long yy), (.long yy)]))
          refine own_st (fun _ k => XS.lcmp X113.here hx rfl (hb hby at_171) rfl k) ?_
          show own_Goes p e below s _ _ (T113.setTop (mkF m 172 #[own_jv q0, .second, own_jv q1, .second, own_jv q2, .second, own_jv q3, .second, iv p4, rv b101, own_jv q0, .second, own_jv yy, .second, own_jv zz, .second, own_jv ww, .second, iv (0 : Int32), own_jv ww, .second, own_jv yy, .second, own_jv zz, .second] [(.int (lcmpW yy yy))]))
          refine own_st (fun _ k => XS.ifNo X113.here hx rfl (hb hby at_172) rfl ((if0 _ _).trans (teq ((lw_eq _ _).mpr (rfl : yy = yy))).2) k) ?_
          show own_Goes p e below s _ _ (T113.setTop (mkF m 175 #[own_jv q0, .second, own_jv q1, .second, own_jv q2, .second, own_jv q3, .second, iv p4, rv b101, own_jv q0, .second, own_jv yy, .second, own_jv zz, .second, own_jv ww, .second, iv (0 : Int32), own_jv ww, .second, own_jv yy, .second, own_jv zz, .second] []))
          refine own_st (fun _ k => XS.aload X113.here hx rfl (hb hby at_175) rfl rfl  k) ?_
          show own_Goes p e below s _ _ (T113.setTop (mkF m 177 #[own_jv q0, .second, own_jv q1, .second, own_jv q2, .second, own_jv q3, .second, iv p4, rv b101, own_jv q0, .second, own_jv yy, .second, own_jv zz, .second, own_jv ww, .second, iv (0 : Int32), own_jv ww, .second, own_jv yy, .second, own_jv zz, .second] [(.ref b101)]))
          refine own_st (fun _ k => XS.iconst X113.here hx rfl (hb hby at_177) k) ?_
          show own_Goes p e below s _ _ (T113.setTop (mkF m 178 #[own_jv q0, .second, own_jv q1, .second, own_jv q2, .second, own_jv q3, .second, iv p4, rv b101, own_jv q0, .second, own_jv yy, .second, own_jv zz, .second, own_jv ww, .second, iv (0 : Int32), own_jv ww, .second, own_jv yy, .second, own_jv zz, .second] [(.int (2 : Int32)), (.ref b101)]))
          obtain ⟨v114, T114, L114, X114, Q114, st114⟩ := own_callV X113 hx hZ (C := "com/example/reach2/reach2/model/CodedColumn") (y := (⟨"com/example/reach2/reach2/model/CodedColumn", "get", "(I)J"⟩ : MethodName)) hown (hw _ (List.mem_of_getElem? (i := 39) rfl)) (hw _ (List.mem_of_getElem? (i := 40) rfl)) (hw _ (List.mem_of_getElem? (i := 42) rfl)) (hw _ (List.mem_of_getElem? (i := 41) rfl)) (hw _ (List.mem_of_getElem? (i := 2) rfl)) (hw _ (List.mem_of_getElem? (i := 43) rfl)) (by decide) (W := 0) (rest := []) (argsL := [(.int (2 : Int32))]) (a := b101) (rmGet l Z a0 hw [] b101 (2 : Int32) _ _ _ _ T110.heap n0 (by omega) Fc110 Fv110 Vd110 Vv110 (by decide)) (by decide) (by decide) (by decide) (by decide) e113 A110 own_pd4 rfl (g := (mkF m 178 #[own_jv q0, .second, own_jv q1, .second, own_jv q2, .second, own_jv q3, .second, iv p4, rv b101, own_jv q0, .second, own_jv yy, .second, own_jv zz, .second, own_jv ww, .second, iv (0 : Int32), own_jv ww, .second, own_jv yy, .second, own_jv zz, .second] [(.int (2 : Int32)), (.ref b101)])) rfl (by rw [hml]; rfl) rfl (by show 2 * 0 + _ ≤ _; exact Nat.le_of_eq rfl) (hb hby at_178)
          obtain ⟨g114, rfl, hg114, N114q, e114⟩ := Q114
          obtain rfl : zz = g114 := (hg114.trans (own_at (by omega) ((rf110 _ (by omega)).trans re108))).symm
          have N114 := Fr.app N113 N114q
          refine own_st st114 ?_
          show own_Goes p e below s _ _ (T114.setTop (mkF m 181 #[own_jv q0, .second, own_jv q1, .second, own_jv q2, .second, own_jv q3, .second, iv p4, rv b101, own_jv q0, .second, own_jv yy, .second, own_jv zz, .second, own_jv ww, .second, iv (0 : Int32), own_jv ww, .second, own_jv yy, .second, own_jv zz, .second] [(.long zz)]))
          refine own_st (fun _ k => XS.lload X114.here hx rfl (hb hby at_181) rfl  k) ?_
          show own_Goes p e below s _ _ (T114.setTop (mkF m 183 #[own_jv q0, .second, own_jv q1, .second, own_jv q2, .second, own_jv q3, .second, iv p4, rv b101, own_jv q0, .second, own_jv yy, .second, own_jv zz, .second, own_jv ww, .second, iv (0 : Int32), own_jv ww, .second, own_jv yy, .second, own_jv zz, .second] [(.long zz), (.long zz)]))
          refine own_st (fun _ k => XS.lcmp X114.here hx rfl (hb hby at_183) rfl k) ?_
          show own_Goes p e below s _ _ (T114.setTop (mkF m 184 #[own_jv q0, .second, own_jv q1, .second, own_jv q2, .second, own_jv q3, .second, iv p4, rv b101, own_jv q0, .second, own_jv yy, .second, own_jv zz, .second, own_jv ww, .second, iv (0 : Int32), own_jv ww, .second, own_jv yy, .second, own_jv zz, .second] [(.int (lcmpW zz zz))]))
          refine own_st (fun _ k => XS.ifNo X114.here hx rfl (hb hby at_184) rfl ((if0 _ _).trans (teq ((lw_eq _ _).mpr (rfl : zz = zz))).2) k) ?_
          show own_Goes p e below s _ _ (T114.setTop (mkF m 187 #[own_jv q0, .second, own_jv q1, .second, own_jv q2, .second, own_jv q3, .second, iv p4, rv b101, own_jv q0, .second, own_jv yy, .second, own_jv zz, .second, own_jv ww, .second, iv (0 : Int32), own_jv ww, .second, own_jv yy, .second, own_jv zz, .second] []))
          refine own_st (fun _ k => XS.aload X114.here hx rfl (hb hby at_187) rfl rfl  k) ?_
          show own_Goes p e below s _ _ (T114.setTop (mkF m 189 #[own_jv q0, .second, own_jv q1, .second, own_jv q2, .second, own_jv q3, .second, iv p4, rv b101, own_jv q0, .second, own_jv yy, .second, own_jv zz, .second, own_jv ww, .second, iv (0 : Int32), own_jv ww, .second, own_jv yy, .second, own_jv zz, .second] [(.ref b101)]))
          obtain ⟨v115, T115, L115, X115, Q115, st115⟩ := own_callV X114 hx hZ (C := "com/example/reach2/reach2/model/CodedColumn") (y := (⟨"com/example/reach2/reach2/model/CodedColumn", "length", "()I"⟩ : MethodName)) hown (hw _ (List.mem_of_getElem? (i := 44) rfl)) (hw _ (List.mem_of_getElem? (i := 45) rfl)) (hw _ (List.mem_of_getElem? (i := 47) rfl)) (hw _ (List.mem_of_getElem? (i := 46) rfl)) (hw _ (List.mem_of_getElem? (i := 2) rfl)) (hw _ (List.mem_of_getElem? (i := 48) rfl)) (by decide) (W := 0) (rest := []) (argsL := []) (a := b101) (rmLen l Z a0 hw [] b101 _ _ T110.heap n0 (by omega) Fc110 Vd110) (by decide) (by decide) (by decide) (by decide) e114 A110 own_pd5 rfl (g := (mkF m 189 #[own_jv q0, .second, own_jv q1, .second, own_jv q2, .second, own_jv q3, .second, iv p4, rv b101, own_jv q0, .second, own_jv yy, .second, own_jv zz, .second, own_jv ww, .second, iv (0 : Int32), own_jv ww, .second, own_jv yy, .second, own_jv zz, .second] [(.ref b101)])) rfl (by rw [hml]; rfl) rfl (by show 2 * 0 + _ ≤ _; exact Nat.le_of_eq rfl) (hb hby at_189)
          obtain ⟨rfl, N115q, e115⟩ := Q115
          have N115 := Fr.app N114 N115q
          refine own_st st115 ?_
          show own_Goes p e below s _ _ (T115.setTop (mkF m 192 #[own_jv q0, .second, own_jv q1, .second, own_jv q2, .second, own_jv q3, .second, iv p4, rv b101, own_jv q0, .second, own_jv yy, .second, own_jv zz, .second, own_jv ww, .second, iv (0 : Int32), own_jv ww, .second, own_jv yy, .second, own_jv zz, .second] [(.int (3 : Int32))]))
          refine own_st (fun _ k => XS.iconst X115.here hx rfl (hb hby at_192) k) ?_
          show own_Goes p e below s _ _ (T115.setTop (mkF m 193 #[own_jv q0, .second, own_jv q1, .second, own_jv q2, .second, own_jv q3, .second, iv p4, rv b101, own_jv q0, .second, own_jv yy, .second, own_jv zz, .second, own_jv ww, .second, iv (0 : Int32), own_jv ww, .second, own_jv yy, .second, own_jv zz, .second] [(.int (3 : Int32)), (.int (3 : Int32))]))
          refine own_st (fun _ k => XS.icmpNo X115.here hx rfl (hb hby at_193) rfl (teq (by decide : (3 : Int32) = (3 : Int32))).2 k) ?_
          show own_Goes p e below s _ _ (T115.setTop (mkF m 196 #[own_jv q0, .second, own_jv q1, .second, own_jv q2, .second, own_jv q3, .second, iv p4, rv b101, own_jv q0, .second, own_jv yy, .second, own_jv zz, .second, own_jv ww, .second, iv (0 : Int32), own_jv ww, .second, own_jv yy, .second, own_jv zz, .second] []))
          refine own_st (fun _ k => XS.iconst X115.here hx rfl (hb hby at_196) k) ?_
          show own_Goes p e below s _ _ (T115.setTop (mkF m 197 #[own_jv q0, .second, own_jv q1, .second, own_jv q2, .second, own_jv q3, .second, iv p4, rv b101, own_jv q0, .second, own_jv yy, .second, own_jv zz, .second, own_jv ww, .second, iv (0 : Int32), own_jv ww, .second, own_jv yy, .second, own_jv zz, .second] [(.int (1 : Int32))]))
          refine own_st (fun _ k => XS.goto X115.here hx rfl (pc0 := 197) (pc' := 201) rfl (hb hby at_197) (by decide) (by decide) k) ?_
          show own_Goes p e below s _ _ (T115.setTop (mkF m 201 #[own_jv q0, .second, own_jv q1, .second, own_jv q2, .second, own_jv q3, .second, iv p4, rv b101, own_jv q0, .second, own_jv yy, .second, own_jv zz, .second, own_jv ww, .second, iv (0 : Int32), own_jv ww, .second, own_jv yy, .second, own_jv zz, .second] [(.int (1 : Int32))]))
          exact own_retN X115 hx hlk (1 : Int32) hret (Or.inl rfl) rfl (hb hby at_201) (by decide) (by decide) ⟨rfl, N115⟩
        · show own_Goes p e below s _ _ (T102.setTop (mkF m 72 #[own_jv q0, .second, own_jv q1, .second, own_jv q2, .second, own_jv q3, .second, iv p4, rv b101, own_jv q0, .second, own_jv yy, .second, own_jv zz, .second, own_jv ww, .second, .unset, .unset, .unset, .unset, .unset, .unset, .unset] [(.int (1 : Int32))]))
          refine own_st (fun _ k => XS.istore X102.here hx rfl (hb hby at_72) rfl (l' := #[own_jv q0, .second, own_jv q1, .second, own_jv q2, .second, own_jv q3, .second, iv p4, rv b101, own_jv q0, .second, own_jv yy, .second, own_jv zz, .second, own_jv ww, .second, iv (1 : Int32), .unset, .unset, .unset, .unset, .unset, .unset]) rfl k) ?_
          show own_Goes p e below s _ _ (T102.setTop (mkF m 74 #[own_jv q0, .second, own_jv q1, .second, own_jv q2, .second, own_jv q3, .second, iv p4, rv b101, own_jv q0, .second, own_jv yy, .second, own_jv zz, .second, own_jv ww, .second, iv (1 : Int32), .unset, .unset, .unset, .unset, .unset, .unset] []))
          refine own_st (fun _ k => XS.aload X102.here hx rfl (hb hby at_74) rfl rfl  k) ?_
          show own_Goes p e below s _ _ (T102.setTop (mkF m 76 #[own_jv q0, .second, own_jv q1, .second, own_jv q2, .second, own_jv q3, .second, iv p4, rv b101, own_jv q0, .second, own_jv yy, .second, own_jv zz, .second, own_jv ww, .second, iv (1 : Int32), .unset, .unset, .unset, .unset, .unset, .unset] [(.ref b101)]))
          refine own_st (fun _ k => XS.iconst X102.here hx rfl (hb hby at_76) k) ?_
          show own_Goes p e below s _ _ (T102.setTop (mkF m 77 #[own_jv q0, .second, own_jv q1, .second, own_jv q2, .second, own_jv q3, .second, iv p4, rv b101, own_jv q0, .second, own_jv yy, .second, own_jv zz, .second, own_jv ww, .second, iv (1 : Int32), .unset, .unset, .unset, .unset, .unset, .unset] [(.int (0 : Int32)), (.ref b101)]))
          refine own_st (fun _ k => XS.lload X102.here hx rfl (hb hby at_77) rfl  k) ?_
          show own_Goes p e below s _ _ (T102.setTop (mkF m 79 #[own_jv q0, .second, own_jv q1, .second, own_jv q2, .second, own_jv q3, .second, iv p4, rv b101, own_jv q0, .second, own_jv yy, .second, own_jv zz, .second, own_jv ww, .second, iv (1 : Int32), .unset, .unset, .unset, .unset, .unset, .unset] [(.long q0), (.int (0 : Int32)), (.ref b101)]))
          have ho117 : ([] : List Nat).length ≤ 3 := by decide
          have hd117 : 0 ≤ (0 : Int32).toInt ∧ (0 : Int32).toInt ≤ 100 := by decide
          have f118 := (own_sta_keep (S1.ext E101) K102 (own_pl1 A101))
          obtain ⟨v116, T116, L116, X116, Q116, st116⟩ := own_callV X102 hx hZ (C := "com/example/reach2/reach2/model/CodedColumn") (y := (⟨"com/example/reach2/reach2/model/CodedColumn", "set", "(IJ)V"⟩ : MethodName)) hown (hw _ (List.mem_of_getElem? (i := 27) rfl)) (hw _ (List.mem_of_getElem? (i := 28) rfl)) (hw _ (List.mem_of_getElem? (i := 30) rfl)) (hw _ (List.mem_of_getElem? (i := 29) rfl)) (hw _ (List.mem_of_getElem? (i := 2) rfl)) (hw _ (List.mem_of_getElem? (i := 31) rfl)) (by decide) (W := 0) (rest := []) (argsL := [(.int (0 : Int32)), (.long q0)]) (a := b101) (rmSet l Z a0 hw [] b101 (0 : Int32) q0 ac102 av102 al102 _ _ _ _ ([] : List Nat) T102.heap n0 (by omega) A102 F102_distinct F102_values F102_lookup F102_codes Vv102 Vl102 f118 hd117 ho117 (own_LK0 (0 : Int32) (by decide)) (by omega) (by omega) (by omega) (by omega) (by omega) (by omega) Vc102 (by omega) (by omega) (by omega) (by omega) (by decide)) (by decide) (by decide) (by decide) (by decide) rfl A102 own_pd3 rfl (g := (mkF m 79 #[own_jv q0, .second, own_jv q1, .second, own_jv q2, .second, own_jv q3, .second, iv p4, rv b101, own_jv q0, .second, own_jv yy, .second, own_jv zz, .second, own_jv ww, .second, iv (1 : Int32), .unset, .unset, .unset, .unset, .unset, .unset] [(.long q0), (.int (0 : Int32)), (.ref b101)])) rfl (by rw [hml]; rfl) rfl (by show 2 * 0 + _ ≤ _; exact Nat.le_of_eq rfl) (hb hby at_79)
          obtain ⟨r116, d116, V116, K116f, occ116, rfl, N116q, K116, A116, Fc116, Fd116, Fv116, Fl116, Vc116, Vv116, Vl116, hcp116, hoc116, hlk116, S116⟩ := Q116
          have z116 := K116.1
          obtain ⟨ra116, rb116, rc116, rd116, re116, rf116⟩ := hcp116
          have rn116 := own_nat ra116
          have Vd116 : own_Arf Z T116.heap ac102 .byte 3 (fun k => .int ((fun k => if k = 0 then (nar .byte (r116.toInt8.toInt32)) else (fun _ => (0 : Int32)) k) k)) := Vc116
          have ho116' : occ116.length ≤ 1 := hoc116
          have rd116' : d116.toInt ≤ 1 := rd116
          have rc116' : 0 ≤ d116.toInt := rc116
          have N116 := Fr.app N102 N116q
          refine own_st st116 ?_
          show own_Goes p e below s _ _ (T116.setTop (mkF m 82 #[own_jv q0, .second, own_jv q1, .second, own_jv q2, .second, own_jv q3, .second, iv p4, rv b101, own_jv q0, .second, own_jv yy, .second, own_jv zz, .second, own_jv ww, .second, iv (1 : Int32), .unset, .unset, .unset, .unset, .unset, .unset] []))
          refine own_st (fun _ k => XS.aload X116.here hx rfl (hb hby at_82) rfl rfl  k) ?_
          show own_Goes p e below s _ _ (T116.setTop (mkF m 84 #[own_jv q0, .second, own_jv q1, .second, own_jv q2, .second, own_jv q3, .second, iv p4, rv b101, own_jv q0, .second, own_jv yy, .second, own_jv zz, .second, own_jv ww, .second, iv (1 : Int32), .unset, .unset, .unset, .unset, .unset, .unset] [(.ref b101)]))
          refine own_st (fun _ k => XS.iconst X116.here hx rfl (hb hby at_84) k) ?_
          show own_Goes p e below s _ _ (T116.setTop (mkF m 85 #[own_jv q0, .second, own_jv q1, .second, own_jv q2, .second, own_jv q3, .second, iv p4, rv b101, own_jv q0, .second, own_jv yy, .second, own_jv zz, .second, own_jv ww, .second, iv (1 : Int32), .unset, .unset, .unset, .unset, .unset, .unset] [(.int (1 : Int32)), (.ref b101)]))
          refine own_st (fun _ k => XS.lload X116.here hx rfl (hb hby at_85) rfl  k) ?_
          show own_Goes p e below s _ _ (T116.setTop (mkF m 87 #[own_jv q0, .second, own_jv q1, .second, own_jv q2, .second, own_jv q3, .second, iv p4, rv b101, own_jv q0, .second, own_jv yy, .second, own_jv zz, .second, own_jv ww, .second, iv (1 : Int32), .unset, .unset, .unset, .unset, .unset, .unset] [(.long yy), (.int (1 : Int32)), (.ref b101)]))
          have ho120 : occ116.length ≤ 3 := by omega
          have hd120 : 0 ≤ d116.toInt ∧ d116.toInt ≤ 100 := by omega
          obtain ⟨v119, T119, L119, X119, Q119, st119⟩ := own_callV X116 hx hZ (C := "com/example/reach2/reach2/model/CodedColumn") (y := (⟨"com/example/reach2/reach2/model/CodedColumn", "set", "(IJ)V"⟩ : MethodName)) hown (hw _ (List.mem_of_getElem? (i := 27) rfl)) (hw _ (List.mem_of_getElem? (i := 28) rfl)) (hw _ (List.mem_of_getElem? (i := 30) rfl)) (hw _ (List.mem_of_getElem? (i := 29) rfl)) (hw _ (List.mem_of_getElem? (i := 2) rfl)) (hw _ (List.mem_of_getElem? (i := 31) rfl)) (by decide) (W := 0) (rest := []) (argsL := [(.int (1 : Int32)), (.long yy)]) (a := b101) (rmSet l Z a0 hw [] b101 (1 : Int32) yy ac102 av102 al102 _ _ _ _ occ116 T116.heap n0 (by omega) A116 Fd116 Fv116 Fl116 Fc116 Vv116 Vl116 S116 hd120 ho120 hlk116 (by omega) (by omega) (by omega) (by omega) (by omega) (by omega) Vd116 (by omega) (by omega) (by omega) (by omega) (by decide)) (by decide) (by decide) (by decide) (by decide) rfl A116 own_pd3 rfl (g := (mkF m 87 #[own_jv q0, .second, own_jv q1, .second, own_jv q2, .second, own_jv q3, .second, iv p4, rv b101, own_jv q0, .second, own_jv yy, .second, own_jv zz, .second, own_jv ww, .second, iv (1 : Int32), .unset, .unset, .unset, .unset, .unset, .unset] [(.long yy), (.int (1 : Int32)), (.ref b101)])) rfl (by rw [hml]; rfl) rfl (by show 2 * 0 + _ ≤ _; exact Nat.le_of_eq rfl) (hb hby at_87)
          obtain ⟨r119, d119, V119, K119f, occ119, rfl, N119q, K119, A119, Fc119, Fd119, Fv119, Fl119, Vc119, Vv119, Vl119, hcp119, hoc119, hlk119, S119⟩ := Q119
          have z119 := K119.1
          obtain ⟨ra119, rb119, rc119, rd119, re119, rf119⟩ := hcp119
          have rn119 := own_nat ra119
          have Vd119 : own_Arf Z T119.heap ac102 .byte 3 (fun k => .int ((fun k => if k = 1 then (nar .byte (r119.toInt8.toInt32)) else (fun k => if k = 0 then (nar .byte (r116.toInt8.toInt32)) else (fun _ => (0 : Int32)) k) k) k)) := Vc119
          have N119 := Fr.app N116 N119q
          refine own_st st119 ?_
          show own_Goes p e below s _ _ (T119.setTop (mkF m 90 #[own_jv q0, .second, own_jv q1, .second, own_jv q2, .second, own_jv q3, .second, iv p4, rv b101, own_jv q0, .second, own_jv yy, .second, own_jv zz, .second, own_jv ww, .second, iv (1 : Int32), .unset, .unset, .unset, .unset, .unset, .unset] []))
          refine own_st (fun _ k => XS.aload X119.here hx rfl (hb hby at_90) rfl rfl  k) ?_
          show own_Goes p e below s _ _ (T119.setTop (mkF m 92 #[own_jv q0, .second, own_jv q1, .second, own_jv q2, .second, own_jv q3, .second, iv p4, rv b101, own_jv q0, .second, own_jv yy, .second, own_jv zz, .second, own_jv ww, .second, iv (1 : Int32), .unset, .unset, .unset, .unset, .unset, .unset] [(.ref b101)]))
          refine own_st (fun _ k => XS.iconst X119.here hx rfl (hb hby at_92) k) ?_
          show own_Goes p e below s _ _ (T119.setTop (mkF m 93 #[own_jv q0, .second, own_jv q1, .second, own_jv q2, .second, own_jv q3, .second, iv p4, rv b101, own_jv q0, .second, own_jv yy, .second, own_jv zz, .second, own_jv ww, .second, iv (1 : Int32), .unset, .unset, .unset, .unset, .unset, .unset] [(.int (2 : Int32)), (.ref b101)]))
          refine own_st (fun _ k => XS.lload X119.here hx rfl (hb hby at_93) rfl  k) ?_
          show own_Goes p e below s _ _ (T119.setTop (mkF m 95 #[own_jv q0, .second, own_jv q1, .second, own_jv q2, .second, own_jv q3, .second, iv p4, rv b101, own_jv q0, .second, own_jv yy, .second, own_jv zz, .second, own_jv ww, .second, iv (1 : Int32), .unset, .unset, .unset, .unset, .unset, .unset] [(.long zz), (.int (2 : Int32)), (.ref b101)]))
          have ho122 : occ119.length ≤ 3 := by omega
          have hd122 : 0 ≤ d119.toInt ∧ d119.toInt ≤ 100 := by omega
          obtain ⟨v121, T121, L121, X121, Q121, st121⟩ := own_callV X119 hx hZ (C := "com/example/reach2/reach2/model/CodedColumn") (y := (⟨"com/example/reach2/reach2/model/CodedColumn", "set", "(IJ)V"⟩ : MethodName)) hown (hw _ (List.mem_of_getElem? (i := 27) rfl)) (hw _ (List.mem_of_getElem? (i := 28) rfl)) (hw _ (List.mem_of_getElem? (i := 30) rfl)) (hw _ (List.mem_of_getElem? (i := 29) rfl)) (hw _ (List.mem_of_getElem? (i := 2) rfl)) (hw _ (List.mem_of_getElem? (i := 31) rfl)) (by decide) (W := 0) (rest := []) (argsL := [(.int (2 : Int32)), (.long zz)]) (a := b101) (rmSet l Z a0 hw [] b101 (2 : Int32) zz ac102 av102 al102 _ _ _ _ occ119 T119.heap n0 (by omega) A119 Fd119 Fv119 Fl119 Fc119 Vv119 Vl119 S119 hd122 ho122 hlk119 (by omega) (by omega) (by omega) (by omega) (by omega) (by omega) Vd119 (by omega) (by omega) (by omega) (by omega) (by decide)) (by decide) (by decide) (by decide) (by decide) rfl A119 own_pd3 rfl (g := (mkF m 95 #[own_jv q0, .second, own_jv q1, .second, own_jv q2, .second, own_jv q3, .second, iv p4, rv b101, own_jv q0, .second, own_jv yy, .second, own_jv zz, .second, own_jv ww, .second, iv (1 : Int32), .unset, .unset, .unset, .unset, .unset, .unset] [(.long zz), (.int (2 : Int32)), (.ref b101)])) rfl (by rw [hml]; rfl) rfl (by show 2 * 0 + _ ≤ _; exact Nat.le_of_eq rfl) (hb hby at_95)
          obtain ⟨r121, d121, V121, K121f, occ121, rfl, N121q, K121, A121, Fc121, Fd121, Fv121, Fl121, Vc121, Vv121, Vl121, hcp121, hoc121, hlk121, S121⟩ := Q121
          have z121 := K121.1
          obtain ⟨ra121, rb121, rc121, rd121, re121, rf121⟩ := hcp121
          have rn121 := own_nat ra121
          have Vd121 : own_Arf Z T121.heap ac102 .byte 3 (fun k => .int ((fun k => if k = 2 then (nar .byte (r121.toInt8.toInt32)) else (fun k => if k = 1 then (nar .byte (r119.toInt8.toInt32)) else (fun k => if k = 0 then (nar .byte (r116.toInt8.toInt32)) else (fun _ => (0 : Int32)) k) k) k) k)) := Vc121
          have N121 := Fr.app N119 N121q
          refine own_st st121 ?_
          show own_Goes p e below s _ _ (T121.setTop (mkF m 98 #[own_jv q0, .second, own_jv q1, .second, own_jv q2, .second, own_jv q3, .second, iv p4, rv b101, own_jv q0, .second, own_jv yy, .second, own_jv zz, .second, own_jv ww, .second, iv (1 : Int32), .unset, .unset, .unset, .unset, .unset, .unset] []))
          refine own_st (fun _ k => XS.aload X121.here hx rfl (hb hby at_98) rfl rfl  k) ?_
          show own_Goes p e below s _ _ (T121.setTop (mkF m 100 #[own_jv q0, .second, own_jv q1, .second, own_jv q2, .second, own_jv q3, .second, iv p4, rv b101, own_jv q0, .second, own_jv yy, .second, own_jv zz, .second, own_jv ww, .second, iv (1 : Int32), .unset, .unset, .unset, .unset, .unset, .unset] [(.ref b101)]))
          refine own_st (fun _ k => XS.iload X121.here hx rfl (hb hby at_100) rfl  k) ?_
          show own_Goes p e below s _ _ (T121.setTop (mkF m 102 #[own_jv q0, .second, own_jv q1, .second, own_jv q2, .second, own_jv q3, .second, iv p4, rv b101, own_jv q0, .second, own_jv yy, .second, own_jv zz, .second, own_jv ww, .second, iv (1 : Int32), .unset, .unset, .unset, .unset, .unset, .unset] [(.int (1 : Int32)), (.ref b101)]))
          refine own_st (fun _ k => XS.lload X121.here hx rfl (hb hby at_102) rfl  k) ?_
          show own_Goes p e below s _ _ (T121.setTop (mkF m 104 #[own_jv q0, .second, own_jv q1, .second, own_jv q2, .second, own_jv q3, .second, iv p4, rv b101, own_jv q0, .second, own_jv yy, .second, own_jv zz, .second, own_jv ww, .second, iv (1 : Int32), .unset, .unset, .unset, .unset, .unset, .unset] [(.long ww), (.int (1 : Int32)), (.ref b101)]))
          have ho124 : occ121.length ≤ 3 := by omega
          have hd124 : 0 ≤ d121.toInt ∧ d121.toInt ≤ 100 := by omega
          obtain ⟨v123, T123, L123, X123, Q123, st123⟩ := own_callV X121 hx hZ (C := "com/example/reach2/reach2/model/CodedColumn") (y := (⟨"com/example/reach2/reach2/model/CodedColumn", "set", "(IJ)V"⟩ : MethodName)) hown (hw _ (List.mem_of_getElem? (i := 27) rfl)) (hw _ (List.mem_of_getElem? (i := 28) rfl)) (hw _ (List.mem_of_getElem? (i := 30) rfl)) (hw _ (List.mem_of_getElem? (i := 29) rfl)) (hw _ (List.mem_of_getElem? (i := 2) rfl)) (hw _ (List.mem_of_getElem? (i := 31) rfl)) (by decide) (W := 0) (rest := []) (argsL := [(.int (1 : Int32)), (.long ww)]) (a := b101) (rmSet l Z a0 hw [] b101 (1 : Int32) ww ac102 av102 al102 _ _ _ _ occ121 T121.heap n0 (by omega) A121 Fd121 Fv121 Fl121 Fc121 Vv121 Vl121 S121 hd124 ho124 hlk121 (by omega) (by omega) (by omega) (by omega) (by omega) (by omega) Vd121 (by omega) (by omega) (by omega) (by omega) (by decide)) (by decide) (by decide) (by decide) (by decide) rfl A121 own_pd3 rfl (g := (mkF m 104 #[own_jv q0, .second, own_jv q1, .second, own_jv q2, .second, own_jv q3, .second, iv p4, rv b101, own_jv q0, .second, own_jv yy, .second, own_jv zz, .second, own_jv ww, .second, iv (1 : Int32), .unset, .unset, .unset, .unset, .unset, .unset] [(.long ww), (.int (1 : Int32)), (.ref b101)])) rfl (by rw [hml]; rfl) rfl (by show 2 * 0 + _ ≤ _; exact Nat.le_of_eq rfl) (hb hby at_104)
          obtain ⟨r123, d123, V123, K123f, occ123, rfl, N123q, K123, A123, Fc123, Fd123, Fv123, Fl123, Vc123, Vv123, Vl123, hcp123, hoc123, hlk123, S123⟩ := Q123
          have z123 := K123.1
          obtain ⟨ra123, rb123, rc123, rd123, re123, rf123⟩ := hcp123
          have rn123 := own_nat ra123
          have Vd123 : own_Arf Z T123.heap ac102 .byte 3 (fun k => .int ((fun k => if k = 1 then (nar .byte (r123.toInt8.toInt32)) else (fun k => if k = 2 then (nar .byte (r121.toInt8.toInt32)) else (fun k => if k = 1 then (nar .byte (r119.toInt8.toInt32)) else (fun k => if k = 0 then (nar .byte (r116.toInt8.toInt32)) else (fun _ => (0 : Int32)) k) k) k) k) k)) := Vc123
          have N123 := Fr.app N121 N123q
          refine own_st st123 ?_
          show own_Goes p e below s _ _ (T123.setTop (mkF m 107 #[own_jv q0, .second, own_jv q1, .second, own_jv q2, .second, own_jv q3, .second, iv p4, rv b101, own_jv q0, .second, own_jv yy, .second, own_jv zz, .second, own_jv ww, .second, iv (1 : Int32), .unset, .unset, .unset, .unset, .unset, .unset] []))
          refine own_st (fun _ k => XS.iload X123.here hx rfl (hb hby at_107) rfl  k) ?_
          show own_Goes p e below s _ _ (T123.setTop (mkF m 109 #[own_jv q0, .second, own_jv q1, .second, own_jv q2, .second, own_jv q3, .second, iv p4, rv b101, own_jv q0, .second, own_jv yy, .second, own_jv zz, .second, own_jv ww, .second, iv (1 : Int32), .unset, .unset, .unset, .unset, .unset, .unset] [(.int (1 : Int32))]))
          refine own_st (fun _ k => XS.ifYes X123.here hx rfl (pc0 := 109) (pc' := 117) rfl (hb hby at_109) rfl ((if0 _ _).trans (feq (by decide : ¬ ((1 : Int32) = (0 : Int32)))).2) (by decide) (by decide) k) ?_
          show own_Goes p e below s _ _ (T123.setTop (mkF m 117 #[own_jv q0, .second, own_jv q1, .second, own_jv q2, .second, own_jv q3, .second, iv p4, rv b101, own_jv q0, .second, own_jv yy, .second, own_jv zz, .second, own_jv ww, .second, iv (1 : Int32), .unset, .unset, .unset, .unset, .unset, .unset] []))
          refine own_st (fun _ k => XS.lload X123.here hx rfl (hb hby at_117) rfl  k) ?_
          show own_Goes p e below s _ _ (T123.setTop (mkF m 119 #[own_jv q0, .second, own_jv q1, .second, own_jv q2, .second, own_jv q3, .second, iv p4, rv b101, own_jv q0, .second, own_jv yy, .second, own_jv zz, .second, own_jv ww, .second, iv (1 : Int32), .unset, .unset, .unset, .unset, .unset, .unset] [(.long q0)]))
          refine own_st (fun _ k => XS.lstore X123.here hx rfl (hb hby at_119) rfl (l' := #[own_jv q0, .second, own_jv q1, .second, own_jv q2, .second, own_jv q3, .second, iv p4, rv b101, own_jv q0, .second, own_jv yy, .second, own_jv zz, .second, own_jv ww, .second, iv (1 : Int32), own_jv q0, .second, .unset, .unset, .unset, .unset]) rfl k) ?_
          show own_Goes p e below s _ _ (T123.setTop (mkF m 121 #[own_jv q0, .second, own_jv q1, .second, own_jv q2, .second, own_jv q3, .second, iv p4, rv b101, own_jv q0, .second, own_jv yy, .second, own_jv zz, .second, own_jv ww, .second, iv (1 : Int32), own_jv q0, .second, .unset, .unset, .unset, .unset] []))
          refine own_st (fun _ k => XS.iload X123.here hx rfl (hb hby at_121) rfl  k) ?_
          show own_Goes p e below s _ _ (T123.setTop (mkF m 123 #[own_jv q0, .second, own_jv q1, .second, own_jv q2, .second, own_jv q3, .second, iv p4, rv b101, own_jv q0, .second, own_jv yy, .second, own_jv zz, .second, own_jv ww, .second, iv (1 : Int32), own_jv q0, .second, .unset, .unset, .unset, .unset] [(.int (1 : Int32))]))
          refine own_st (fun _ k => XS.iconst X123.here hx rfl (hb hby at_123) k) ?_
          show own_Goes p e below s _ _ (T123.setTop (mkF m 124 #[own_jv q0, .second, own_jv q1, .second, own_jv q2, .second, own_jv q3, .second, iv p4, rv b101, own_jv q0, .second, own_jv yy, .second, own_jv zz, .second, own_jv ww, .second, iv (1 : Int32), own_jv q0, .second, .unset, .unset, .unset, .unset] [(.int (1 : Int32)), (.int (1 : Int32))]))
          refine own_st (fun _ k => XS.icmpNo X123.here hx rfl (hb hby at_124) rfl (teq (by decide : (1 : Int32) = (1 : Int32))).2 k) ?_
          show own_Goes p e below s _ _ (T123.setTop (mkF m 127 #[own_jv q0, .second, own_jv q1, .second, own_jv q2, .second, own_jv q3, .second, iv p4, rv b101, own_jv q0, .second, own_jv yy, .second, own_jv zz, .second, own_jv ww, .second, iv (1 : Int32), own_jv q0, .second, .unset, .unset, .unset, .unset] []))
          refine own_st (fun _ k => XS.lload X123.here hx rfl (hb hby at_127) rfl  k) ?_
          show own_Goes p e below s _ _ (T123.setTop (mkF m 129 #[own_jv q0, .second, own_jv q1, .second, own_jv q2, .second, own_jv q3, .second, iv p4, rv b101, own_jv q0, .second, own_jv yy, .second, own_jv zz, .second, own_jv ww, .second, iv (1 : Int32), own_jv q0, .second, .unset, .unset, .unset, .unset] [(.long ww)]))
          refine own_st (fun _ k => XS.goto X123.here hx rfl (pc0 := 129) (pc' := 134) rfl (hb hby at_129) (by decide) (by decide) k) ?_
          show own_Goes p e below s _ _ (T123.setTop (mkF m 134 #[own_jv q0, .second, own_jv q1, .second, own_jv q2, .second, own_jv q3, .second, iv p4, rv b101, own_jv q0, .second, own_jv yy, .second, own_jv zz, .second, own_jv ww, .second, iv (1 : Int32), own_jv q0, .second, .unset, .unset, .unset, .unset] [(.long ww)]))
          refine own_st (fun _ k => XS.lstore X123.here hx rfl (hb hby at_134) rfl (l' := #[own_jv q0, .second, own_jv q1, .second, own_jv q2, .second, own_jv q3, .second, iv p4, rv b101, own_jv q0, .second, own_jv yy, .second, own_jv zz, .second, own_jv ww, .second, iv (1 : Int32), own_jv q0, .second, own_jv ww, .second, .unset, .unset]) rfl k) ?_
          show own_Goes p e below s _ _ (T123.setTop (mkF m 136 #[own_jv q0, .second, own_jv q1, .second, own_jv q2, .second, own_jv q3, .second, iv p4, rv b101, own_jv q0, .second, own_jv yy, .second, own_jv zz, .second, own_jv ww, .second, iv (1 : Int32), own_jv q0, .second, own_jv ww, .second, .unset, .unset] []))
          refine own_st (fun _ k => XS.iload X123.here hx rfl (hb hby at_136) rfl  k) ?_
          show own_Goes p e below s _ _ (T123.setTop (mkF m 138 #[own_jv q0, .second, own_jv q1, .second, own_jv q2, .second, own_jv q3, .second, iv p4, rv b101, own_jv q0, .second, own_jv yy, .second, own_jv zz, .second, own_jv ww, .second, iv (1 : Int32), own_jv q0, .second, own_jv ww, .second, .unset, .unset] [(.int (1 : Int32))]))
          refine own_st (fun _ k => XS.iconst X123.here hx rfl (hb hby at_138) k) ?_
          show own_Goes p e below s _ _ (T123.setTop (mkF m 139 #[own_jv q0, .second, own_jv q1, .second, own_jv q2, .second, own_jv q3, .second, iv p4, rv b101, own_jv q0, .second, own_jv yy, .second, own_jv zz, .second, own_jv ww, .second, iv (1 : Int32), own_jv q0, .second, own_jv ww, .second, .unset, .unset] [(.int (2 : Int32)), (.int (1 : Int32))]))
          refine own_st (fun _ k => XS.icmpYes X123.here hx rfl (pc0 := 139) (pc' := 147) rfl (hb hby at_139) rfl (feq (by decide : ¬ ((1 : Int32) = (2 : Int32)))).2 (by decide) (by decide) k) ?_
          show own_Goes p e below s _ _ (T123.setTop (mkF m 147 #[own_jv q0, .second, own_jv q1, .second, own_jv q2, .second, own_jv q3, .second, iv p4, rv b101, own_jv q0, .second, own_jv yy, .second, own_jv zz, .second, own_jv ww, .second, iv (1 : Int32), own_jv q0, .second, own_jv ww, .second, .unset, .unset] []))
          refine own_st (fun _ k => XS.lload X123.here hx rfl (hb hby at_147) rfl  k) ?_
          show own_Goes p e below s _ _ (T123.setTop (mkF m 149 #[own_jv q0, .second, own_jv q1, .second, own_jv q2, .second, own_jv q3, .second, iv p4, rv b101, own_jv q0, .second, own_jv yy, .second, own_jv zz, .second, own_jv ww, .second, iv (1 : Int32), own_jv q0, .second, own_jv ww, .second, .unset, .unset] [(.long zz)]))
          refine own_st (fun _ k => XS.lstore X123.here hx rfl (hb hby at_149) rfl (l' := #[own_jv q0, .second, own_jv q1, .second, own_jv q2, .second, own_jv q3, .second, iv p4, rv b101, own_jv q0, .second, own_jv yy, .second, own_jv zz, .second, own_jv ww, .second, iv (1 : Int32), own_jv q0, .second, own_jv ww, .second, own_jv zz, .second]) rfl k) ?_
          show own_Goes p e below s _ _ (T123.setTop (mkF m 151 #[own_jv q0, .second, own_jv q1, .second, own_jv q2, .second, own_jv q3, .second, iv p4, rv b101, own_jv q0, .second, own_jv yy, .second, own_jv zz, .second, own_jv ww, .second, iv (1 : Int32), own_jv q0, .second, own_jv ww, .second, own_jv zz, .second] []))
          refine own_st (fun _ k => XS.aload X123.here hx rfl (hb hby at_151) rfl rfl  k) ?_
          show own_Goes p e below s _ _ (T123.setTop (mkF m 153 #[own_jv q0, .second, own_jv q1, .second, own_jv q2, .second, own_jv q3, .second, iv p4, rv b101, own_jv q0, .second, own_jv yy, .second, own_jv zz, .second, own_jv ww, .second, iv (1 : Int32), own_jv q0, .second, own_jv ww, .second, own_jv zz, .second] [(.ref b101)]))
          refine own_st (fun _ k => XS.iconst X123.here hx rfl (hb hby at_153) k) ?_
          show own_Goes p e below s _ _ (T123.setTop (mkF m 154 #[own_jv q0, .second, own_jv q1, .second, own_jv q2, .second, own_jv q3, .second, iv p4, rv b101, own_jv q0, .second, own_jv yy, .second, own_jv zz, .second, own_jv ww, .second, iv (1 : Int32), own_jv q0, .second, own_jv ww, .second, own_jv zz, .second] [(.int (0 : Int32)), (.ref b101)]))
          obtain ⟨v125, T125, L125, X125, Q125, st125⟩ := own_callV X123 hx hZ (C := "com/example/reach2/reach2/model/CodedColumn") (y := (⟨"com/example/reach2/reach2/model/CodedColumn", "get", "(I)J"⟩ : MethodName)) hown (hw _ (List.mem_of_getElem? (i := 39) rfl)) (hw _ (List.mem_of_getElem? (i := 40) rfl)) (hw _ (List.mem_of_getElem? (i := 42) rfl)) (hw _ (List.mem_of_getElem? (i := 41) rfl)) (hw _ (List.mem_of_getElem? (i := 2) rfl)) (hw _ (List.mem_of_getElem? (i := 43) rfl)) (by decide) (W := 0) (rest := []) (argsL := [(.int (0 : Int32))]) (a := b101) (rmGet l Z a0 hw [] b101 (0 : Int32) _ _ _ _ T123.heap n0 (by omega) Fc123 Fv123 Vd123 Vv123 (by decide)) (by decide) (by decide) (by decide) (by decide) rfl A123 own_pd4 rfl (g := (mkF m 154 #[own_jv q0, .second, own_jv q1, .second, own_jv q2, .second, own_jv q3, .second, iv p4, rv b101, own_jv q0, .second, own_jv yy, .second, own_jv zz, .second, own_jv ww, .second, iv (1 : Int32), own_jv q0, .second, own_jv ww, .second, own_jv zz, .second] [(.int (0 : Int32)), (.ref b101)])) rfl (by rw [hml]; rfl) rfl (by show 2 * 0 + _ ≤ _; exact Nat.le_of_eq rfl) (hb hby at_154)
          obtain ⟨g125, rfl, hg125, N125q, e125⟩ := Q125
          obtain rfl : q0 = g125 := (hg125.trans (own_at (by omega) ((rf123 _ (by omega)).trans ((rf121 _ (by omega)).trans ((rf119 _ (by omega)).trans re116))))).symm
          have N125 := Fr.app N123 N125q
          refine own_st st125 ?_
          show own_Goes p e below s _ _ (T125.setTop (mkF m 157 #[own_jv q0, .second, own_jv q1, .second, own_jv q2, .second, own_jv q3, .second, iv p4, rv b101, own_jv q0, .second, own_jv yy, .second, own_jv zz, .second, own_jv ww, .second, iv (1 : Int32), own_jv q0, .second, own_jv ww, .second, own_jv zz, .second] [(.long q0)]))
          refine own_st (fun _ k => XS.lload X125.here hx rfl (hb hby at_157) rfl  k) ?_
          show own_Goes p e below s _ _ (T125.setTop (mkF m 159 #[own_jv q0, .second, own_jv q1, .second, own_jv q2, .second, own_jv q3, .second, iv p4, rv b101, own_jv q0, .second, own_jv yy, .second, own_jv zz, .second, own_jv ww, .second, iv (1 : Int32), own_jv q0, .second, own_jv ww, .second, own_jv zz, .second] [(.long q0), (.long q0)]))
          refine own_st (fun _ k => XS.lcmp X125.here hx rfl (hb hby at_159) rfl k) ?_
          show own_Goes p e below s _ _ (T125.setTop (mkF m 160 #[own_jv q0, .second, own_jv q1, .second, own_jv q2, .second, own_jv q3, .second, iv p4, rv b101, own_jv q0, .second, own_jv yy, .second, own_jv zz, .second, own_jv ww, .second, iv (1 : Int32), own_jv q0, .second, own_jv ww, .second, own_jv zz, .second] [(.int (lcmpW q0 q0))]))
          refine own_st (fun _ k => XS.ifNo X125.here hx rfl (hb hby at_160) rfl ((if0 _ _).trans (teq ((lw_eq _ _).mpr (rfl : q0 = q0))).2) k) ?_
          show own_Goes p e below s _ _ (T125.setTop (mkF m 163 #[own_jv q0, .second, own_jv q1, .second, own_jv q2, .second, own_jv q3, .second, iv p4, rv b101, own_jv q0, .second, own_jv yy, .second, own_jv zz, .second, own_jv ww, .second, iv (1 : Int32), own_jv q0, .second, own_jv ww, .second, own_jv zz, .second] []))
          refine own_st (fun _ k => XS.aload X125.here hx rfl (hb hby at_163) rfl rfl  k) ?_
          show own_Goes p e below s _ _ (T125.setTop (mkF m 165 #[own_jv q0, .second, own_jv q1, .second, own_jv q2, .second, own_jv q3, .second, iv p4, rv b101, own_jv q0, .second, own_jv yy, .second, own_jv zz, .second, own_jv ww, .second, iv (1 : Int32), own_jv q0, .second, own_jv ww, .second, own_jv zz, .second] [(.ref b101)]))
          refine own_st (fun _ k => XS.iconst X125.here hx rfl (hb hby at_165) k) ?_
          show own_Goes p e below s _ _ (T125.setTop (mkF m 166 #[own_jv q0, .second, own_jv q1, .second, own_jv q2, .second, own_jv q3, .second, iv p4, rv b101, own_jv q0, .second, own_jv yy, .second, own_jv zz, .second, own_jv ww, .second, iv (1 : Int32), own_jv q0, .second, own_jv ww, .second, own_jv zz, .second] [(.int (1 : Int32)), (.ref b101)]))
          obtain ⟨v126, T126, L126, X126, Q126, st126⟩ := own_callV X125 hx hZ (C := "com/example/reach2/reach2/model/CodedColumn") (y := (⟨"com/example/reach2/reach2/model/CodedColumn", "get", "(I)J"⟩ : MethodName)) hown (hw _ (List.mem_of_getElem? (i := 39) rfl)) (hw _ (List.mem_of_getElem? (i := 40) rfl)) (hw _ (List.mem_of_getElem? (i := 42) rfl)) (hw _ (List.mem_of_getElem? (i := 41) rfl)) (hw _ (List.mem_of_getElem? (i := 2) rfl)) (hw _ (List.mem_of_getElem? (i := 43) rfl)) (by decide) (W := 0) (rest := []) (argsL := [(.int (1 : Int32))]) (a := b101) (rmGet l Z a0 hw [] b101 (1 : Int32) _ _ _ _ T123.heap n0 (by omega) Fc123 Fv123 Vd123 Vv123 (by decide)) (by decide) (by decide) (by decide) (by decide) e125 A123 own_pd4 rfl (g := (mkF m 166 #[own_jv q0, .second, own_jv q1, .second, own_jv q2, .second, own_jv q3, .second, iv p4, rv b101, own_jv q0, .second, own_jv yy, .second, own_jv zz, .second, own_jv ww, .second, iv (1 : Int32), own_jv q0, .second, own_jv ww, .second, own_jv zz, .second] [(.int (1 : Int32)), (.ref b101)])) rfl (by rw [hml]; rfl) rfl (by show 2 * 0 + _ ≤ _; exact Nat.le_of_eq rfl) (hb hby at_166)
          obtain ⟨g126, rfl, hg126, N126q, e126⟩ := Q126
          obtain rfl : ww = g126 := (hg126.trans (own_at (by omega) re123)).symm
          have N126 := Fr.app N125 N126q
          refine own_st st126 ?_
          show own_Goes p e below s _ _ (T126.setTop (mkF m 169 #[own_jv q0, .second, own_jv q1, .second, own_jv q2, .second, own_jv q3, .second, iv p4, rv b101, own_jv q0, .second, own_jv yy, .second, own_jv zz, .second, own_jv ww, .second, iv (1 : Int32), own_jv q0, .second, own_jv ww, .second, own_jv zz, .second] [(.long ww)]))
          refine own_st (fun _ k => XS.lload X126.here hx rfl (hb hby at_169) rfl  k) ?_
          show own_Goes p e below s _ _ (T126.setTop (mkF m 171 #[own_jv q0, .second, own_jv q1, .second, own_jv q2, .second, own_jv q3, .second, iv p4, rv b101, own_jv q0, .second, own_jv yy, .second, own_jv zz, .second, own_jv ww, .second, iv (1 : Int32), own_jv q0, .second, own_jv ww, .second, own_jv zz, .second] [(.long ww), (.long ww)]))
          refine own_st (fun _ k => XS.lcmp X126.here hx rfl (hb hby at_171) rfl k) ?_
          show own_Goes p e below s _ _ (T126.setTop (mkF m 172 #[own_jv q0, .second, own_jv q1, .second, own_jv q2, .second, own_jv q3, .second, iv p4, rv b101, own_jv q0, .second, own_jv yy, .second, own_jv zz, .second, own_jv ww, .second, iv (1 : Int32), own_jv q0, .second, own_jv ww, .second, own_jv zz, .second] [(.int (lcmpW ww ww))]))
          refine own_st (fun _ k => XS.ifNo X126.here hx rfl (hb hby at_172) rfl ((if0 _ _).trans (teq ((lw_eq _ _).mpr (rfl : ww = ww))).2) k) ?_
          show own_Goes p e below s _ _ (T126.setTop (mkF m 175 #[own_jv q0, .second, own_jv q1, .second, own_jv q2, .second, own_jv q3, .second, iv p4, rv b101, own_jv q0, .second, own_jv yy, .second, own_jv zz, .second, own_jv ww, .second, iv (1 : Int32), own_jv q0, .second, own_jv ww, .second, own_jv zz, .second] []))
          refine own_st (fun _ k => XS.aload X126.here hx rfl (hb hby at_175) rfl rfl  k) ?_
          show own_Goes p e below s _ _ (T126.setTop (mkF m 177 #[own_jv q0, .second, own_jv q1, .second, own_jv q2, .second, own_jv q3, .second, iv p4, rv b101, own_jv q0, .second, own_jv yy, .second, own_jv zz, .second, own_jv ww, .second, iv (1 : Int32), own_jv q0, .second, own_jv ww, .second, own_jv zz, .second] [(.ref b101)]))
          refine own_st (fun _ k => XS.iconst X126.here hx rfl (hb hby at_177) k) ?_
          show own_Goes p e below s _ _ (T126.setTop (mkF m 178 #[own_jv q0, .second, own_jv q1, .second, own_jv q2, .second, own_jv q3, .second, iv p4, rv b101, own_jv q0, .second, own_jv yy, .second, own_jv zz, .second, own_jv ww, .second, iv (1 : Int32), own_jv q0, .second, own_jv ww, .second, own_jv zz, .second] [(.int (2 : Int32)), (.ref b101)]))
          obtain ⟨v127, T127, L127, X127, Q127, st127⟩ := own_callV X126 hx hZ (C := "com/example/reach2/reach2/model/CodedColumn") (y := (⟨"com/example/reach2/reach2/model/CodedColumn", "get", "(I)J"⟩ : MethodName)) hown (hw _ (List.mem_of_getElem? (i := 39) rfl)) (hw _ (List.mem_of_getElem? (i := 40) rfl)) (hw _ (List.mem_of_getElem? (i := 42) rfl)) (hw _ (List.mem_of_getElem? (i := 41) rfl)) (hw _ (List.mem_of_getElem? (i := 2) rfl)) (hw _ (List.mem_of_getElem? (i := 43) rfl)) (by decide) (W := 0) (rest := []) (argsL := [(.int (2 : Int32))]) (a := b101) (rmGet l Z a0 hw [] b101 (2 : Int32) _ _ _ _ T123.heap n0 (by omega) Fc123 Fv123 Vd123 Vv123 (by decide)) (by decide) (by decide) (by decide) (by decide) e126 A123 own_pd4 rfl (g := (mkF m 178 #[own_jv q0, .second, own_jv q1, .second, own_jv q2, .second, own_jv q3, .second, iv p4, rv b101, own_jv q0, .second, own_jv yy, .second, own_jv zz, .second, own_jv ww, .second, iv (1 : Int32), own_jv q0, .second, own_jv ww, .second, own_jv zz, .second] [(.int (2 : Int32)), (.ref b101)])) rfl (by rw [hml]; rfl) rfl (by show 2 * 0 + _ ≤ _; exact Nat.le_of_eq rfl) (hb hby at_178)
          obtain ⟨g127, rfl, hg127, N127q, e127⟩ := Q127
          obtain rfl : zz = g127 := (hg127.trans (own_at (by omega) ((rf123 _ (by omega)).trans re121))).symm
          have N127 := Fr.app N126 N127q
          refine own_st st127 ?_
          show own_Goes p e below s _ _ (T127.setTop (mkF m 181 #[own_jv q0, .second, own_jv q1, .second, own_jv q2, .second, own_jv q3, .second, iv p4, rv b101, own_jv q0, .second, own_jv yy, .second, own_jv zz, .second, own_jv ww, .second, iv (1 : Int32), own_jv q0, .second, own_jv ww, .second, own_jv zz, .second] [(.long zz)]))
          refine own_st (fun _ k => XS.lload X127.here hx rfl (hb hby at_181) rfl  k) ?_
          show own_Goes p e below s _ _ (T127.setTop (mkF m 183 #[own_jv q0, .second, own_jv q1, .second, own_jv q2, .second, own_jv q3, .second, iv p4, rv b101, own_jv q0, .second, own_jv yy, .second, own_jv zz, .second, own_jv ww, .second, iv (1 : Int32), own_jv q0, .second, own_jv ww, .second, own_jv zz, .second] [(.long zz), (.long zz)]))
          refine own_st (fun _ k => XS.lcmp X127.here hx rfl (hb hby at_183) rfl k) ?_
          show own_Goes p e below s _ _ (T127.setTop (mkF m 184 #[own_jv q0, .second, own_jv q1, .second, own_jv q2, .second, own_jv q3, .second, iv p4, rv b101, own_jv q0, .second, own_jv yy, .second, own_jv zz, .second, own_jv ww, .second, iv (1 : Int32), own_jv q0, .second, own_jv ww, .second, own_jv zz, .second] [(.int (lcmpW zz zz))]))
          refine own_st (fun _ k => XS.ifNo X127.here hx rfl (hb hby at_184) rfl ((if0 _ _).trans (teq ((lw_eq _ _).mpr (rfl : zz = zz))).2) k) ?_
          show own_Goes p e below s _ _ (T127.setTop (mkF m 187 #[own_jv q0, .second, own_jv q1, .second, own_jv q2, .second, own_jv q3, .second, iv p4, rv b101, own_jv q0, .second, own_jv yy, .second, own_jv zz, .second, own_jv ww, .second, iv (1 : Int32), own_jv q0, .second, own_jv ww, .second, own_jv zz, .second] []))
          refine own_st (fun _ k => XS.aload X127.here hx rfl (hb hby at_187) rfl rfl  k) ?_
          show own_Goes p e below s _ _ (T127.setTop (mkF m 189 #[own_jv q0, .second, own_jv q1, .second, own_jv q2, .second, own_jv q3, .second, iv p4, rv b101, own_jv q0, .second, own_jv yy, .second, own_jv zz, .second, own_jv ww, .second, iv (1 : Int32), own_jv q0, .second, own_jv ww, .second, own_jv zz, .second] [(.ref b101)]))
          obtain ⟨v128, T128, L128, X128, Q128, st128⟩ := own_callV X127 hx hZ (C := "com/example/reach2/reach2/model/CodedColumn") (y := (⟨"com/example/reach2/reach2/model/CodedColumn", "length", "()I"⟩ : MethodName)) hown (hw _ (List.mem_of_getElem? (i := 44) rfl)) (hw _ (List.mem_of_getElem? (i := 45) rfl)) (hw _ (List.mem_of_getElem? (i := 47) rfl)) (hw _ (List.mem_of_getElem? (i := 46) rfl)) (hw _ (List.mem_of_getElem? (i := 2) rfl)) (hw _ (List.mem_of_getElem? (i := 48) rfl)) (by decide) (W := 0) (rest := []) (argsL := []) (a := b101) (rmLen l Z a0 hw [] b101 _ _ T123.heap n0 (by omega) Fc123 Vd123) (by decide) (by decide) (by decide) (by decide) e127 A123 own_pd5 rfl (g := (mkF m 189 #[own_jv q0, .second, own_jv q1, .second, own_jv q2, .second, own_jv q3, .second, iv p4, rv b101, own_jv q0, .second, own_jv yy, .second, own_jv zz, .second, own_jv ww, .second, iv (1 : Int32), own_jv q0, .second, own_jv ww, .second, own_jv zz, .second] [(.ref b101)])) rfl (by rw [hml]; rfl) rfl (by show 2 * 0 + _ ≤ _; exact Nat.le_of_eq rfl) (hb hby at_189)
          obtain ⟨rfl, N128q, e128⟩ := Q128
          have N128 := Fr.app N127 N128q
          refine own_st st128 ?_
          show own_Goes p e below s _ _ (T128.setTop (mkF m 192 #[own_jv q0, .second, own_jv q1, .second, own_jv q2, .second, own_jv q3, .second, iv p4, rv b101, own_jv q0, .second, own_jv yy, .second, own_jv zz, .second, own_jv ww, .second, iv (1 : Int32), own_jv q0, .second, own_jv ww, .second, own_jv zz, .second] [(.int (3 : Int32))]))
          refine own_st (fun _ k => XS.iconst X128.here hx rfl (hb hby at_192) k) ?_
          show own_Goes p e below s _ _ (T128.setTop (mkF m 193 #[own_jv q0, .second, own_jv q1, .second, own_jv q2, .second, own_jv q3, .second, iv p4, rv b101, own_jv q0, .second, own_jv yy, .second, own_jv zz, .second, own_jv ww, .second, iv (1 : Int32), own_jv q0, .second, own_jv ww, .second, own_jv zz, .second] [(.int (3 : Int32)), (.int (3 : Int32))]))
          refine own_st (fun _ k => XS.icmpNo X128.here hx rfl (hb hby at_193) rfl (teq (by decide : (3 : Int32) = (3 : Int32))).2 k) ?_
          show own_Goes p e below s _ _ (T128.setTop (mkF m 196 #[own_jv q0, .second, own_jv q1, .second, own_jv q2, .second, own_jv q3, .second, iv p4, rv b101, own_jv q0, .second, own_jv yy, .second, own_jv zz, .second, own_jv ww, .second, iv (1 : Int32), own_jv q0, .second, own_jv ww, .second, own_jv zz, .second] []))
          refine own_st (fun _ k => XS.iconst X128.here hx rfl (hb hby at_196) k) ?_
          show own_Goes p e below s _ _ (T128.setTop (mkF m 197 #[own_jv q0, .second, own_jv q1, .second, own_jv q2, .second, own_jv q3, .second, iv p4, rv b101, own_jv q0, .second, own_jv yy, .second, own_jv zz, .second, own_jv ww, .second, iv (1 : Int32), own_jv q0, .second, own_jv ww, .second, own_jv zz, .second] [(.int (1 : Int32))]))
          refine own_st (fun _ k => XS.goto X128.here hx rfl (pc0 := 197) (pc' := 201) rfl (hb hby at_197) (by decide) (by decide) k) ?_
          show own_Goes p e below s _ _ (T128.setTop (mkF m 201 #[own_jv q0, .second, own_jv q1, .second, own_jv q2, .second, own_jv q3, .second, iv p4, rv b101, own_jv q0, .second, own_jv yy, .second, own_jv zz, .second, own_jv ww, .second, iv (1 : Int32), own_jv q0, .second, own_jv ww, .second, own_jv zz, .second] [(.int (1 : Int32))]))
          exact own_retN X128 hx hlk (1 : Int32) hret (Or.inl rfl) rfl (hb hby at_201) (by decide) (by decide) ⟨rfl, N128⟩
        · show own_Goes p e below s _ _ (T102.setTop (mkF m 72 #[own_jv q0, .second, own_jv q1, .second, own_jv q2, .second, own_jv q3, .second, iv p4, rv b101, own_jv q0, .second, own_jv yy, .second, own_jv zz, .second, own_jv ww, .second, .unset, .unset, .unset, .unset, .unset, .unset, .unset] [(.int (2 : Int32))]))
          refine own_st (fun _ k => XS.istore X102.here hx rfl (hb hby at_72) rfl (l' := #[own_jv q0, .second, own_jv q1, .second, own_jv q2, .second, own_jv q3, .second, iv p4, rv b101, own_jv q0, .second, own_jv yy, .second, own_jv zz, .second, own_jv ww, .second, iv (2 : Int32), .unset, .unset, .unset, .unset, .unset, .unset]) rfl k) ?_
          show own_Goes p e below s _ _ (T102.setTop (mkF m 74 #[own_jv q0, .second, own_jv q1, .second, own_jv q2, .second, own_jv q3, .second, iv p4, rv b101, own_jv q0, .second, own_jv yy, .second, own_jv zz, .second, own_jv ww, .second, iv (2 : Int32), .unset, .unset, .unset, .unset, .unset, .unset] []))
          refine own_st (fun _ k => XS.aload X102.here hx rfl (hb hby at_74) rfl rfl  k) ?_
          show own_Goes p e below s _ _ (T102.setTop (mkF m 76 #[own_jv q0, .second, own_jv q1, .second, own_jv q2, .second, own_jv q3, .second, iv p4, rv b101, own_jv q0, .second, own_jv yy, .second, own_jv zz, .second, own_jv ww, .second, iv (2 : Int32), .unset, .unset, .unset, .unset, .unset, .unset] [(.ref b101)]))
          refine own_st (fun _ k => XS.iconst X102.here hx rfl (hb hby at_76) k) ?_
          show own_Goes p e below s _ _ (T102.setTop (mkF m 77 #[own_jv q0, .second, own_jv q1, .second, own_jv q2, .second, own_jv q3, .second, iv p4, rv b101, own_jv q0, .second, own_jv yy, .second, own_jv zz, .second, own_jv ww, .second, iv (2 : Int32), .unset, .unset, .unset, .unset, .unset, .unset] [(.int (0 : Int32)), (.ref b101)]))
          refine own_st (fun _ k => XS.lload X102.here hx rfl (hb hby at_77) rfl  k) ?_
          show own_Goes p e below s _ _ (T102.setTop (mkF m 79 #[own_jv q0, .second, own_jv q1, .second, own_jv q2, .second, own_jv q3, .second, iv p4, rv b101, own_jv q0, .second, own_jv yy, .second, own_jv zz, .second, own_jv ww, .second, iv (2 : Int32), .unset, .unset, .unset, .unset, .unset, .unset] [(.long q0), (.int (0 : Int32)), (.ref b101)]))
          have ho130 : ([] : List Nat).length ≤ 3 := by decide
          have hd130 : 0 ≤ (0 : Int32).toInt ∧ (0 : Int32).toInt ≤ 100 := by decide
          have f131 := (own_sta_keep (S1.ext E101) K102 (own_pl1 A101))
          obtain ⟨v129, T129, L129, X129, Q129, st129⟩ := own_callV X102 hx hZ (C := "com/example/reach2/reach2/model/CodedColumn") (y := (⟨"com/example/reach2/reach2/model/CodedColumn", "set", "(IJ)V"⟩ : MethodName)) hown (hw _ (List.mem_of_getElem? (i := 27) rfl)) (hw _ (List.mem_of_getElem? (i := 28) rfl)) (hw _ (List.mem_of_getElem? (i := 30) rfl)) (hw _ (List.mem_of_getElem? (i := 29) rfl)) (hw _ (List.mem_of_getElem? (i := 2) rfl)) (hw _ (List.mem_of_getElem? (i := 31) rfl)) (by decide) (W := 0) (rest := []) (argsL := [(.int (0 : Int32)), (.long q0)]) (a := b101) (rmSet l Z a0 hw [] b101 (0 : Int32) q0 ac102 av102 al102 _ _ _ _ ([] : List Nat) T102.heap n0 (by omega) A102 F102_distinct F102_values F102_lookup F102_codes Vv102 Vl102 f131 hd130 ho130 (own_LK0 (0 : Int32) (by decide)) (by omega) (by omega) (by omega) (by omega) (by omega) (by omega) Vc102 (by omega) (by omega) (by omega) (by omega) (by decide)) (by decide) (by decide) (by decide) (by decide) rfl A102 own_pd3 rfl (g := (mkF m 79 #[own_jv q0, .second, own_jv q1, .second, own_jv q2, .second, own_jv q3, .second, iv p4, rv b101, own_jv q0, .second, own_jv yy, .second, own_jv zz, .second, own_jv ww, .second, iv (2 : Int32), .unset, .unset, .unset, .unset, .unset, .unset] [(.long q0), (.int (0 : Int32)), (.ref b101)])) rfl (by rw [hml]; rfl) rfl (by show 2 * 0 + _ ≤ _; exact Nat.le_of_eq rfl) (hb hby at_79)
          obtain ⟨r129, d129, V129, K129f, occ129, rfl, N129q, K129, A129, Fc129, Fd129, Fv129, Fl129, Vc129, Vv129, Vl129, hcp129, hoc129, hlk129, S129⟩ := Q129
          have z129 := K129.1
          obtain ⟨ra129, rb129, rc129, rd129, re129, rf129⟩ := hcp129
          have rn129 := own_nat ra129
          have Vd129 : own_Arf Z T129.heap ac102 .byte 3 (fun k => .int ((fun k => if k = 0 then (nar .byte (r129.toInt8.toInt32)) else (fun _ => (0 : Int32)) k) k)) := Vc129
          have ho129' : occ129.length ≤ 1 := hoc129
          have rd129' : d129.toInt ≤ 1 := rd129
          have rc129' : 0 ≤ d129.toInt := rc129
          have N129 := Fr.app N102 N129q
          refine own_st st129 ?_
          show own_Goes p e below s _ _ (T129.setTop (mkF m 82 #[own_jv q0, .second, own_jv q1, .second, own_jv q2, .second, own_jv q3, .second, iv p4, rv b101, own_jv q0, .second, own_jv yy, .second, own_jv zz, .second, own_jv ww, .second, iv (2 : Int32), .unset, .unset, .unset, .unset, .unset, .unset] []))
          refine own_st (fun _ k => XS.aload X129.here hx rfl (hb hby at_82) rfl rfl  k) ?_
          show own_Goes p e below s _ _ (T129.setTop (mkF m 84 #[own_jv q0, .second, own_jv q1, .second, own_jv q2, .second, own_jv q3, .second, iv p4, rv b101, own_jv q0, .second, own_jv yy, .second, own_jv zz, .second, own_jv ww, .second, iv (2 : Int32), .unset, .unset, .unset, .unset, .unset, .unset] [(.ref b101)]))
          refine own_st (fun _ k => XS.iconst X129.here hx rfl (hb hby at_84) k) ?_
          show own_Goes p e below s _ _ (T129.setTop (mkF m 85 #[own_jv q0, .second, own_jv q1, .second, own_jv q2, .second, own_jv q3, .second, iv p4, rv b101, own_jv q0, .second, own_jv yy, .second, own_jv zz, .second, own_jv ww, .second, iv (2 : Int32), .unset, .unset, .unset, .unset, .unset, .unset] [(.int (1 : Int32)), (.ref b101)]))
          refine own_st (fun _ k => XS.lload X129.here hx rfl (hb hby at_85) rfl  k) ?_
          show own_Goes p e below s _ _ (T129.setTop (mkF m 87 #[own_jv q0, .second, own_jv q1, .second, own_jv q2, .second, own_jv q3, .second, iv p4, rv b101, own_jv q0, .second, own_jv yy, .second, own_jv zz, .second, own_jv ww, .second, iv (2 : Int32), .unset, .unset, .unset, .unset, .unset, .unset] [(.long yy), (.int (1 : Int32)), (.ref b101)]))
          have ho133 : occ129.length ≤ 3 := by omega
          have hd133 : 0 ≤ d129.toInt ∧ d129.toInt ≤ 100 := by omega
          obtain ⟨v132, T132, L132, X132, Q132, st132⟩ := own_callV X129 hx hZ (C := "com/example/reach2/reach2/model/CodedColumn") (y := (⟨"com/example/reach2/reach2/model/CodedColumn", "set", "(IJ)V"⟩ : MethodName)) hown (hw _ (List.mem_of_getElem? (i := 27) rfl)) (hw _ (List.mem_of_getElem? (i := 28) rfl)) (hw _ (List.mem_of_getElem? (i := 30) rfl)) (hw _ (List.mem_of_getElem? (i := 29) rfl)) (hw _ (List.mem_of_getElem? (i := 2) rfl)) (hw _ (List.mem_of_getElem? (i := 31) rfl)) (by decide) (W := 0) (rest := []) (argsL := [(.int (1 : Int32)), (.long yy)]) (a := b101) (rmSet l Z a0 hw [] b101 (1 : Int32) yy ac102 av102 al102 _ _ _ _ occ129 T129.heap n0 (by omega) A129 Fd129 Fv129 Fl129 Fc129 Vv129 Vl129 S129 hd133 ho133 hlk129 (by omega) (by omega) (by omega) (by omega) (by omega) (by omega) Vd129 (by omega) (by omega) (by omega) (by omega) (by decide)) (by decide) (by decide) (by decide) (by decide) rfl A129 own_pd3 rfl (g := (mkF m 87 #[own_jv q0, .second, own_jv q1, .second, own_jv q2, .second, own_jv q3, .second, iv p4, rv b101, own_jv q0, .second, own_jv yy, .second, own_jv zz, .second, own_jv ww, .second, iv (2 : Int32), .unset, .unset, .unset, .unset, .unset, .unset] [(.long yy), (.int (1 : Int32)), (.ref b101)])) rfl (by rw [hml]; rfl) rfl (by show 2 * 0 + _ ≤ _; exact Nat.le_of_eq rfl) (hb hby at_87)
          obtain ⟨r132, d132, V132, K132f, occ132, rfl, N132q, K132, A132, Fc132, Fd132, Fv132, Fl132, Vc132, Vv132, Vl132, hcp132, hoc132, hlk132, S132⟩ := Q132
          have z132 := K132.1
          obtain ⟨ra132, rb132, rc132, rd132, re132, rf132⟩ := hcp132
          have rn132 := own_nat ra132
          have Vd132 : own_Arf Z T132.heap ac102 .byte 3 (fun k => .int ((fun k => if k = 1 then (nar .byte (r132.toInt8.toInt32)) else (fun k => if k = 0 then (nar .byte (r129.toInt8.toInt32)) else (fun _ => (0 : Int32)) k) k) k)) := Vc132
          have N132 := Fr.app N129 N132q
          refine own_st st132 ?_
          show own_Goes p e below s _ _ (T132.setTop (mkF m 90 #[own_jv q0, .second, own_jv q1, .second, own_jv q2, .second, own_jv q3, .second, iv p4, rv b101, own_jv q0, .second, own_jv yy, .second, own_jv zz, .second, own_jv ww, .second, iv (2 : Int32), .unset, .unset, .unset, .unset, .unset, .unset] []))
          refine own_st (fun _ k => XS.aload X132.here hx rfl (hb hby at_90) rfl rfl  k) ?_
          show own_Goes p e below s _ _ (T132.setTop (mkF m 92 #[own_jv q0, .second, own_jv q1, .second, own_jv q2, .second, own_jv q3, .second, iv p4, rv b101, own_jv q0, .second, own_jv yy, .second, own_jv zz, .second, own_jv ww, .second, iv (2 : Int32), .unset, .unset, .unset, .unset, .unset, .unset] [(.ref b101)]))
          refine own_st (fun _ k => XS.iconst X132.here hx rfl (hb hby at_92) k) ?_
          show own_Goes p e below s _ _ (T132.setTop (mkF m 93 #[own_jv q0, .second, own_jv q1, .second, own_jv q2, .second, own_jv q3, .second, iv p4, rv b101, own_jv q0, .second, own_jv yy, .second, own_jv zz, .second, own_jv ww, .second, iv (2 : Int32), .unset, .unset, .unset, .unset, .unset, .unset] [(.int (2 : Int32)), (.ref b101)]))
          refine own_st (fun _ k => XS.lload X132.here hx rfl (hb hby at_93) rfl  k) ?_
          show own_Goes p e below s _ _ (T132.setTop (mkF m 95 #[own_jv q0, .second, own_jv q1, .second, own_jv q2, .second, own_jv q3, .second, iv p4, rv b101, own_jv q0, .second, own_jv yy, .second, own_jv zz, .second, own_jv ww, .second, iv (2 : Int32), .unset, .unset, .unset, .unset, .unset, .unset] [(.long zz), (.int (2 : Int32)), (.ref b101)]))
          have ho135 : occ132.length ≤ 3 := by omega
          have hd135 : 0 ≤ d132.toInt ∧ d132.toInt ≤ 100 := by omega
          obtain ⟨v134, T134, L134, X134, Q134, st134⟩ := own_callV X132 hx hZ (C := "com/example/reach2/reach2/model/CodedColumn") (y := (⟨"com/example/reach2/reach2/model/CodedColumn", "set", "(IJ)V"⟩ : MethodName)) hown (hw _ (List.mem_of_getElem? (i := 27) rfl)) (hw _ (List.mem_of_getElem? (i := 28) rfl)) (hw _ (List.mem_of_getElem? (i := 30) rfl)) (hw _ (List.mem_of_getElem? (i := 29) rfl)) (hw _ (List.mem_of_getElem? (i := 2) rfl)) (hw _ (List.mem_of_getElem? (i := 31) rfl)) (by decide) (W := 0) (rest := []) (argsL := [(.int (2 : Int32)), (.long zz)]) (a := b101) (rmSet l Z a0 hw [] b101 (2 : Int32) zz ac102 av102 al102 _ _ _ _ occ132 T132.heap n0 (by omega) A132 Fd132 Fv132 Fl132 Fc132 Vv132 Vl132 S132 hd135 ho135 hlk132 (by omega) (by omega) (by omega) (by omega) (by omega) (by omega) Vd132 (by omega) (by omega) (by omega) (by omega) (by decide)) (by decide) (by decide) (by decide) (by decide) rfl A132 own_pd3 rfl (g := (mkF m 95 #[own_jv q0, .second, own_jv q1, .second, own_jv q2, .second, own_jv q3, .second, iv p4, rv b101, own_jv q0, .second, own_jv yy, .second, own_jv zz, .second, own_jv ww, .second, iv (2 : Int32), .unset, .unset, .unset, .unset, .unset, .unset] [(.long zz), (.int (2 : Int32)), (.ref b101)])) rfl (by rw [hml]; rfl) rfl (by show 2 * 0 + _ ≤ _; exact Nat.le_of_eq rfl) (hb hby at_95)
          obtain ⟨r134, d134, V134, K134f, occ134, rfl, N134q, K134, A134, Fc134, Fd134, Fv134, Fl134, Vc134, Vv134, Vl134, hcp134, hoc134, hlk134, S134⟩ := Q134
          have z134 := K134.1
          obtain ⟨ra134, rb134, rc134, rd134, re134, rf134⟩ := hcp134
          have rn134 := own_nat ra134
          have Vd134 : own_Arf Z T134.heap ac102 .byte 3 (fun k => .int ((fun k => if k = 2 then (nar .byte (r134.toInt8.toInt32)) else (fun k => if k = 1 then (nar .byte (r132.toInt8.toInt32)) else (fun k => if k = 0 then (nar .byte (r129.toInt8.toInt32)) else (fun _ => (0 : Int32)) k) k) k) k)) := Vc134
          have N134 := Fr.app N132 N134q
          refine own_st st134 ?_
          show own_Goes p e below s _ _ (T134.setTop (mkF m 98 #[own_jv q0, .second, own_jv q1, .second, own_jv q2, .second, own_jv q3, .second, iv p4, rv b101, own_jv q0, .second, own_jv yy, .second, own_jv zz, .second, own_jv ww, .second, iv (2 : Int32), .unset, .unset, .unset, .unset, .unset, .unset] []))
          refine own_st (fun _ k => XS.aload X134.here hx rfl (hb hby at_98) rfl rfl  k) ?_
          show own_Goes p e below s _ _ (T134.setTop (mkF m 100 #[own_jv q0, .second, own_jv q1, .second, own_jv q2, .second, own_jv q3, .second, iv p4, rv b101, own_jv q0, .second, own_jv yy, .second, own_jv zz, .second, own_jv ww, .second, iv (2 : Int32), .unset, .unset, .unset, .unset, .unset, .unset] [(.ref b101)]))
          refine own_st (fun _ k => XS.iload X134.here hx rfl (hb hby at_100) rfl  k) ?_
          show own_Goes p e below s _ _ (T134.setTop (mkF m 102 #[own_jv q0, .second, own_jv q1, .second, own_jv q2, .second, own_jv q3, .second, iv p4, rv b101, own_jv q0, .second, own_jv yy, .second, own_jv zz, .second, own_jv ww, .second, iv (2 : Int32), .unset, .unset, .unset, .unset, .unset, .unset] [(.int (2 : Int32)), (.ref b101)]))
          refine own_st (fun _ k => XS.lload X134.here hx rfl (hb hby at_102) rfl  k) ?_
          show own_Goes p e below s _ _ (T134.setTop (mkF m 104 #[own_jv q0, .second, own_jv q1, .second, own_jv q2, .second, own_jv q3, .second, iv p4, rv b101, own_jv q0, .second, own_jv yy, .second, own_jv zz, .second, own_jv ww, .second, iv (2 : Int32), .unset, .unset, .unset, .unset, .unset, .unset] [(.long ww), (.int (2 : Int32)), (.ref b101)]))
          have ho137 : occ134.length ≤ 3 := by omega
          have hd137 : 0 ≤ d134.toInt ∧ d134.toInt ≤ 100 := by omega
          obtain ⟨v136, T136, L136, X136, Q136, st136⟩ := own_callV X134 hx hZ (C := "com/example/reach2/reach2/model/CodedColumn") (y := (⟨"com/example/reach2/reach2/model/CodedColumn", "set", "(IJ)V"⟩ : MethodName)) hown (hw _ (List.mem_of_getElem? (i := 27) rfl)) (hw _ (List.mem_of_getElem? (i := 28) rfl)) (hw _ (List.mem_of_getElem? (i := 30) rfl)) (hw _ (List.mem_of_getElem? (i := 29) rfl)) (hw _ (List.mem_of_getElem? (i := 2) rfl)) (hw _ (List.mem_of_getElem? (i := 31) rfl)) (by decide) (W := 0) (rest := []) (argsL := [(.int (2 : Int32)), (.long ww)]) (a := b101) (rmSet l Z a0 hw [] b101 (2 : Int32) ww ac102 av102 al102 _ _ _ _ occ134 T134.heap n0 (by omega) A134 Fd134 Fv134 Fl134 Fc134 Vv134 Vl134 S134 hd137 ho137 hlk134 (by omega) (by omega) (by omega) (by omega) (by omega) (by omega) Vd134 (by omega) (by omega) (by omega) (by omega) (by decide)) (by decide) (by decide) (by decide) (by decide) rfl A134 own_pd3 rfl (g := (mkF m 104 #[own_jv q0, .second, own_jv q1, .second, own_jv q2, .second, own_jv q3, .second, iv p4, rv b101, own_jv q0, .second, own_jv yy, .second, own_jv zz, .second, own_jv ww, .second, iv (2 : Int32), .unset, .unset, .unset, .unset, .unset, .unset] [(.long ww), (.int (2 : Int32)), (.ref b101)])) rfl (by rw [hml]; rfl) rfl (by show 2 * 0 + _ ≤ _; exact Nat.le_of_eq rfl) (hb hby at_104)
          obtain ⟨r136, d136, V136, K136f, occ136, rfl, N136q, K136, A136, Fc136, Fd136, Fv136, Fl136, Vc136, Vv136, Vl136, hcp136, hoc136, hlk136, S136⟩ := Q136
          have z136 := K136.1
          obtain ⟨ra136, rb136, rc136, rd136, re136, rf136⟩ := hcp136
          have rn136 := own_nat ra136
          have Vd136 : own_Arf Z T136.heap ac102 .byte 3 (fun k => .int ((fun k => if k = 2 then (nar .byte (r136.toInt8.toInt32)) else (fun k => if k = 2 then (nar .byte (r134.toInt8.toInt32)) else (fun k => if k = 1 then (nar .byte (r132.toInt8.toInt32)) else (fun k => if k = 0 then (nar .byte (r129.toInt8.toInt32)) else (fun _ => (0 : Int32)) k) k) k) k) k)) := Vc136
          have N136 := Fr.app N134 N136q
          refine own_st st136 ?_
          show own_Goes p e below s _ _ (T136.setTop (mkF m 107 #[own_jv q0, .second, own_jv q1, .second, own_jv q2, .second, own_jv q3, .second, iv p4, rv b101, own_jv q0, .second, own_jv yy, .second, own_jv zz, .second, own_jv ww, .second, iv (2 : Int32), .unset, .unset, .unset, .unset, .unset, .unset] []))
          refine own_st (fun _ k => XS.iload X136.here hx rfl (hb hby at_107) rfl  k) ?_
          show own_Goes p e below s _ _ (T136.setTop (mkF m 109 #[own_jv q0, .second, own_jv q1, .second, own_jv q2, .second, own_jv q3, .second, iv p4, rv b101, own_jv q0, .second, own_jv yy, .second, own_jv zz, .second, own_jv ww, .second, iv (2 : Int32), .unset, .unset, .unset, .unset, .unset, .unset] [(.int (2 : Int32))]))
          refine own_st (fun _ k => XS.ifYes X136.here hx rfl (pc0 := 109) (pc' := 117) rfl (hb hby at_109) rfl ((if0 _ _).trans (feq (by decide : ¬ ((2 : Int32) = (0 : Int32)))).2) (by decide) (by decide) k) ?_
          show own_Goes p e below s _ _ (T136.setTop (mkF m 117 #[own_jv q0, .second, own_jv q1, .second, own_jv q2, .second, own_jv q3, .second, iv p4, rv b101, own_jv q0, .second, own_jv yy, .second, own_jv zz, .second, own_jv ww, .second, iv (2 : Int32), .unset, .unset, .unset, .unset, .unset, .unset] []))
          refine own_st (fun _ k => XS.lload X136.here hx rfl (hb hby at_117) rfl  k) ?_
          show own_Goes p e below s _ _ (T136.setTop (mkF m 119 #[own_jv q0, .second, own_jv q1, .second, own_jv q2, .second, own_jv q3, .second, iv p4, rv b101, own_jv q0, .second, own_jv yy, .second, own_jv zz, .second, own_jv ww, .second, iv (2 : Int32), .unset, .unset, .unset, .unset, .unset, .unset] [(.long q0)]))
          refine own_st (fun _ k => XS.lstore X136.here hx rfl (hb hby at_119) rfl (l' := #[own_jv q0, .second, own_jv q1, .second, own_jv q2, .second, own_jv q3, .second, iv p4, rv b101, own_jv q0, .second, own_jv yy, .second, own_jv zz, .second, own_jv ww, .second, iv (2 : Int32), own_jv q0, .second, .unset, .unset, .unset, .unset]) rfl k) ?_
          show own_Goes p e below s _ _ (T136.setTop (mkF m 121 #[own_jv q0, .second, own_jv q1, .second, own_jv q2, .second, own_jv q3, .second, iv p4, rv b101, own_jv q0, .second, own_jv yy, .second, own_jv zz, .second, own_jv ww, .second, iv (2 : Int32), own_jv q0, .second, .unset, .unset, .unset, .unset] []))
          refine own_st (fun _ k => XS.iload X136.here hx rfl (hb hby at_121) rfl  k) ?_
          show own_Goes p e below s _ _ (T136.setTop (mkF m 123 #[own_jv q0, .second, own_jv q1, .second, own_jv q2, .second, own_jv q3, .second, iv p4, rv b101, own_jv q0, .second, own_jv yy, .second, own_jv zz, .second, own_jv ww, .second, iv (2 : Int32), own_jv q0, .second, .unset, .unset, .unset, .unset] [(.int (2 : Int32))]))
          refine own_st (fun _ k => XS.iconst X136.here hx rfl (hb hby at_123) k) ?_
          show own_Goes p e below s _ _ (T136.setTop (mkF m 124 #[own_jv q0, .second, own_jv q1, .second, own_jv q2, .second, own_jv q3, .second, iv p4, rv b101, own_jv q0, .second, own_jv yy, .second, own_jv zz, .second, own_jv ww, .second, iv (2 : Int32), own_jv q0, .second, .unset, .unset, .unset, .unset] [(.int (1 : Int32)), (.int (2 : Int32))]))
          refine own_st (fun _ k => XS.icmpYes X136.here hx rfl (pc0 := 124) (pc' := 132) rfl (hb hby at_124) rfl (feq (by decide : ¬ ((2 : Int32) = (1 : Int32)))).2 (by decide) (by decide) k) ?_
          show own_Goes p e below s _ _ (T136.setTop (mkF m 132 #[own_jv q0, .second, own_jv q1, .second, own_jv q2, .second, own_jv q3, .second, iv p4, rv b101, own_jv q0, .second, own_jv yy, .second, own_jv zz, .second, own_jv ww, .second, iv (2 : Int32), own_jv q0, .second, .unset, .unset, .unset, .unset] []))
          refine own_st (fun _ k => XS.lload X136.here hx rfl (hb hby at_132) rfl  k) ?_
          show own_Goes p e below s _ _ (T136.setTop (mkF m 134 #[own_jv q0, .second, own_jv q1, .second, own_jv q2, .second, own_jv q3, .second, iv p4, rv b101, own_jv q0, .second, own_jv yy, .second, own_jv zz, .second, own_jv ww, .second, iv (2 : Int32), own_jv q0, .second, .unset, .unset, .unset, .unset] [(.long yy)]))
          refine own_st (fun _ k => XS.lstore X136.here hx rfl (hb hby at_134) rfl (l' := #[own_jv q0, .second, own_jv q1, .second, own_jv q2, .second, own_jv q3, .second, iv p4, rv b101, own_jv q0, .second, own_jv yy, .second, own_jv zz, .second, own_jv ww, .second, iv (2 : Int32), own_jv q0, .second, own_jv yy, .second, .unset, .unset]) rfl k) ?_
          show own_Goes p e below s _ _ (T136.setTop (mkF m 136 #[own_jv q0, .second, own_jv q1, .second, own_jv q2, .second, own_jv q3, .second, iv p4, rv b101, own_jv q0, .second, own_jv yy, .second, own_jv zz, .second, own_jv ww, .second, iv (2 : Int32), own_jv q0, .second, own_jv yy, .second, .unset, .unset] []))
          refine own_st (fun _ k => XS.iload X136.here hx rfl (hb hby at_136) rfl  k) ?_
          show own_Goes p e below s _ _ (T136.setTop (mkF m 138 #[own_jv q0, .second, own_jv q1, .second, own_jv q2, .second, own_jv q3, .second, iv p4, rv b101, own_jv q0, .second, own_jv yy, .second, own_jv zz, .second, own_jv ww, .second, iv (2 : Int32), own_jv q0, .second, own_jv yy, .second, .unset, .unset] [(.int (2 : Int32))]))
          refine own_st (fun _ k => XS.iconst X136.here hx rfl (hb hby at_138) k) ?_
          show own_Goes p e below s _ _ (T136.setTop (mkF m 139 #[own_jv q0, .second, own_jv q1, .second, own_jv q2, .second, own_jv q3, .second, iv p4, rv b101, own_jv q0, .second, own_jv yy, .second, own_jv zz, .second, own_jv ww, .second, iv (2 : Int32), own_jv q0, .second, own_jv yy, .second, .unset, .unset] [(.int (2 : Int32)), (.int (2 : Int32))]))
          refine own_st (fun _ k => XS.icmpNo X136.here hx rfl (hb hby at_139) rfl (teq (by decide : (2 : Int32) = (2 : Int32))).2 k) ?_
          show own_Goes p e below s _ _ (T136.setTop (mkF m 142 #[own_jv q0, .second, own_jv q1, .second, own_jv q2, .second, own_jv q3, .second, iv p4, rv b101, own_jv q0, .second, own_jv yy, .second, own_jv zz, .second, own_jv ww, .second, iv (2 : Int32), own_jv q0, .second, own_jv yy, .second, .unset, .unset] []))
          refine own_st (fun _ k => XS.lload X136.here hx rfl (hb hby at_142) rfl  k) ?_
          show own_Goes p e below s _ _ (T136.setTop (mkF m 144 #[own_jv q0, .second, own_jv q1, .second, own_jv q2, .second, own_jv q3, .second, iv p4, rv b101, own_jv q0, .second, own_jv yy, .second, own_jv zz, .second, own_jv ww, .second, iv (2 : Int32), own_jv q0, .second, own_jv yy, .second, .unset, .unset] [(.long ww)]))
          refine own_st (fun _ k => XS.goto X136.here hx rfl (pc0 := 144) (pc' := 149) rfl (hb hby at_144) (by decide) (by decide) k) ?_
          show own_Goes p e below s _ _ (T136.setTop (mkF m 149 #[own_jv q0, .second, own_jv q1, .second, own_jv q2, .second, own_jv q3, .second, iv p4, rv b101, own_jv q0, .second, own_jv yy, .second, own_jv zz, .second, own_jv ww, .second, iv (2 : Int32), own_jv q0, .second, own_jv yy, .second, .unset, .unset] [(.long ww)]))
          refine own_st (fun _ k => XS.lstore X136.here hx rfl (hb hby at_149) rfl (l' := #[own_jv q0, .second, own_jv q1, .second, own_jv q2, .second, own_jv q3, .second, iv p4, rv b101, own_jv q0, .second, own_jv yy, .second, own_jv zz, .second, own_jv ww, .second, iv (2 : Int32), own_jv q0, .second, own_jv yy, .second, own_jv ww, .second]) rfl k) ?_
          show own_Goes p e below s _ _ (T136.setTop (mkF m 151 #[own_jv q0, .second, own_jv q1, .second, own_jv q2, .second, own_jv q3, .second, iv p4, rv b101, own_jv q0, .second, own_jv yy, .second, own_jv zz, .second, own_jv ww, .second, iv (2 : Int32), own_jv q0, .second, own_jv yy, .second, own_jv ww, .second] []))
          refine own_st (fun _ k => XS.aload X136.here hx rfl (hb hby at_151) rfl rfl  k) ?_
          show own_Goes p e below s _ _ (T136.setTop (mkF m 153 #[own_jv q0, .second, own_jv q1, .second, own_jv q2, .second, own_jv q3, .second, iv p4, rv b101, own_jv q0, .second, own_jv yy, .second, own_jv zz, .second, own_jv ww, .second, iv (2 : Int32), own_jv q0, .second, own_jv yy, .second, own_jv ww, .second] [(.ref b101)]))
          refine own_st (fun _ k => XS.iconst X136.here hx rfl (hb hby at_153) k) ?_
          show own_Goes p e below s _ _ (T136.setTop (mkF m 154 #[own_jv q0, .second, own_jv q1, .second, own_jv q2, .second, own_jv q3, .second, iv p4, rv b101, own_jv q0, .second, own_jv yy, .second, own_jv zz, .second, own_jv ww, .second, iv (2 : Int32), own_jv q0, .second, own_jv yy, .second, own_jv ww, .second] [(.int (0 : Int32)), (.ref b101)]))
          obtain ⟨v138, T138, L138, X138, Q138, st138⟩ := own_callV X136 hx hZ (C := "com/example/reach2/reach2/model/CodedColumn") (y := (⟨"com/example/reach2/reach2/model/CodedColumn", "get", "(I)J"⟩ : MethodName)) hown (hw _ (List.mem_of_getElem? (i := 39) rfl)) (hw _ (List.mem_of_getElem? (i := 40) rfl)) (hw _ (List.mem_of_getElem? (i := 42) rfl)) (hw _ (List.mem_of_getElem? (i := 41) rfl)) (hw _ (List.mem_of_getElem? (i := 2) rfl)) (hw _ (List.mem_of_getElem? (i := 43) rfl)) (by decide) (W := 0) (rest := []) (argsL := [(.int (0 : Int32))]) (a := b101) (rmGet l Z a0 hw [] b101 (0 : Int32) _ _ _ _ T136.heap n0 (by omega) Fc136 Fv136 Vd136 Vv136 (by decide)) (by decide) (by decide) (by decide) (by decide) rfl A136 own_pd4 rfl (g := (mkF m 154 #[own_jv q0, .second, own_jv q1, .second, own_jv q2, .second, own_jv q3, .second, iv p4, rv b101, own_jv q0, .second, own_jv yy, .second, own_jv zz, .second, own_jv ww, .second, iv (2 : Int32), own_jv q0, .second, own_jv yy, .second, own_jv ww, .second] [(.int (0 : Int32)), (.ref b101)])) rfl (by rw [hml]; rfl) rfl (by show 2 * 0 + _ ≤ _; exact Nat.le_of_eq rfl) (hb hby at_154)
          obtain ⟨g138, rfl, hg138, N138q, e138⟩ := Q138
          obtain rfl : q0 = g138 := (hg138.trans (own_at (by omega) ((rf136 _ (by omega)).trans ((rf134 _ (by omega)).trans ((rf132 _ (by omega)).trans re129))))).symm
          have N138 := Fr.app N136 N138q
          refine own_st st138 ?_
          show own_Goes p e below s _ _ (T138.setTop (mkF m 157 #[own_jv q0, .second, own_jv q1, .second, own_jv q2, .second, own_jv q3, .second, iv p4, rv b101, own_jv q0, .second, own_jv yy, .second, own_jv zz, .second, own_jv ww, .second, iv (2 : Int32), own_jv q0, .second, own_jv yy, .second, own_jv ww, .second] [(.long q0)]))
          refine own_st (fun _ k => XS.lload X138.here hx rfl (hb hby at_157) rfl  k) ?_
          show own_Goes p e below s _ _ (T138.setTop (mkF m 159 #[own_jv q0, .second, own_jv q1, .second, own_jv q2, .second, own_jv q3, .second, iv p4, rv b101, own_jv q0, .second, own_jv yy, .second, own_jv zz, .second, own_jv ww, .second, iv (2 : Int32), own_jv q0, .second, own_jv yy, .second, own_jv ww, .second] [(.long q0), (.long q0)]))
          refine own_st (fun _ k => XS.lcmp X138.here hx rfl (hb hby at_159) rfl k) ?_
          show own_Goes p e below s _ _ (T138.setTop (mkF m 160 #[own_jv q0, .second, own_jv q1, .second, own_jv q2, .second, own_jv q3, .second, iv p4, rv b101, own_jv q0, .second, own_jv yy, .second, own_jv zz, .second, own_jv ww, .second, iv (2 : Int32), own_jv q0, .second, own_jv yy, .second, own_jv ww, .second] [(.int (lcmpW q0 q0))]))
          refine own_st (fun _ k => XS.ifNo X138.here hx rfl (hb hby at_160) rfl ((if0 _ _).trans (teq ((lw_eq _ _).mpr (rfl : q0 = q0))).2) k) ?_
          show own_Goes p e below s _ _ (T138.setTop (mkF m 163 #[own_jv q0, .second, own_jv q1, .second, own_jv q2, .second, own_jv q3, .second, iv p4, rv b101, own_jv q0, .second, own_jv yy, .second, own_jv zz, .second, own_jv ww, .second, iv (2 : Int32), own_jv q0, .second, own_jv yy, .second, own_jv ww, .second] []))
          refine own_st (fun _ k => XS.aload X138.here hx rfl (hb hby at_163) rfl rfl  k) ?_
          show own_Goes p e below s _ _ (T138.setTop (mkF m 165 #[own_jv q0, .second, own_jv q1, .second, own_jv q2, .second, own_jv q3, .second, iv p4, rv b101, own_jv q0, .second, own_jv yy, .second, own_jv zz, .second, own_jv ww, .second, iv (2 : Int32), own_jv q0, .second, own_jv yy, .second, own_jv ww, .second] [(.ref b101)]))
          refine own_st (fun _ k => XS.iconst X138.here hx rfl (hb hby at_165) k) ?_
          show own_Goes p e below s _ _ (T138.setTop (mkF m 166 #[own_jv q0, .second, own_jv q1, .second, own_jv q2, .second, own_jv q3, .second, iv p4, rv b101, own_jv q0, .second, own_jv yy, .second, own_jv zz, .second, own_jv ww, .second, iv (2 : Int32), own_jv q0, .second, own_jv yy, .second, own_jv ww, .second] [(.int (1 : Int32)), (.ref b101)]))
          obtain ⟨v139, T139, L139, X139, Q139, st139⟩ := own_callV X138 hx hZ (C := "com/example/reach2/reach2/model/CodedColumn") (y := (⟨"com/example/reach2/reach2/model/CodedColumn", "get", "(I)J"⟩ : MethodName)) hown (hw _ (List.mem_of_getElem? (i := 39) rfl)) (hw _ (List.mem_of_getElem? (i := 40) rfl)) (hw _ (List.mem_of_getElem? (i := 42) rfl)) (hw _ (List.mem_of_getElem? (i := 41) rfl)) (hw _ (List.mem_of_getElem? (i := 2) rfl)) (hw _ (List.mem_of_getElem? (i := 43) rfl)) (by decide) (W := 0) (rest := []) (argsL := [(.int (1 : Int32))]) (a := b101) (rmGet l Z a0 hw [] b101 (1 : Int32) _ _ _ _ T136.heap n0 (by omega) Fc136 Fv136 Vd136 Vv136 (by decide)) (by decide) (by decide) (by decide) (by decide) e138 A136 own_pd4 rfl (g := (mkF m 166 #[own_jv q0, .second, own_jv q1, .second, own_jv q2, .second, own_jv q3, .second, iv p4, rv b101, own_jv q0, .second, own_jv yy, .second, own_jv zz, .second, own_jv ww, .second, iv (2 : Int32), own_jv q0, .second, own_jv yy, .second, own_jv ww, .second] [(.int (1 : Int32)), (.ref b101)])) rfl (by rw [hml]; rfl) rfl (by show 2 * 0 + _ ≤ _; exact Nat.le_of_eq rfl) (hb hby at_166)
          obtain ⟨g139, rfl, hg139, N139q, e139⟩ := Q139
          obtain rfl : yy = g139 := (hg139.trans (own_at (by omega) ((rf136 _ (by omega)).trans ((rf134 _ (by omega)).trans re132)))).symm
          have N139 := Fr.app N138 N139q
          refine own_st st139 ?_
          show own_Goes p e below s _ _ (T139.setTop (mkF m 169 #[own_jv q0, .second, own_jv q1, .second, own_jv q2, .second, own_jv q3, .second, iv p4, rv b101, own_jv q0, .second, own_jv yy, .second, own_jv zz, .second, own_jv ww, .second, iv (2 : Int32), own_jv q0, .second, own_jv yy, .second, own_jv ww, .second] [(.long yy)]))
          refine own_st (fun _ k => XS.lload X139.here hx rfl (hb hby at_169) rfl  k) ?_
          show own_Goes p e below s _ _ (T139.setTop (mkF m 171 #[own_jv q0, .second, own_jv q1, .second, own_jv q2, .second, own_jv q3, .second, iv p4, rv b101, own_jv q0, .second, own_jv yy, .second, own_jv zz, .second, own_jv ww, .second, iv (2 : Int32), own_jv q0, .second, own_jv yy, .second, own_jv ww, .second] [(.long yy), (.long yy)]))
          refine own_st (fun _ k => XS.lcmp X139.here hx rfl (hb hby at_171) rfl k) ?_
          show own_Goes p e below s _ _ (T139.setTop (mkF m 172 #[own_jv q0, .second, own_jv q1, .second, own_jv q2, .second, own_jv q3, .second, iv p4, rv b101, own_jv q0, .second, own_jv yy, .second, own_jv zz, .second, own_jv ww, .second, iv (2 : Int32), own_jv q0, .second, own_jv yy, .second, own_jv ww, .second] [(.int (lcmpW yy yy))]))
          refine own_st (fun _ k => XS.ifNo X139.here hx rfl (hb hby at_172) rfl ((if0 _ _).trans (teq ((lw_eq _ _).mpr (rfl : yy = yy))).2) k) ?_
          show own_Goes p e below s _ _ (T139.setTop (mkF m 175 #[own_jv q0, .second, own_jv q1, .second, own_jv q2, .second, own_jv q3, .second, iv p4, rv b101, own_jv q0, .second, own_jv yy, .second, own_jv zz, .second, own_jv ww, .second, iv (2 : Int32), own_jv q0, .second, own_jv yy, .second, own_jv ww, .second] []))
          refine own_st (fun _ k => XS.aload X139.here hx rfl (hb hby at_175) rfl rfl  k) ?_
          show own_Goes p e below s _ _ (T139.setTop (mkF m 177 #[own_jv q0, .second, own_jv q1, .second, own_jv q2, .second, own_jv q3, .second, iv p4, rv b101, own_jv q0, .second, own_jv yy, .second, own_jv zz, .second, own_jv ww, .second, iv (2 : Int32), own_jv q0, .second, own_jv yy, .second, own_jv ww, .second] [(.ref b101)]))
          refine own_st (fun _ k => XS.iconst X139.here hx rfl (hb hby at_177) k) ?_
          show own_Goes p e below s _ _ (T139.setTop (mkF m 178 #[own_jv q0, .second, own_jv q1, .second, own_jv q2, .second, own_jv q3, .second, iv p4, rv b101, own_jv q0, .second, own_jv yy, .second, own_jv zz, .second, own_jv ww, .second, iv (2 : Int32), own_jv q0, .second, own_jv yy, .second, own_jv ww, .second] [(.int (2 : Int32)), (.ref b101)]))
          obtain ⟨v140, T140, L140, X140, Q140, st140⟩ := own_callV X139 hx hZ (C := "com/example/reach2/reach2/model/CodedColumn") (y := (⟨"com/example/reach2/reach2/model/CodedColumn", "get", "(I)J"⟩ : MethodName)) hown (hw _ (List.mem_of_getElem? (i := 39) rfl)) (hw _ (List.mem_of_getElem? (i := 40) rfl)) (hw _ (List.mem_of_getElem? (i := 42) rfl)) (hw _ (List.mem_of_getElem? (i := 41) rfl)) (hw _ (List.mem_of_getElem? (i := 2) rfl)) (hw _ (List.mem_of_getElem? (i := 43) rfl)) (by decide) (W := 0) (rest := []) (argsL := [(.int (2 : Int32))]) (a := b101) (rmGet l Z a0 hw [] b101 (2 : Int32) _ _ _ _ T136.heap n0 (by omega) Fc136 Fv136 Vd136 Vv136 (by decide)) (by decide) (by decide) (by decide) (by decide) e139 A136 own_pd4 rfl (g := (mkF m 178 #[own_jv q0, .second, own_jv q1, .second, own_jv q2, .second, own_jv q3, .second, iv p4, rv b101, own_jv q0, .second, own_jv yy, .second, own_jv zz, .second, own_jv ww, .second, iv (2 : Int32), own_jv q0, .second, own_jv yy, .second, own_jv ww, .second] [(.int (2 : Int32)), (.ref b101)])) rfl (by rw [hml]; rfl) rfl (by show 2 * 0 + _ ≤ _; exact Nat.le_of_eq rfl) (hb hby at_178)
          obtain ⟨g140, rfl, hg140, N140q, e140⟩ := Q140
          obtain rfl : ww = g140 := (hg140.trans (own_at (by omega) re136)).symm
          have N140 := Fr.app N139 N140q
          refine own_st st140 ?_
          show own_Goes p e below s _ _ (T140.setTop (mkF m 181 #[own_jv q0, .second, own_jv q1, .second, own_jv q2, .second, own_jv q3, .second, iv p4, rv b101, own_jv q0, .second, own_jv yy, .second, own_jv zz, .second, own_jv ww, .second, iv (2 : Int32), own_jv q0, .second, own_jv yy, .second, own_jv ww, .second] [(.long ww)]))
          refine own_st (fun _ k => XS.lload X140.here hx rfl (hb hby at_181) rfl  k) ?_
          show own_Goes p e below s _ _ (T140.setTop (mkF m 183 #[own_jv q0, .second, own_jv q1, .second, own_jv q2, .second, own_jv q3, .second, iv p4, rv b101, own_jv q0, .second, own_jv yy, .second, own_jv zz, .second, own_jv ww, .second, iv (2 : Int32), own_jv q0, .second, own_jv yy, .second, own_jv ww, .second] [(.long ww), (.long ww)]))
          refine own_st (fun _ k => XS.lcmp X140.here hx rfl (hb hby at_183) rfl k) ?_
          show own_Goes p e below s _ _ (T140.setTop (mkF m 184 #[own_jv q0, .second, own_jv q1, .second, own_jv q2, .second, own_jv q3, .second, iv p4, rv b101, own_jv q0, .second, own_jv yy, .second, own_jv zz, .second, own_jv ww, .second, iv (2 : Int32), own_jv q0, .second, own_jv yy, .second, own_jv ww, .second] [(.int (lcmpW ww ww))]))
          refine own_st (fun _ k => XS.ifNo X140.here hx rfl (hb hby at_184) rfl ((if0 _ _).trans (teq ((lw_eq _ _).mpr (rfl : ww = ww))).2) k) ?_
          show own_Goes p e below s _ _ (T140.setTop (mkF m 187 #[own_jv q0, .second, own_jv q1, .second, own_jv q2, .second, own_jv q3, .second, iv p4, rv b101, own_jv q0, .second, own_jv yy, .second, own_jv zz, .second, own_jv ww, .second, iv (2 : Int32), own_jv q0, .second, own_jv yy, .second, own_jv ww, .second] []))
          refine own_st (fun _ k => XS.aload X140.here hx rfl (hb hby at_187) rfl rfl  k) ?_
          show own_Goes p e below s _ _ (T140.setTop (mkF m 189 #[own_jv q0, .second, own_jv q1, .second, own_jv q2, .second, own_jv q3, .second, iv p4, rv b101, own_jv q0, .second, own_jv yy, .second, own_jv zz, .second, own_jv ww, .second, iv (2 : Int32), own_jv q0, .second, own_jv yy, .second, own_jv ww, .second] [(.ref b101)]))
          obtain ⟨v141, T141, L141, X141, Q141, st141⟩ := own_callV X140 hx hZ (C := "com/example/reach2/reach2/model/CodedColumn") (y := (⟨"com/example/reach2/reach2/model/CodedColumn", "length", "()I"⟩ : MethodName)) hown (hw _ (List.mem_of_getElem? (i := 44) rfl)) (hw _ (List.mem_of_getElem? (i := 45) rfl)) (hw _ (List.mem_of_getElem? (i := 47) rfl)) (hw _ (List.mem_of_getElem? (i := 46) rfl)) (hw _ (List.mem_of_getElem? (i := 2) rfl)) (hw _ (List.mem_of_getElem? (i := 48) rfl)) (by decide) (W := 0) (rest := []) (argsL := []) (a := b101) (rmLen l Z a0 hw [] b101 _ _ T136.heap n0 (by omega) Fc136 Vd136) (by decide) (by decide) (by decide) (by decide) e140 A136 own_pd5 rfl (g := (mkF m 189 #[own_jv q0, .second, own_jv q1, .second, own_jv q2, .second, own_jv q3, .second, iv p4, rv b101, own_jv q0, .second, own_jv yy, .second, own_jv zz, .second, own_jv ww, .second, iv (2 : Int32), own_jv q0, .second, own_jv yy, .second, own_jv ww, .second] [(.ref b101)])) rfl (by rw [hml]; rfl) rfl (by show 2 * 0 + _ ≤ _; exact Nat.le_of_eq rfl) (hb hby at_189)
          obtain ⟨rfl, N141q, e141⟩ := Q141
          have N141 := Fr.app N140 N141q
          refine own_st st141 ?_
          show own_Goes p e below s _ _ (T141.setTop (mkF m 192 #[own_jv q0, .second, own_jv q1, .second, own_jv q2, .second, own_jv q3, .second, iv p4, rv b101, own_jv q0, .second, own_jv yy, .second, own_jv zz, .second, own_jv ww, .second, iv (2 : Int32), own_jv q0, .second, own_jv yy, .second, own_jv ww, .second] [(.int (3 : Int32))]))
          refine own_st (fun _ k => XS.iconst X141.here hx rfl (hb hby at_192) k) ?_
          show own_Goes p e below s _ _ (T141.setTop (mkF m 193 #[own_jv q0, .second, own_jv q1, .second, own_jv q2, .second, own_jv q3, .second, iv p4, rv b101, own_jv q0, .second, own_jv yy, .second, own_jv zz, .second, own_jv ww, .second, iv (2 : Int32), own_jv q0, .second, own_jv yy, .second, own_jv ww, .second] [(.int (3 : Int32)), (.int (3 : Int32))]))
          refine own_st (fun _ k => XS.icmpNo X141.here hx rfl (hb hby at_193) rfl (teq (by decide : (3 : Int32) = (3 : Int32))).2 k) ?_
          show own_Goes p e below s _ _ (T141.setTop (mkF m 196 #[own_jv q0, .second, own_jv q1, .second, own_jv q2, .second, own_jv q3, .second, iv p4, rv b101, own_jv q0, .second, own_jv yy, .second, own_jv zz, .second, own_jv ww, .second, iv (2 : Int32), own_jv q0, .second, own_jv yy, .second, own_jv ww, .second] []))
          refine own_st (fun _ k => XS.iconst X141.here hx rfl (hb hby at_196) k) ?_
          show own_Goes p e below s _ _ (T141.setTop (mkF m 197 #[own_jv q0, .second, own_jv q1, .second, own_jv q2, .second, own_jv q3, .second, iv p4, rv b101, own_jv q0, .second, own_jv yy, .second, own_jv zz, .second, own_jv ww, .second, iv (2 : Int32), own_jv q0, .second, own_jv yy, .second, own_jv ww, .second] [(.int (1 : Int32))]))
          refine own_st (fun _ k => XS.goto X141.here hx rfl (pc0 := 197) (pc' := 201) rfl (hb hby at_197) (by decide) (by decide) k) ?_
          show own_Goes p e below s _ _ (T141.setTop (mkF m 201 #[own_jv q0, .second, own_jv q1, .second, own_jv q2, .second, own_jv q3, .second, iv p4, rv b101, own_jv q0, .second, own_jv yy, .second, own_jv zz, .second, own_jv ww, .second, iv (2 : Int32), own_jv q0, .second, own_jv yy, .second, own_jv ww, .second] [(.int (1 : Int32))]))
          exact own_retN X141 hx hlk (1 : Int32) hret (Or.inl rfl) rfl (hb hby at_201) (by decide) (by decide) ⟨rfl, N141⟩
      by_cases c142 : (p4 &&& (4 : Int32)) = (0 : Int32)
      · have c142i : (p4 &&& (4 : Int32)).toInt = 0 := own_i_eq c142
        refine own_st (fun _ k => XS.ifYes X102.here hx rfl (pc0 := 51) (pc' := 59) rfl (hb hby at_51) rfl ((if0 _ _).trans (teq c142).1) (by decide) (by decide) k) ?_
        show own_Goes p e below s _ _ (T102.setTop (mkF m 59 #[own_jv q0, .second, own_jv q1, .second, own_jv q2, .second, own_jv q3, .second, iv p4, rv b101, own_jv q0, .second, own_jv yy, .second, own_jv zz, .second, .unset, .unset, .unset, .unset, .unset, .unset, .unset, .unset, .unset] []))
        refine own_st (fun _ k => XS.lload X102.here hx rfl (hb hby at_59) rfl  k) ?_
        show own_Goes p e below s _ _ (T102.setTop (mkF m 61 #[own_jv q0, .second, own_jv q1, .second, own_jv q2, .second, own_jv q3, .second, iv p4, rv b101, own_jv q0, .second, own_jv yy, .second, own_jv zz, .second, .unset, .unset, .unset, .unset, .unset, .unset, .unset, .unset, .unset] [(.long q3)]))
        exact J61 _
      · have c142i : ¬ (p4 &&& (4 : Int32)).toInt = 0 := own_i_ne c142
        refine own_st (fun _ k => XS.ifNo X102.here hx rfl (hb hby at_51) rfl ((if0 _ _).trans (feq c142).1) k) ?_
        show own_Goes p e below s _ _ (T102.setTop (mkF m 54 #[own_jv q0, .second, own_jv q1, .second, own_jv q2, .second, own_jv q3, .second, iv p4, rv b101, own_jv q0, .second, own_jv yy, .second, own_jv zz, .second, .unset, .unset, .unset, .unset, .unset, .unset, .unset, .unset, .unset] []))
        refine own_st (fun _ k => XS.lload X102.here hx rfl (hb hby at_54) rfl  k) ?_
        show own_Goes p e below s _ _ (T102.setTop (mkF m 56 #[own_jv q0, .second, own_jv q1, .second, own_jv q2, .second, own_jv q3, .second, iv p4, rv b101, own_jv q0, .second, own_jv yy, .second, own_jv zz, .second, .unset, .unset, .unset, .unset, .unset, .unset, .unset, .unset, .unset] [(.long yy)]))
        refine own_st (fun _ k => XS.goto X102.here hx rfl (pc0 := 56) (pc' := 61) rfl (hb hby at_56) (by decide) (by decide) k) ?_
        show own_Goes p e below s _ _ (T102.setTop (mkF m 61 #[own_jv q0, .second, own_jv q1, .second, own_jv q2, .second, own_jv q3, .second, iv p4, rv b101, own_jv q0, .second, own_jv yy, .second, own_jv zz, .second, .unset, .unset, .unset, .unset, .unset, .unset, .unset, .unset, .unset] [(.long yy)]))
        exact J61 _
    by_cases c143 : (p4 &&& (2 : Int32)) = (0 : Int32)
    · have c143i : (p4 &&& (2 : Int32)).toInt = 0 := own_i_eq c143
      refine own_st (fun _ k => XS.ifYes X102.here hx rfl (pc0 := 31) (pc' := 43) rfl (hb hby at_31) rfl ((if0 _ _).trans (teq c143).1) (by decide) (by decide) k) ?_
      show own_Goes p e below s _ _ (T102.setTop (mkF m 43 #[own_jv q0, .second, own_jv q1, .second, own_jv q2, .second, own_jv q3, .second, iv p4, rv b101, own_jv q0, .second, own_jv yy, .second, .unset, .unset, .unset, .unset, .unset, .unset, .unset, .unset, .unset, .unset, .unset] []))
      refine own_st (fun _ k => XS.lload X102.here hx rfl (hb hby at_43) rfl  k) ?_
      show own_Goes p e below s _ _ (T102.setTop (mkF m 45 #[own_jv q0, .second, own_jv q1, .second, own_jv q2, .second, own_jv q3, .second, iv p4, rv b101, own_jv q0, .second, own_jv yy, .second, .unset, .unset, .unset, .unset, .unset, .unset, .unset, .unset, .unset, .unset, .unset] [(.long q2)]))
      exact J45 _
    · have c143i : ¬ (p4 &&& (2 : Int32)).toInt = 0 := own_i_ne c143
      refine own_st (fun _ k => XS.ifNo X102.here hx rfl (hb hby at_31) rfl ((if0 _ _).trans (feq c143).1) k) ?_
      show own_Goes p e below s _ _ (T102.setTop (mkF m 34 #[own_jv q0, .second, own_jv q1, .second, own_jv q2, .second, own_jv q3, .second, iv p4, rv b101, own_jv q0, .second, own_jv yy, .second, .unset, .unset, .unset, .unset, .unset, .unset, .unset, .unset, .unset, .unset, .unset] []))
      refine own_st (fun _ k => XS.lload X102.here hx rfl (hb hby at_34) rfl  k) ?_
      show own_Goes p e below s _ _ (T102.setTop (mkF m 36 #[own_jv q0, .second, own_jv q1, .second, own_jv q2, .second, own_jv q3, .second, iv p4, rv b101, own_jv q0, .second, own_jv yy, .second, .unset, .unset, .unset, .unset, .unset, .unset, .unset, .unset, .unset, .unset, .unset] [(.long q2)]))
      refine own_st (fun _ k => X102.ldc2Long hx hown (mvT hZ (hw _ (List.mem_of_getElem? (i := 25) rfl))) (g := (mkF m 36 #[own_jv q0, .second, own_jv q1, .second, own_jv q2, .second, own_jv q3, .second, iv p4, rv b101, own_jv q0, .second, own_jv yy, .second, .unset, .unset, .unset, .unset, .unset, .unset, .unset, .unset, .unset, .unset, .unset] [(.long q2)])) rfl (hb hby at_36) _ k) ?_
      show own_Goes p e below s _ _ (T102.setTop (mkF m 39 #[own_jv q0, .second, own_jv q1, .second, own_jv q2, .second, own_jv q3, .second, iv p4, rv b101, own_jv q0, .second, own_jv yy, .second, .unset, .unset, .unset, .unset, .unset, .unset, .unset, .unset, .unset, .unset, .unset] [(.long (3 : Int64)), (.long q2)]))
      refine own_st (fun _ k => XS.land X102.here hx rfl (hb hby at_39) rfl k) ?_
      show own_Goes p e below s _ _ (T102.setTop (mkF m 40 #[own_jv q0, .second, own_jv q1, .second, own_jv q2, .second, own_jv q3, .second, iv p4, rv b101, own_jv q0, .second, own_jv yy, .second, .unset, .unset, .unset, .unset, .unset, .unset, .unset, .unset, .unset, .unset, .unset] [(.long (q2 &&& (3 : Int64)))]))
      refine own_st (fun _ k => XS.goto X102.here hx rfl (pc0 := 40) (pc' := 45) rfl (hb hby at_40) (by decide) (by decide) k) ?_
      show own_Goes p e below s _ _ (T102.setTop (mkF m 45 #[own_jv q0, .second, own_jv q1, .second, own_jv q2, .second, own_jv q3, .second, iv p4, rv b101, own_jv q0, .second, own_jv yy, .second, .unset, .unset, .unset, .unset, .unset, .unset, .unset, .unset, .unset, .unset, .unset] [(.long (q2 &&& (3 : Int64)))]))
      exact J45 _
  by_cases c144 : (p4 &&& (1 : Int32)) = (0 : Int32)
  · have c144i : (p4 &&& (1 : Int32)).toInt = 0 := own_i_eq c144
    refine own_st (fun _ k => XS.ifYes X102.here hx rfl (pc0 := 17) (pc' := 24) rfl (hb hby at_17) rfl ((if0 _ _).trans (teq c144).1) (by decide) (by decide) k) ?_
    show own_Goes p e below s _ _ (T102.setTop (mkF m 24 #[own_jv q0, .second, own_jv q1, .second, own_jv q2, .second, own_jv q3, .second, iv p4, rv b101, own_jv q0, .second, .unset, .unset, .unset, .unset, .unset, .unset, .unset, .unset, .unset, .unset, .unset, .unset, .unset] []))
    refine own_st (fun _ k => XS.lloadN X102.here hx rfl (hb hby at_24) rfl  k) ?_
    show own_Goes p e below s _ _ (T102.setTop (mkF m 25 #[own_jv q0, .second, own_jv q1, .second, own_jv q2, .second, own_jv q3, .second, iv p4, rv b101, own_jv q0, .second, .unset, .unset, .unset, .unset, .unset, .unset, .unset, .unset, .unset, .unset, .unset, .unset, .unset] [(.long q1)]))
    exact J25 _
  · have c144i : ¬ (p4 &&& (1 : Int32)).toInt = 0 := own_i_ne c144
    refine own_st (fun _ k => XS.ifNo X102.here hx rfl (hb hby at_17) rfl ((if0 _ _).trans (feq c144).1) k) ?_
    show own_Goes p e below s _ _ (T102.setTop (mkF m 20 #[own_jv q0, .second, own_jv q1, .second, own_jv q2, .second, own_jv q3, .second, iv p4, rv b101, own_jv q0, .second, .unset, .unset, .unset, .unset, .unset, .unset, .unset, .unset, .unset, .unset, .unset, .unset, .unset] []))
    refine own_st (fun _ k => XS.lloadN X102.here hx rfl (hb hby at_20) rfl  k) ?_
    show own_Goes p e below s _ _ (T102.setTop (mkF m 21 #[own_jv q0, .second, own_jv q1, .second, own_jv q2, .second, own_jv q3, .second, iv p4, rv b101, own_jv q0, .second, .unset, .unset, .unset, .unset, .unset, .unset, .unset, .unset, .unset, .unset, .unset, .unset, .unset] [(.long q0)]))
    refine own_st (fun _ k => XS.goto X102.here hx rfl (pc0 := 21) (pc' := 25) rfl (hb hby at_21) (by decide) (by decide) k) ?_
    show own_Goes p e below s _ _ (T102.setTop (mkF m 25 #[own_jv q0, .second, own_jv q1, .second, own_jv q2, .second, own_jv q3, .second, iv p4, rv b101, own_jv q0, .second, .unset, .unset, .unset, .unset, .unset, .unset, .unset, .unset, .unset, .unset, .unset, .unset, .unset] [(.long q0)]))
    exact J25 _
set_option maxRecDepth 65536 in
set_option maxHeartbeats 40000000 in
theorem comes_1 {Post : Tables → Env → Array Value → State → Outcome → State → Prop} (hpost : ∀ tb e args s v u, (limb_1_1.after args s (.returned v) u = true ∧ limb_1_2.after args s (.returned v) u = true ∧ True) → FrameEnd s (.returned v) u (Jvm.fieldLocs frame_1_writes args s ++ Jvm.arrayLocs frame_1_arrays args s ++ Jvm.staticLocs frame_1_statics s) 16 1664 → Post tb e args s (.returned v) u) :
    ArmFor flags0 classFile x code maxLocals ret World_1 tables_1 room_1 Calls_1 rest_1 Pre_1 Post := by
  intro l hfl _ _ p e ha hc hk s m args below hf hA hF happ hP
  obtain ⟨hcalls, hrest, hpre⟩ := hP
  obtain ⟨-, -, -, hnamed, -, -, -, hat⟩ := (Spec.applies_iff hf).mp happ
  obtain ⟨hg, hn⟩ := and_e (Cond.before_iff.mp (show (Jvm.Cond.and given_1 narrow_1).before args s = true from hpre))
  obtain ⟨hcnt, q0⟩ := and_e hg
  obtain ⟨u0, q1⟩ := and_e q0
  obtain ⟨u1, q2⟩ := and_e q1
  obtain ⟨u2, q3⟩ := and_e q2
  obtain ⟨u3, q4⟩ := and_e q3
  obtain ⟨w0, w1, w2, w3, w4, rfl⟩ : ∃ w0 w1 w2 w3 w4 : Value, args = #[w0, w1, w2, w3, w4] := by
    have hs : args.size = 5 := by simpa [Cond.value, given_1] using hcnt
    obtain ⟨L⟩ := args
    match L, hs with
    | [w0, w1, w2, w3, w4], _ => exact ⟨w0, w1, w2, w3, w4, rfl⟩
  have hw := fun d (hd : d ∈ tables_1) => atoms_spec (ws := Jvm.Cond.code x code maxLocals ret :: tables_1) hat d (List.mem_cons_of_mem _ hd)
  have hfit : Fit s := fun {y c} hc i hi => by
    obtain ⟨ha, rfl⟩ := Array.getElem?_eq_some_iff.mp hc
    have q := List.all_eq_true.mp ((Array.all_eq_true_iff_forall_mem.mp hF) _ (Array.getElem_mem ha)) i (List.mem_range.mpr hi)
    simpa [Array.getElem?_eq_getElem hi] using q
  obtain ⟨i0, ei0⟩ := isL_v u0
  obtain rfl : w0 = (.long i0) := Option.some.inj ei0
  obtain ⟨i1, ei1⟩ := isL_v u1
  obtain rfl : w1 = (.long i1) := Option.some.inj ei1
  obtain ⟨i2, ei2⟩ := isL_v u2
  obtain rfl : w2 = (.long i2) := Option.some.inj ei2
  obtain ⟨i3, ei3⟩ := isL_v u3
  obtain rfl : w3 = (.long i3) := Option.some.inj ei3
  obtain ⟨i4, ei4⟩ := is_v q4
  obtain rfl : w4 = (.int i4) := Option.some.inj ei4
  have ehi := own_teq hn
  have S1 : Sta s s.heap "com/example/reach2/reach2/model/CodedColumn" "LOOKUP_SHIFT" "I" (.int (55 : Int32)) := Sta.start ehi (Or.inr ⟨(hw _ (List.mem_of_getElem? (i := 2) rfl)), (hw _ (List.mem_of_getElem? (i := 38) rfl))⟩)
  obtain ⟨n, o, h1, h2, h3, _, L, rfl, ⟨rfl, N⟩, hq⟩ := rm0 l s _ hw tables_1 i0 i1 i2 i3 i4 s.heap s.heap.size (Nat.le_refl _) S1 p e ha hc hk s m _ below hf ((Spec.applies_iff_loose hf).mp happ).1 ⟨rfl, State.Warmed39.refl s, rfl⟩ trivial
  refine ⟨n, _, h1, h2, h3, hpost _ _ _ _ _ _ ⟨Cond.after_iff.mpr rfl, Cond.after_iff.mpr (eq_i res_at (Term.int_eval (1)) rfl), trivial⟩ ⟨hq.1, hq.2.1, (hq.2.2.sift fun y hy => Or.inr (N y hy)).mono (by decide) (by decide)⟩⟩
theorem main_1_1 : Claimed_1_1 := comes_1 fun _ _ _ _ _ _ h hF => ⟨h.1, hF⟩
theorem main_1_2 : Claimed_1_2 := comes_1 fun _ _ _ _ _ _ h hF => ⟨h.2.1, hF⟩
end Jvm.Pilot.@@N@@
namespace Jvm.Pilot.@@N@@
open Jvm Jvm.ClassFile Sem Op Lib Jvm.Free Jvm.Stand Jvm.Pilot.@@N@@.Jvm.D
/-! MADE BY PROGRAM (witnessworld.py) out of the Statement's table words and the real class files: 13 classes; the members and pool entries that the words name. The judged class is class 1, her method 1. -/
namespace start1
open Jvm.ClassFile
def u (s : String) : CpInfo := .utf8 (stringToUtf16 s)
/-- a pool by its gaps: so many unusable entries, then the entry; so many at the end -/
def gap : Nat → List CpInfo → List CpInfo
  | 0, r => r
  | n + 1, r => .unusable :: gap n r
def poolList (es : List (Nat × CpInfo)) (last : Nat) : List CpInfo := es.foldr (fun e r => gap e.1 (e.2 :: r)) (gap last [])
def pool (es : List (Nat × CpInfo)) (last : Nat) : Array CpInfo := ⟨poolList es last⟩
def fileOf (pool : Array CpInfo) (this : Nat) (attrs : Array Attribute := #[]) (ms : Array MethodInfo := #[]) (fl : Nat := 33) (sup : Nat := 0) (ifs : Array Nat := #[]) (fds : Array FieldInfo := #[]) : ClassFile where
  minorVersion := 0
  majorVersion := 65
  constantPool := pool
  accessFlags := fl
  thisClass := this
  superClass := sup
  interfaces := ifs
  fields := fds
  methods := ms
  attributes := attrs
def plain (name : String) (sup : Option ClassId) : Class where
  name := name
  kind := .ordinary
  loader := none
  accessFlags := 33
  super := sup
  interfaces := #[]
  cf := none
  fields := #[]
  methods := #[]
  instanceTypes := #[]
  staticTypes := #[]
  resolved := #[]
  callSites := []
  init := .initialized
  statics := none
  mirror := none

def pool0 : Array CpInfo := pool [(5, u "<init>"), (0, u "()V"), (1, .class_ 10), (1, u "java/lang/Object")] 113

def k0c0 : Code := { maxStack := 0, maxLocals := 1, code := object_method_1_code, exceptionTable := #[], attributes := #[] }
def k0m0 : Method := { name := "<init>", desc := "()V", sig := { parameters := [], returnType := none }, accessFlags := 1, code := some k0c0 }
/-- java/lang/Object -/
def k0 : Class := { plain "java/lang/Object" none with
  accessFlags := 33
  interfaces := #[]
  cf := some (fileOf pool0 8 #[] #[{ accessFlags := 1, nameIndex := 5, descriptorIndex := 6, attributes := #[] }] 33 0 #[] #[])
  fields := #[]
  methods := #[k0m0]
  instanceTypes := #[]
  staticTypes := #[]
  resolved := Array.replicate 124 none
  statics := none }

def pool1 : Array CpInfo := pool [(2, .class_ 4), (1, u "java/lang/Object"), (0, u "<init>"), (0, u "()V"), (0, .class_ 8), (0, u "com/example/reach2/reach2/model/CodedColumn"), (0, .methodref 7 10), (0, .nameAndType 5 11), (0, u "(I)V"), (0, .long 3), (1, .integer 2147483647), (0, .methodref 7 16), (0, .nameAndType 17 18), (0, u "set"), (0, u "(IJ)V"), (0, .methodref 7 20), (0, .nameAndType 21 22), (0, u "get"), (0, u "(I)J"), (0, .methodref 7 24), (0, .nameAndType 25 26), (0, u "length"), (0, u "()I"), (0, .class_ 28), (0, u "com/example/reach2/reach2/model/CodedColumnGetPinLaw"), (2, u "law"), (0, u "(JJJJI)Z")] 3

def k1m0 : Method := { name := "<init>", desc := "()V", sig := { parameters := [], returnType := none }, accessFlags := 1, code := none }
def k1c1 : Code := { maxStack := 4, maxLocals := 25, code := code, exceptionTable := #[], attributes := #[] }
def k1m1 : Method := { name := "law", desc := "(JJJJI)Z", sig := { parameters := [.long, .long, .long, .long, .int], returnType := some .boolean }, accessFlags := 9, code := some k1c1 }
/-- com/example/reach2/reach2/model/CodedColumnGetPinLaw -/
def k1 : Class := { plain "com/example/reach2/reach2/model/CodedColumnGetPinLaw" (some 0) with
  accessFlags := 49
  interfaces := #[]
  cf := some (fileOf pool1 27 #[] #[{ accessFlags := 1, nameIndex := 5, descriptorIndex := 6, attributes := #[] }, { accessFlags := 9, nameIndex := 31, descriptorIndex := 32, attributes := #[] }] 49 2 #[] #[])
  fields := #[]
  methods := #[k1m0, k1m1]
  instanceTypes := #[]
  staticTypes := #[]
  resolved := Array.replicate 36 none
  statics := none }

def pool2 : Array CpInfo := pool [(1, .class_ 2), (0, u "com/example/reach2/reach2/model/CodedColumn"), (0, .methodref 1 4), (0, .nameAndType 5 6), (0, u "<init>"), (0, u "([B[J[SI[J)V"), (0, .methodref 8 9), (0, .class_ 10), (0, .nameAndType 5 11), (0, u "java/lang/Object"), (0, u "()V"), (0, .fieldref 1 13), (0, .nameAndType 14 15), (0, u "codes"), (0, u "[B"), (0, .fieldref 1 17), (0, .nameAndType 18 19), (0, u "values"), (0, u "[J"), (0, .fieldref 1 21), (0, .nameAndType 22 23), (0, u "lookup"), (0, u "[S"), (0, .fieldref 1 25), (0, .nameAndType 26 27), (0, u "distinct"), (0, u "I"), (0, .fieldref 1 29), (0, .nameAndType 30 19), (0, u "plain"), (7, .methodref 1 39), (0, .nameAndType 40 41), (0, u "code"), (0, u "(J)I"), (18, .long 11400714819323198485), (1, .fieldref 1 63), (0, .nameAndType 64 27), (0, u "LOOKUP_SHIFT"), (8, u "MOST_CODES"), (2, u "LOOKUP_SLOTS"), (1, u "(I)V"), (5, u "length"), (0, u "()I"), (0, u "get"), (0, u "(I)J"), (0, u "set"), (0, u "(IJ)V")] 7

def k2c0 : Code := { maxStack := 6, maxLocals := 2, code := prog_47_method_1_code, exceptionTable := #[], attributes := #[] }
def k2m0 : Method := { name := "<init>", desc := "(I)V", sig := { parameters := [.int], returnType := none }, accessFlags := 0, code := some k2c0 }
def k2c1 : Code := { maxStack := 2, maxLocals := 6, code := prog_47_method_2_code, exceptionTable := #[], attributes := #[] }
def k2m1 : Method := { name := "<init>", desc := "([B[J[SI[J)V", sig := { parameters := [(.array .byte), (.array .long), (.array .short), .int, (.array .long)], returnType := none }, accessFlags := 2, code := some k2c1 }
def k2c2 : Code := { maxStack := 1, maxLocals := 1, code := prog_47_method_4_code, exceptionTable := #[], attributes := #[] }
def k2m2 : Method := { name := "length", desc := "()I", sig := { parameters := [], returnType := some .int }, accessFlags := 0, code := some k2c2 }
def k2c3 : Code := { maxStack := 3, maxLocals := 2, code := prog_47_method_5_code, exceptionTable := #[], attributes := #[] }
def k2m3 : Method := { name := "get", desc := "(I)J", sig := { parameters := [.int], returnType := some .long }, accessFlags := 0, code := some k2c3 }
def k2c4 : Code := { maxStack := 4, maxLocals := 5, code := prog_47_method_6_code, exceptionTable := #[], attributes := #[] }
def k2m4 : Method := { name := "set", desc := "(IJ)V", sig := { parameters := [.int, .long], returnType := none }, accessFlags := 0, code := some k2c4 }
def k2c5 : Code := { maxStack := 4, maxLocals := 5, code := prog_47_method_10_code, exceptionTable := #[], attributes := #[] }
def k2m5 : Method := { name := "code", desc := "(J)I", sig := { parameters := [.long], returnType := some .int }, accessFlags := 2, code := some k2c5 }
/-- com/example/reach2/reach2/model/CodedColumn -/
def k2 : Class := { plain "com/example/reach2/reach2/model/CodedColumn" (some 0) with
  accessFlags := 48
  interfaces := #[]
  cf := some (fileOf pool2 1 #[] #[{ accessFlags := 0, nameIndex := 5, descriptorIndex := 78, attributes := #[] }, { accessFlags := 2, nameIndex := 5, descriptorIndex := 6, attributes := #[] }, { accessFlags := 0, nameIndex := 84, descriptorIndex := 85, attributes := #[] }, { accessFlags := 0, nameIndex := 86, descriptorIndex := 87, attributes := #[] }, { accessFlags := 0, nameIndex := 88, descriptorIndex := 89, attributes := #[] }, { accessFlags := 2, nameIndex := 40, descriptorIndex := 41, attributes := #[] }] 48 8 #[] #[{ accessFlags := 26, nameIndex := 73, descriptorIndex := 27, attributes := #[] }, { accessFlags := 26, nameIndex := 76, descriptorIndex := 27, attributes := #[] }, { accessFlags := 26, nameIndex := 64, descriptorIndex := 27, attributes := #[] }, { accessFlags := 2, nameIndex := 14, descriptorIndex := 15, attributes := #[] }, { accessFlags := 2, nameIndex := 18, descriptorIndex := 19, attributes := #[] }, { accessFlags := 2, nameIndex := 22, descriptorIndex := 23, attributes := #[] }, { accessFlags := 2, nameIndex := 26, descriptorIndex := 27, attributes := #[] }, { accessFlags := 2, nameIndex := 30, descriptorIndex := 19, attributes := #[] }])
  fields := #[{ name := "MOST_CODES", type := .int, accessFlags := 26, slot := 0, constantValue := 0 }, { name := "LOOKUP_SLOTS", type := .int, accessFlags := 26, slot := 1, constantValue := 0 }, { name := "LOOKUP_SHIFT", type := .int, accessFlags := 26, slot := 2, constantValue := 0 }, { name := "codes", type := (.array .byte), accessFlags := 2, slot := 0, constantValue := 0 }, { name := "values", type := (.array .long), accessFlags := 2, slot := 1, constantValue := 0 }, { name := "lookup", type := (.array .short), accessFlags := 2, slot := 2, constantValue := 0 }, { name := "distinct", type := .int, accessFlags := 2, slot := 3, constantValue := 0 }, { name := "plain", type := (.array .long), accessFlags := 2, slot := 4, constantValue := 0 }]
  methods := #[k2m0, k2m1, k2m2, k2m3, k2m4, k2m5]
  instanceTypes := #[(.array .byte), (.array .long), (.array .short), .int, (.array .long)]
  staticTypes := #[.int, .int, .int]
  resolved := Array.replicate 97 none
  statics := some 0 }

def pool3 : Array CpInfo := pool [(1, u "java/lang/Cloneable"), (0, .class_ 1), (0, u "java/lang/Object"), (0, .class_ 3)] 3

/-- java/lang/Cloneable -/
def k3 : Class := { plain "java/lang/Cloneable" (some 0) with
  accessFlags := 1537
  interfaces := #[]
  cf := some (fileOf pool3 2 #[] #[] 1537 4 #[] #[])
  fields := #[]
  methods := #[]
  instanceTypes := #[]
  staticTypes := #[]
  resolved := Array.replicate 8 none
  statics := none }

def pool4 : Array CpInfo := pool [(1, u "java/io/Serializable"), (0, .class_ 1), (0, u "java/lang/Object"), (0, .class_ 3)] 3

/-- java/io/Serializable -/
def k4 : Class := { plain "java/io/Serializable" (some 0) with
  accessFlags := 1537
  interfaces := #[]
  cf := some (fileOf pool4 2 #[] #[] 1537 4 #[] #[])
  fields := #[]
  methods := #[]
  instanceTypes := #[]
  staticTypes := #[]
  resolved := Array.replicate 8 none
  statics := none }

/-- the primitive byte -/
def k5 : Class := { plain "byte" none with kind := .primitive 'B', accessFlags := 0x411 }
/-- [B -/
def k6 : Class := { plain "[B" (some 0) with kind := .array 5 .byte, interfaces := #[3, 4], accessFlags := 1041 }

/-- the primitive int -/
def k7 : Class := { plain "int" none with kind := .primitive 'I', accessFlags := 0x411 }
/-- [I -/
def k8 : Class := { plain "[I" (some 0) with kind := .array 7 .int, interfaces := #[3, 4], accessFlags := 1041 }

/-- the primitive long -/
def k9 : Class := { plain "long" none with kind := .primitive 'J', accessFlags := 0x411 }
/-- [J -/
def k10 : Class := { plain "[J" (some 0) with kind := .array 9 .long, interfaces := #[3, 4], accessFlags := 1041 }

/-- the primitive short -/
def k11 : Class := { plain "short" none with kind := .primitive 'S', accessFlags := 0x411 }
/-- [S -/
def k12 : Class := { plain "[S" (some 0) with kind := .array 11 .short, interfaces := #[3, 4], accessFlags := 1041 }

def heap : Heap := #[{ cls := 2, slots := #[.int 0, .int 0, .int 55], vm := .statics 2 }]
def classes : Array Class := #[k0, k1, k2, k3, k4, k5, k6, k7, k8, k9, k10, k11, k12]
def interned : List (Array UInt16 × Addr) := []
def slotsUsed : Nat := 3
def theMethod : MethodId := ⟨1, 1⟩
def args0 : Array Value := #[.long 5, .long 6, .long 7, .long 8, .int 1]
def aboutOver (below : List Frame) : State where
  vm := { classes := classes, interned := interned.toArray }
  heap := heap
  slotsUsed := slotsUsed
  threads := #[{ frames := .invoking theMethod args0 :: below }]
def below0 : List Frame := [.native { method := ⟨0, 0⟩, args := #[] }]
def about1 : State := aboutOver below0
def p0 : Program := .bare "" "" ""
def e0 : Env := launch0.env 0 0 0
theorem w_frames : about1.frames = Frame.invoking theMethod args0 :: below0 := rfl
set_option maxRecDepth 65536 in
theorem w_args : argsFit about1.vm theMethod args0 = true := by decide +kernel
set_option maxRecDepth 65536 in
theorem w_heap : heapFits about1 = true := by decide +kernel
set_option maxRecDepth 65536 in
theorem w_runnable : about1.curStatus? = some .runnable := by decide +kernel
set_option maxRecDepth 65536 in
theorem w_alone : about1.alone = true := by decide +kernel
set_option maxRecDepth 65536 in
theorem w_named : about1.methodNamed? x = some theMethod := by decide +kernel
set_option maxRecDepth 65536 in
theorem w_hears : about1.hears theMethod below0 = true := by decide +kernel
set_option maxRecDepth 65536 in
theorem w_ripe : about1.ripe theMethod args0 below0 = true := by decide +kernel
theorem w_running : about1.status = .running := rfl
set_option maxRecDepth 65536 in
theorem w_room : about1.hasRoom e0.platform room_1 = true :=
  launch0.hasRoom_least _ room_1 (by decide +kernel) (by decide +kernel) (by decide +kernel) (by decide +kernel) (by decide +kernel) (by decide +kernel)
theorem allAtoms_all (ts : List Jvm.Cond) (a : Array Jvm.Value) (st : Jvm.State) : (allAtoms ts).before a st = ts.all (fun c => c.before a st) := by
  induction ts with
  | nil => rfl
  | cons c t ih =>
    show (Jvm.Cond.and c (allAtoms t)).before a st = _
    rw [Jvm.Cond.before_and, ih, List.all_cons]
def words1 : List Jvm.Cond := Jvm.Cond.code x code maxLocals ret :: tables_1
/-- a 'code' word, met by the world's own term for the bytes: nothing is compared byte by byte -/
theorem code_word {y : MethodName} {bytes : ByteArray} {mx : Nat} {rt : Option FieldType} {a : Array Value} {s : State} {m : MethodId} {meth : Method} {c : Code} (h1 : s.methodNamed? y = some m) (h2 : s.vm.method? m = some meth) (h3 : meth.code = some c) (h4 : c.code = bytes)
    (h5 : (c.maxLocals == mx && c.exceptionTable.isEmpty && decide (c.maxStack ≤ mostOperands) && decide (meth.sig.returnType = rt) && !meth.locks && decide (parseMethodDescriptor y.desc = some meth.sig)) = true) : (Jvm.Cond.code y bytes mx rt).before a s = true := by
  simp only [Bool.and_eq_true, beq_iff_eq, Bool.not_eq_true', decide_eq_true_eq] at h5
  obtain ⟨⟨⟨⟨⟨g1, g2⟩, g3⟩, g4⟩, g5⟩, g6⟩ := h5
  simp [Cond.before, Cond.holds, Cond.value, h1, h2, h3, h4, g1, g2, g3, g4, g5, g6]
def isCode : Jvm.Cond → Bool
  | .code _ _ _ _ => true
  | _ => false
theorem all_split {L : List Jvm.Cond} {P : Jvm.Cond → Bool} (h1 : L.all (fun c => isCode c || P c) = true) (h2 : ∀ c ∈ L.filter isCode, P c = true) : L.all P = true := by
  refine List.all_eq_true.mpr fun c hc => ?_
  have h := List.all_eq_true.mp h1 c hc
  rcases Bool.eq_false_or_eq_true (isCode c) with hi | hi
  · exact h2 c (List.mem_filter.mpr ⟨hc, hi⟩)
  · simpa [hi] using h
set_option maxRecDepth 65536 in
theorem w_c0 : (Jvm.Cond.code x code maxLocals ret).before args0 about1 = true := code_word (m := ⟨1, 1⟩) (meth := k1m1) (c := k1c1) (by decide +kernel) rfl rfl rfl (by decide +kernel)
set_option maxRecDepth 65536 in
theorem w_c1 : (Jvm.Cond.code ({ cls := "com/example/reach2/reach2/model/CodedColumn", name := "<init>", desc := "(I)V" } : Jvm.MethodName) prog_47_method_1_code (2 : Nat) (Option.none : Option Jvm.ClassFile.FieldType)).before args0 about1 = true := code_word (m := ⟨2, 0⟩) (meth := k2m0) (c := k2c0) (by decide +kernel) rfl rfl rfl (by decide +kernel)
set_option maxRecDepth 65536 in
theorem w_c2 : (Jvm.Cond.code ({ cls := "com/example/reach2/reach2/model/CodedColumn", name := "<init>", desc := "([B[J[SI[J)V" } : Jvm.MethodName) prog_47_method_2_code (6 : Nat) (Option.none : Option Jvm.ClassFile.FieldType)).before args0 about1 = true := code_word (m := ⟨2, 1⟩) (meth := k2m1) (c := k2c1) (by decide +kernel) rfl rfl rfl (by decide +kernel)
set_option maxRecDepth 65536 in
theorem w_c3 : (Jvm.Cond.code ({ cls := "java/lang/Object", name := "<init>", desc := "()V" } : Jvm.MethodName) object_method_1_code (1 : Nat) (Option.none : Option Jvm.ClassFile.FieldType)).before args0 about1 = true := code_word (m := ⟨0, 0⟩) (meth := k0m0) (c := k0c0) (by decide +kernel) rfl rfl rfl (by decide +kernel)
set_option maxRecDepth 65536 in
theorem w_c4 : (Jvm.Cond.code ({ cls := "com/example/reach2/reach2/model/CodedColumn", name := "set", desc := "(IJ)V" } : Jvm.MethodName) prog_47_method_6_code (5 : Nat) (Option.none : Option Jvm.ClassFile.FieldType)).before args0 about1 = true := code_word (m := ⟨2, 4⟩) (meth := k2m4) (c := k2c4) (by decide +kernel) rfl rfl rfl (by decide +kernel)
set_option maxRecDepth 65536 in
theorem w_c5 : (Jvm.Cond.code ({ cls := "com/example/reach2/reach2/model/CodedColumn", name := "code", desc := "(J)I" } : Jvm.MethodName) prog_47_method_10_code (5 : Nat) (Option.some Jvm.ClassFile.FieldType.int)).before args0 about1 = true := code_word (m := ⟨2, 5⟩) (meth := k2m5) (c := k2c5) (by decide +kernel) rfl rfl rfl (by decide +kernel)
set_option maxRecDepth 65536 in
theorem w_c6 : (Jvm.Cond.code ({ cls := "com/example/reach2/reach2/model/CodedColumn", name := "get", desc := "(I)J" } : Jvm.MethodName) prog_47_method_5_code (2 : Nat) (Option.some Jvm.ClassFile.FieldType.long)).before args0 about1 = true := code_word (m := ⟨2, 3⟩) (meth := k2m3) (c := k2c3) (by decide +kernel) rfl rfl rfl (by decide +kernel)
set_option maxRecDepth 65536 in
theorem w_c7 : (Jvm.Cond.code ({ cls := "com/example/reach2/reach2/model/CodedColumn", name := "length", desc := "()I" } : Jvm.MethodName) prog_47_method_4_code (1 : Nat) (Option.some Jvm.ClassFile.FieldType.int)).before args0 about1 = true := code_word (m := ⟨2, 2⟩) (meth := k2m2) (c := k2c2) (by decide +kernel) rfl rfl rfl (by decide +kernel)
def codes1 : List Jvm.Cond := [Jvm.Cond.code x code maxLocals ret, Jvm.Cond.code ({ cls := "com/example/reach2/reach2/model/CodedColumn", name := "<init>", desc := "(I)V" } : Jvm.MethodName) prog_47_method_1_code (2 : Nat) (Option.none : Option Jvm.ClassFile.FieldType), Jvm.Cond.code ({ cls := "com/example/reach2/reach2/model/CodedColumn", name := "<init>", desc := "([B[J[SI[J)V" } : Jvm.MethodName) prog_47_method_2_code (6 : Nat) (Option.none : Option Jvm.ClassFile.FieldType), Jvm.Cond.code ({ cls := "java/lang/Object", name := "<init>", desc := "()V" } : Jvm.MethodName) object_method_1_code (1 : Nat) (Option.none : Option Jvm.ClassFile.FieldType), Jvm.Cond.code ({ cls := "com/example/reach2/reach2/model/CodedColumn", name := "set", desc := "(IJ)V" } : Jvm.MethodName) prog_47_method_6_code (5 : Nat) (Option.none : Option Jvm.ClassFile.FieldType), Jvm.Cond.code ({ cls := "com/example/reach2/reach2/model/CodedColumn", name := "code", desc := "(J)I" } : Jvm.MethodName) prog_47_method_10_code (5 : Nat) (Option.some Jvm.ClassFile.FieldType.int), Jvm.Cond.code ({ cls := "com/example/reach2/reach2/model/CodedColumn", name := "get", desc := "(I)J" } : Jvm.MethodName) prog_47_method_5_code (2 : Nat) (Option.some Jvm.ClassFile.FieldType.long), Jvm.Cond.code ({ cls := "com/example/reach2/reach2/model/CodedColumn", name := "length", desc := "()I" } : Jvm.MethodName) prog_47_method_4_code (1 : Nat) (Option.some Jvm.ClassFile.FieldType.int)]
set_option maxRecDepth 65536 in
theorem codes_eq : words1.filter isCode = codes1 := rfl
theorem w_codes : ∀ c ∈ words1.filter isCode, c.before args0 about1 = true := by
  rw [codes_eq]
  intro c hc
  simp only [codes1, List.mem_cons, List.not_mem_nil, or_false] at hc
  rcases hc with rfl | rfl | rfl | rfl | rfl | rfl | rfl | rfl
  · exact w_c0
  · exact w_c1
  · exact w_c2
  · exact w_c3
  · exact w_c4
  · exact w_c5
  · exact w_c6
  · exact w_c7
set_option maxRecDepth 65536 in
theorem w_t1 : (words1.take 24).all (fun c => isCode c || c.before args0 about1) = true := by decide +kernel
set_option maxRecDepth 65536 in
theorem w_t2 : ((words1.drop 24).take 24).all (fun c => isCode c || c.before args0 about1) = true := by decide +kernel
set_option maxRecDepth 65536 in
theorem w_t3 : ((words1.drop 24).drop 24).all (fun c => isCode c || c.before args0 about1) = true := by decide +kernel
theorem w_tables : (allAtoms (Jvm.Cond.code x code maxLocals ret :: tables_1)).before args0 about1 = true := by
  rw [allAtoms_all]
  show words1.all (fun c => c.before args0 about1) = true
  refine all_split ?_ w_codes
  rw [← List.take_append_drop 24 words1, List.all_append, w_t1, ← List.take_append_drop 24 (words1.drop 24), List.all_append, w_t2, w_t3]
  rfl
set_option maxRecDepth 65536 in
theorem w_case : (Jvm.Cond.and given_1 narrow_1).before args0 about1 = true := by decide +kernel
theorem w_applies : (headSpec (Jvm.Cond.code x code maxLocals ret :: tables_1) room_1).applies x e0.platform about1 = true :=
  (Spec.applies_iff w_frames).mpr ⟨w_running, w_runnable, w_alone, w_named, w_hears, w_ripe, w_room, w_tables⟩
theorem atStart : AtStart classFile x code maxLocals ret World_1 tables_1 room_1 Calls_1 rest_1 Pre_1 launch0 p0 e0 about1 theMethod args0 below0 :=
  ⟨lists_1, trivial, launch0.admits_env _ _ _, launch0.least_env, fairChoices_fair.cas, fairChoices_fair.clock, w_frames, w_args, w_heap, w_applies, trivial, trivial, w_case⟩
end start1
theorem witness_1 : WitnessClaimed_1 := ⟨start1.p0, start1.e0, start1.about1, start1.theMethod, start1.args0, start1.below0, start1.atStart⟩
end Jvm.Pilot.@@N@@
