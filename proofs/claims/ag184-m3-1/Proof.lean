import JvmDerived
import JvmDerived.Pilot.@@N@@Statement
import JvmDerived.Pilot.@@N@@Code
set_option linter.unusedVariables false
set_option linter.unusedSimpArgs false
namespace Jvm.Pilot.@@N@@
open Jvm Jvm.ClassFile Sem Op Lib Jvm.Free Jvm.Stand Jvm.LawKit Jvm.RoadKit Bundle Jvm.Pilot.@@N@@.Jvm.D
abbrev own_jv (x : Int64) : Slot := .val (.long x)
theorem own_i_lt {a b : Int32} (h : a < b) : a.toInt < b.toInt := Int32.lt_iff_toInt_lt.mp h
theorem own_i_nlt {a b : Int32} (h : ¬ a < b) : b.toInt ≤ a.toInt := Int.not_lt.mp fun q => h (Int32.lt_iff_toInt_lt.mpr q)
theorem own_i_eq {a b : Int32} (h : a = b) : a.toInt = b.toInt := congrArg Int32.toInt h
theorem own_i_ne {a b : Int32} (h : ¬ a = b) : ¬ a.toInt = b.toInt := fun q => h (Int32.toInt_inj.mp q)
theorem own_j_lt {a b : Int64} (h : a < b) : a.toInt < b.toInt := Int64.lt_iff_toInt_lt.mp h
theorem own_j_nlt {a b : Int64} (h : ¬ a < b) : b.toInt ≤ a.toInt := Int.not_lt.mp fun q => h (Int64.lt_iff_toInt_lt.mpr q)
theorem own_j_eq {a b : Int64} (h : a = b) : a.toInt = b.toInt := congrArg Int64.toInt h
theorem own_j_ne {a b : Int64} (h : ¬ a = b) : ¬ a.toInt = b.toInt := fun q => h (Int64.toInt_inj.mp q)
theorem own_b1 {P : Prop} (h : P) : ((1 : Int32).toInt = 1 ∧ P) ∨ ((1 : Int32).toInt = 0 ∧ ¬ P) := Or.inl ⟨by decide, h⟩
theorem own_b0 {P : Prop} (h : ¬ P) : ((0 : Int32).toInt = 1 ∧ P) ∨ ((0 : Int32).toInt = 0 ∧ ¬ P) := Or.inr ⟨by decide, h⟩
theorem own_cat {w : Value} (hw : w.isRef = true) : w.category = 1 := by rcases ref_cases hw with rfl | ⟨a, rfl⟩ <;> rfl
theorem own_fitR {t : FieldType} (ht : t.isReference = true) {w : Value} (hw : w.isRef = true) : fits t w = true := by
  rcases ref_cases hw with rfl | ⟨a, rfl⟩ <;> cases t <;> first | rfl | cases ht
theorem own_static {s : State} {args : Array Value} {C n d K : String} (h : (Jvm.Cond.exactly (Jvm.Term.static C n d) K).value args s none s [] = some true) (wi : (Jvm.Cond.initialized C).before args s = true) (wl : (Jvm.Cond.laysStatic C n d).before args s = true) : ∃ a, (Jvm.Term.static C n d).eval args s none [] s = some (.ref a) ∧ Sta s s.heap C n d (.ref a) ∧ Exa s s.heap a K := by
  obtain ⟨a, ev⟩ := exa_v h
  exact ⟨a, ev, Sta.start ev (Or.inr ⟨wi, wl⟩), Exa.start ev h⟩
theorem own_teq {s : State} {args : Array Value} {t : Jvm.Term} {x : Int32} (h : (Jvm.Cond.eq t (Jvm.Term.int x)).value args s none s [] = some true) : t.eval args s none [] s = some (.int x) := by
  simp only [Cond.value, Term.int_eval] at h
  cases hv : t.eval args s none [] s with
  | none => simp [hv] at h
  | some v => cases v <;> simp [hv] at h ⊢; exact h
theorem own_fint {s : State} {args : Array Value} {t : Jvm.Term} {C n d : String} {x : Int32} {a : Addr} (h : (Jvm.Cond.eq (Jvm.Term.field t C n d) (Jvm.Term.int x)).value args s none s [] = some true) (e : t.eval args s none [] s = some (.ref a)) : s.fieldOf? a C n d = some (.int x) := by
  have q := fld_at (C := C) (n := n) (dd := d) e
  simp only [Cond.value, q, Term.int_eval] at h
  cases hv : s.fieldOf? a C n d with
  | none => simp [hv] at h
  | some v => cases v <;> simp [hv] at h ⊢; exact h
theorem own_ord {s : State} {args : Array Value} {t t' : Jvm.Term} {C n d : String} {x y : Int32} {a b : Nat} (h : (Jvm.Cond.eq (Jvm.Term.field t C n d) (Jvm.Term.int x)).value args s none s [] = some true) (e : t.eval args s none [] s = some (.ref a)) (h' : (Jvm.Cond.eq (Jvm.Term.field t' C n d) (Jvm.Term.int y)).value args s none s [] = some true) (e' : t'.eval args s none [] s = some (.ref b)) (hn : x ≠ y) : ¬ a = b := fun q => by
  subst q
  have := (own_fint h e).symm.trans (own_fint h' e')
  cases this
  exact hn rfl
def own_O (Z : State) (a : Addr) (k : Int32) : Prop := Z.fieldOf? a "java/lang/Enum" "ordinal" "I" = some (.int k)
theorem own_one {Z : State} {a b : Nat} {i j : Int32} (h : own_O Z a i) (h' : own_O Z b j) (hn : i ≠ j) : ¬ a = b := fun q => by
  subst q
  have := Eq.symm h |>.trans h'
  cases this
  exact hn rfl
theorem own_fldR {s : State} {args : Array Value} {t : Jvm.Term} {C n d K : String} {a : Addr} (h : (Jvm.Cond.exactly (Jvm.Term.field t C n d) K).value args s none s [] = some true) (e : t.eval args s none [] s = some (.ref a)) : ∃ b, Fld s s.heap a C n d (.ref b) := by
  obtain ⟨b, ev⟩ := exa_v h
  rw [fld_at e] at ev
  exact ⟨b, Fld.start ev⟩
theorem own_fldN {s : State} {args : Array Value} {t : Jvm.Term} {C n d : String} {a : Addr} (h : (Jvm.Cond.eq (Jvm.Term.field t C n d) Jvm.Term.null).value args s none s [] = some true) (e : t.eval args s none [] s = some (.ref a)) : Fld s s.heap a C n d .null := by
  have ev := null_v h
  rw [fld_at e] at ev
  exact Fld.start ev
theorem own_ne {x y : Addr} (h : @Ne Nat x y) : x ≠ y := h
theorem own_lt {x : Addr} {y : Nat} (h : x < y) : @LT.lt Nat instLTNat x y := h
section OwnKit
variable {p : Program} {l : Launch} {e : Env} {R : Room} {s : State} {m : MethodId} {args : Array Value} {below : List Frame} {meth : Method} {c : Code} {T : State} {locs : List Loc} {cells slots : Nat} {Z : State} {a0 : Array Value} {h h' : Heap} {Q : Option Value → Heap → List Loc → Prop}
/-- from U the run comes to its end, and what it leaves is Q's -/
def own_Goes (p : Program) (e : Env) (below : List Frame) (s : State) (R : Room) (Q : Option Value → Heap → List Loc → Prop) (U : State) : Prop :=
  ∃ s₂ o, Steps p.tables e below U s₂ ∧ s₂.status = .running ∧ Ended s₂ below o ∧ ∃ v L, o = .returned v ∧ Q v s₂.heap L ∧ FrameEnd s o s₂ L R.cells R.slots
theorem own_st {U U' : State} (k : ∀ t, Steps p.tables e below U' t → Steps p.tables e below U t) (g : own_Goes p e below s R Q U') : own_Goes p e below s R Q U := by
  obtain ⟨s₂, o, h1, h2⟩ := g
  exact ⟨s₂, o, k _ h1, h2⟩
theorem own_fin (X : Stand p l e R s m args below meth c T locs cells slots) (hk : meth.locks = false) {v : Option Value} (hv : meth.sig.returnType = none → v = none) {U : State}
    (hs : ∀ fs, (∀ (f : JFrame) (acts : List Action), f.method = m → f.locked = none → f.entered = [] → (doReturn e (T.setTop f) acts v).1 = T.setFrames fs) → Steps p.tables e below U (T.setFrames fs))
    (hc : cells ≤ R.cells) (hl : slots ≤ R.slots) (q : Q v T.heap locs) : own_Goes p e below s R Q U := by
  obtain ⟨fs, hr, hrun, hended, hW, hsame⟩ := X.leave hv hk
  exact ⟨_, _, hs fs hr, hrun, hended, v, locs, rfl, q, ⟨v, rfl⟩, hW, hsame.mono hc hl⟩
theorem own_ret (X : Stand p l e R s m args below meth c T locs cells slots) (hx : p.tables.exec = Jvm.exec) (hk : meth.locks = false) {pc : Nat} {Ls : Array Slot} {w : Value} {t : FieldType} {i : Instr} {rest : List Value} (hret : meth.sig.returnType = some t) (hn : narrow t w = w)
    (hi : (i = .ireturn ∧ (t = .int ∨ t = .boolean ∨ t = .byte ∨ t = .char ∨ t = .short) ∧ ∃ z, w = .int z) ∨ (i = .lreturn ∧ t = .long ∧ ∃ z, w = .long z) ∨ (i = .dreturn ∧ t = .double ∧ ∃ z, w = .double z) ∨ (i = .freturn ∧ t = .float ∧ ∃ z, w = .float z) ∨ (i = .areturn ∧ t.isReference = true ∧ w.isRef = true))
    (hd : decode c.code pc = .ok (i, 1)) (hc : cells ≤ R.cells) (hl : slots ≤ R.slots) (q : Q (some w) T.heap locs) : own_Goes p e below s R Q (T.setTop (mkF m pc Ls (w :: rest))) :=
  own_fin X hk (fun h => by rw [hret] at h; cases h) (fun fs hr => retOut X hx hret hn hi hd hr) hc hl q
theorem own_retI (X : Stand p l e R s m args below meth c T locs cells slots) (hx : p.tables.exec = Jvm.exec) (hk : meth.locks = false) {pc : Nat} {Ls : Array Slot} {z : Int32} {rest : List Value} (hret : meth.sig.returnType = some .int)
    (hd : decode c.code pc = .ok (.ireturn, 1)) (hc : cells ≤ R.cells) (hl : slots ≤ R.slots) (q : Q (some (.int z)) T.heap locs) : own_Goes p e below s R Q (T.setTop (mkF m pc Ls (.int z :: rest))) :=
  own_ret X hx hk hret rfl (Or.inl ⟨rfl, Or.inl rfl, z, rfl⟩) hd hc hl q
theorem own_retJ (X : Stand p l e R s m args below meth c T locs cells slots) (hx : p.tables.exec = Jvm.exec) (hk : meth.locks = false) {pc : Nat} {Ls : Array Slot} {z : Int64} {rest : List Value} (hret : meth.sig.returnType = some .long)
    (hd : decode c.code pc = .ok (.lreturn, 1)) (hc : cells ≤ R.cells) (hl : slots ≤ R.slots) (q : Q (some (.long z)) T.heap locs) : own_Goes p e below s R Q (T.setTop (mkF m pc Ls (.long z :: rest))) :=
  own_ret X hx hk hret rfl (Or.inr (Or.inl ⟨rfl, rfl, z, rfl⟩)) hd hc hl q
theorem own_narR {t : FieldType} (ht : t.isReference = true) {w : Value} (hw : w.isRef = true) : narrow t w = w := by
  rcases ref_cases hw with rfl | ⟨a, rfl⟩ <;> cases t <;> first | rfl | cases ht
theorem own_retR (X : Stand p l e R s m args below meth c T locs cells slots) (hx : p.tables.exec = Jvm.exec) (hk : meth.locks = false) {pc : Nat} {Ls : Array Slot} {w : Value} {t : FieldType} {rest : List Value} (hret : meth.sig.returnType = some t) (ht : t.isReference = true) (hw : w.isRef = true)
    (hd : decode c.code pc = .ok (.areturn, 1)) (hc : cells ≤ R.cells) (hl : slots ≤ R.slots) (q : Q (some w) T.heap locs) : own_Goes p e below s R Q (T.setTop (mkF m pc Ls (w :: rest))) :=
  own_ret X hx hk hret (own_narR ht hw) (Or.inr (Or.inr (Or.inr (Or.inr ⟨rfl, ht, hw⟩)))) hd hc hl q
theorem own_retN (X : Stand p l e R s m args below meth c T locs cells slots) (hx : p.tables.exec = Jvm.exec) (hk : meth.locks = false) {pc : Nat} {Ls : Array Slot} {z : Int32} (z' : Int32) {t : FieldType} {rest : List Value} (hret : meth.sig.returnType = some t) (ht : t = .boolean ∨ t = .byte ∨ t = .char ∨ t = .short) (hz : nar t z = z')
    (hd : decode c.code pc = .ok (.ireturn, 1)) (hc : cells ≤ R.cells) (hl : slots ≤ R.slots) (q : Q (some (.int z')) T.heap locs) : own_Goes p e below s R Q (T.setTop (mkF m pc Ls (.int z :: rest))) := by
  subst hz
  exact own_fin X hk (fun h => by rw [hret] at h; cases h) (fun fs hr => retN X hx hret ht hd hr) hc hl q
theorem own_ret0 (X : Stand p l e R s m args below meth c T locs cells slots) (hx : p.tables.exec = Jvm.exec) (hk : meth.locks = false) {pc : Nat} {Ls : Array Slot} (hret : meth.sig.returnType = none)
    (hd : decode c.code pc = .ok (.return_, 1)) (hc : cells ≤ R.cells) (hl : slots ≤ R.slots) (q : Q none T.heap locs) : own_Goes p e below s R Q (T.setTop (mkF m pc Ls [])) :=
  own_fin X hk (fun _ => rfl) (fun fs hr => X.returnOut hx hret hd hr) hc hl q
theorem own_enter {y : MethodName} {bytes : ByteArray} {maxL : Nat} {ret : Option FieldType} {ws : List Jvm.Cond} {as' : Array Value} {h0 : Heap} {F : MethodId → JFrame}
    (hp : plainFor y = true) (hf : ∀ m, entryFrame m as' maxL = F m)
    (body : ∀ (p : Program) (e : Env) (s : State) (m : MethodId) (below : List Frame) (meth : Method) (c : Code) (T : State), Stand p l e R s m as' below meth c T [] 0 0 → p.tables.exec = Jvm.exec → c.code = bytes → c.maxLocals = maxL → meth.sig.returnType = ret → meth.locks = false → meth.name = y.name → s.vm.findClass y.cls = some m.cls → Z.Warmed39 s.vm → T.heap = h0 → own_Goes p e below s R Q (T.setTop (F m))) :
    MetFree l y (head1 (Jvm.Cond.code y bytes maxL ret :: ws) R) (fun a U => a = as' ∧ Z.Warmed39 U.vm ∧ U.heap = h0) (fun _ _ _ _ _ => True) (fun _ U o U' => ∃ v L, o = .returned v ∧ Q v U'.heap L ∧ FrameEnd U o U' L R.cells R.slots) := by
  refine MetFree.of_bodySF hp hisR ?_
  intro p e s m args below meth c s₁ Bd hml0 hP hK
  obtain ⟨rfl, hZ, hh⟩ := hP
  have e0 : s₁.heap = h0 := by rw [← hh, Bd.state]; rfl
  have g := body p e s m below meth c s₁ (Stand.of_body Bd) Bd.exec Bd.bytes hml0 Bd.returns Bd.notSynchronized (name_of_methodNamed Bd.named Bd.method).1 (findClass_of_methodNamed Bd.named) hZ e0
  rw [hf]
  exact g
theorem own_callS (X : Stand p l e R s m args below meth c T locs cells slots) (hx : p.tables.exec = Jvm.exec) (hZ : Z.Warmed39 s.vm) {own : String} {index : Nat} {y : MethodName} {bytes : ByteArray} {maxL : Nat} {ret : Option FieldType}
    (hown : s.vm.findClass own = some m.cls) (w1 : (Jvm.Cond.methodLink own index y).before a0 Z = true) (w2 : (Jvm.Cond.static y).before a0 Z = true) (w3 : (Jvm.Cond.initialized y.cls).before a0 Z = true) (w4 : (Jvm.Cond.code y bytes maxL ret).before a0 Z = true)
    (hy : y.cls ≠ "java/lang/invoke/MethodHandle" ∧ y.cls ≠ "java/lang/invoke/VarHandle") {W : Nat} {rm : Room} {argsL rest : List Value} {Qc : Option Value → Heap → List Loc → Prop}
    (hM : MetFree l y (head1 [Jvm.Cond.code y bytes maxL ret] rm) (fun a U => a = argsL.toArray ∧ Z.Warmed39 U.vm ∧ U.heap = h) (fun _ _ _ _ _ => True) (fun _ U o U' => ∃ v L, o = .returned v ∧ Qc v U'.heap L ∧ FrameEnd U o U' L rm.cells rm.slots))
    (hf : rm.frames + 1 ≤ R.frames) (hl : W + (maxL + 11) + rm.locals ≤ R.locals) (hc : cells + rm.cells ≤ R.cells) (hs : slots + rm.slots ≤ R.slots) (eT : T.heap = h)
    {ps : List FieldType} {r : Option FieldType} (hd : parseMethodDescriptor y.desc = some ⟨ps, r⟩) (hlen : argsL.length = ps.length)
    {g : JFrame} (hg : g.method = m) (hsize : g.locals.size = c.maxLocals) (hstack : g.stack = argsL.reverse ++ rest) (hW : 2 * g.monitorRoom + (rest.map fun v => v.category).sum ≤ W) (hdg : decode c.code g.pc = .ok (.invokestatic index, 3)) :
    ∃ (v : Option Value) (T' : State) (L : List Loc), Stand p l e R s m args below meth c T' (locs ++ L) (cells + rm.cells) (slots + rm.slots) ∧ Qc v T'.heap L ∧ ∀ t, Steps p.tables e below (T'.setTop { g with pc := g.pc + 3, stack := v.toList ++ rest }) t → Steps p.tables e below (T.setTop g) t := by
  obtain ⟨v, _, ⟨T', L', k', n'⟩, -, X', ⟨Lc, hQ, l', y', z'⟩, st⟩ := Jvm.LawKit.callS X hx (y := y) hown (mvT hZ w1) (mvT hZ w2) (mvT hZ w3) (mvT hZ w4) hy (backOf (W := W) hM hZ w4 w3 hf hl) hg hsize (argsL := argsL) (rest := rest) (lenOf hd hlen) hstack hW hdg (fun _ _ => ⟨rfl, eT, hc, hs⟩)
  dsimp only [Pt.U, Pt.locs, Pt.cells, Pt.slots] at X' l' y' z' st hQ
  subst l' y' z'
  exact ⟨v, T', Lc, X', hQ, st⟩
theorem own_callI (X : Stand p l e R s m args below meth c T locs cells slots) (hx : p.tables.exec = Jvm.exec) (hZ : Z.Warmed39 s.vm) {own : String} {index : Nat} {y : MethodName} {bytes : ByteArray} {maxL : Nat}
    (hown : s.vm.findClass own = some m.cls) (w1 : (Jvm.Cond.methodLink own index y).before a0 Z = true) (w2 : (Jvm.Cond.instanceMethod y).before a0 Z = true) (w3 : (Jvm.Cond.initialized y.cls).before a0 Z = true) (w4 : (Jvm.Cond.code y bytes maxL none).before a0 Z = true) (hy1 : y.name = "<init>")
    (hy : y.cls ≠ "java/lang/invoke/MethodHandle" ∧ y.cls ≠ "java/lang/invoke/VarHandle") {W : Nat} {rm : Room} {a : Addr} {argsL rest : List Value} {Qc : Option Value → Heap → List Loc → Prop}
    (hM : MetFree l y (head1 [Jvm.Cond.code y bytes maxL none] rm) (fun b U => b = (Value.ref a :: argsL).toArray ∧ Z.Warmed39 U.vm ∧ U.heap = h) (fun _ _ _ _ _ => True) (fun _ U o U' => ∃ v L, o = .returned v ∧ Qc v U'.heap L ∧ FrameEnd U o U' L rm.cells rm.slots))
    (hf : rm.frames + 1 ≤ R.frames) (hl : W + (maxL + 11) + rm.locals ≤ R.locals) (hc : cells + rm.cells ≤ R.cells) (hs : slots + rm.slots ≤ R.slots) (eT : T.heap = h)
    {ps : List FieldType} {r : Option FieldType} (hd : parseMethodDescriptor y.desc = some ⟨ps, r⟩) (hlen : argsL.length = ps.length)
    {g : JFrame} (hg : g.method = m) (hsize : g.locals.size = c.maxLocals) (hstack : g.stack = argsL.reverse ++ .ref a :: rest) (hW : 2 * g.monitorRoom + (rest.map fun v => v.category).sum ≤ W) (hdg : decode c.code g.pc = .ok (.invokespecial index, 3)) :
    ∃ (v : Option Value) (T' : State) (L : List Loc), Stand p l e R s m args below meth c T' (locs ++ L) (cells + rm.cells) (slots + rm.slots) ∧ Qc v T'.heap L ∧ ∀ t, Steps p.tables e below (T'.setTop { g with pc := g.pc + 3, stack := v.toList ++ rest }) t → Steps p.tables e below (T.setTop g) t := by
  obtain ⟨v, _, ⟨T', L', k', n'⟩, -, X', ⟨Lc, hQ, l', y', z'⟩, st⟩ := X.specialBack hx (y := y) hy1 hown (mvT hZ w1) (mvT hZ w2) (mvT hZ w4) hy (backOf (W := W) hM hZ w4 w3 hf hl) hg hsize (Steps.refl _) (a := a) (argsL := argsL) (rest := rest) (lenOf hd hlen) hstack hW hdg (fun _ _ => ⟨rfl, eT, hc, hs⟩)
  dsimp only [Pt.U, Pt.locs, Pt.cells, Pt.slots] at X' l' y' z' st hQ
  subst l' y' z'
  exact ⟨v, T', Lc, X', hQ, fun t k => st.trans k⟩
theorem own_callV (X : Stand p l e R s m args below meth c T locs cells slots) (hx : p.tables.exec = Jvm.exec) (hZ : Z.Warmed39 s.vm) {own C : String} {index : Nat} {y : MethodName} {bytes : ByteArray} {maxL : Nat} {ret : Option FieldType}
    (hown : s.vm.findClass own = some m.cls) (w1 : (Jvm.Cond.methodLink own index y).before a0 Z = true) (w5 : (Jvm.Cond.declares y).before a0 Z = true) (w6 : (Jvm.Cond.selects C y y).before a0 Z = true) (w2 : (Jvm.Cond.instanceMethod y).before a0 Z = true) (w3 : (Jvm.Cond.initialized y.cls).before a0 Z = true) (w4 : (Jvm.Cond.code y bytes maxL ret).before a0 Z = true)
    (hy : y.cls ≠ "java/lang/invoke/MethodHandle" ∧ y.cls ≠ "java/lang/invoke/VarHandle") {W : Nat} {rm : Room} {a : Addr} {argsL rest : List Value} {Qc : Option Value → Heap → List Loc → Prop}
    (hM : MetFree l y (head1 [Jvm.Cond.code y bytes maxL ret] rm) (fun b U => b = (Value.ref a :: argsL).toArray ∧ Z.Warmed39 U.vm ∧ U.heap = h) (fun _ _ _ _ _ => True) (fun _ U o U' => ∃ v L, o = .returned v ∧ Qc v U'.heap L ∧ FrameEnd U o U' L rm.cells rm.slots))
    (hf : rm.frames + 1 ≤ R.frames) (hl : W + (maxL + 11) + rm.locals ≤ R.locals) (hc : cells + rm.cells ≤ R.cells) (hs : slots + rm.slots ≤ R.slots) (eT : T.heap = h) (E : Exa Z h a C)
    {ps : List FieldType} {r : Option FieldType} (hd : parseMethodDescriptor y.desc = some ⟨ps, r⟩) (hlen : argsL.length = ps.length)
    {g : JFrame} (hg : g.method = m) (hsize : g.locals.size = c.maxLocals) (hstack : g.stack = argsL.reverse ++ .ref a :: rest) (hW : 2 * g.monitorRoom + (rest.map fun v => v.category).sum ≤ W) (hdg : decode c.code g.pc = .ok (.invokevirtual index, 3)) :
    ∃ (v : Option Value) (T' : State) (L : List Loc), Stand p l e R s m args below meth c T' (locs ++ L) (cells + rm.cells) (slots + rm.slots) ∧ Qc v T'.heap L ∧ ∀ t, Steps p.tables e below (T'.setTop { g with pc := g.pc + 3, stack := v.toList ++ rest }) t → Steps p.tables e below (T.setTop g) t := by
  obtain ⟨cq, kq, qa, qb, qc⟩ := isOf hZ eT E
  obtain ⟨v, _, ⟨T', L', k', n'⟩, -, X', ⟨Lc, hQ, l', y', z'⟩, st⟩ := X.virtualBack hx (y := y) (z := y) hown (mvT hZ w1) (mvT hZ w5) (notFace_of_selects (args := #[]) (mvT hZ w6)) (mvT hZ w6) (mvT hZ w2) hy (backOf (W := W) hM hZ w4 w3 hf hl) qa qc hg hsize (Steps.refl _) (argsL := argsL) (rest := rest) (lenOf hd hlen) hstack hW hdg (fun _ _ => ⟨rfl, eT, hc, hs⟩)
  dsimp only [Pt.U, Pt.locs, Pt.cells, Pt.slots] at X' l' y' z' st hQ
  subst l' y' z'
  exact ⟨v, T', Lc, X', hQ, fun t k => st.trans k⟩
theorem own_callP (X : Stand p l e R s m args below meth c T locs cells slots) (hx : p.tables.exec = Jvm.exec) (hZ : Z.Warmed39 s.vm) {own : String} {index : Nat} {y : MethodName} {bytes : ByteArray} {maxL : Nat} {ret : Option FieldType}
    (hown : s.vm.findClass own = some m.cls) (w1 : (Jvm.Cond.methodLink own index y).before a0 Z = true) (w5 : (Jvm.Cond.privateMethod y).before a0 Z = true) {ki : Nat} (w6 : (Jvm.Cond.instantiable y.cls ki).before a0 Z = true) (w2 : (Jvm.Cond.instanceMethod y).before a0 Z = true) (w3 : (Jvm.Cond.initialized y.cls).before a0 Z = true) (w4 : (Jvm.Cond.code y bytes maxL ret).before a0 Z = true)
    (hy : y.cls ≠ "java/lang/invoke/MethodHandle" ∧ y.cls ≠ "java/lang/invoke/VarHandle") {W : Nat} {rm : Room} {a : Addr} {argsL rest : List Value} {Qc : Option Value → Heap → List Loc → Prop} {C : String}
    (hM : MetFree l y (head1 [Jvm.Cond.code y bytes maxL ret] rm) (fun b U => b = (Value.ref a :: argsL).toArray ∧ Z.Warmed39 U.vm ∧ U.heap = h) (fun _ _ _ _ _ => True) (fun _ U o U' => ∃ v L, o = .returned v ∧ Qc v U'.heap L ∧ FrameEnd U o U' L rm.cells rm.slots))
    (hf : rm.frames + 1 ≤ R.frames) (hl : W + (maxL + 11) + rm.locals ≤ R.locals) (hc : cells + rm.cells ≤ R.cells) (hs : slots + rm.slots ≤ R.slots) (eT : T.heap = h) (E : Exa Z h a C)
    {ps : List FieldType} {r : Option FieldType} (hd : parseMethodDescriptor y.desc = some ⟨ps, r⟩) (hlen : argsL.length = ps.length)
    {g : JFrame} (hg : g.method = m) (hsize : g.locals.size = c.maxLocals) (hstack : g.stack = argsL.reverse ++ .ref a :: rest) (hW : 2 * g.monitorRoom + (rest.map fun v => v.category).sum ≤ W) (hdg : decode c.code g.pc = .ok (.invokevirtual index, 3)) :
    ∃ (v : Option Value) (T' : State) (L : List Loc), Stand p l e R s m args below meth c T' (locs ++ L) (cells + rm.cells) (slots + rm.slots) ∧ Qc v T'.heap L ∧ ∀ t, Steps p.tables e below (T'.setTop { g with pc := g.pc + 3, stack := v.toList ++ rest }) t → Steps p.tables e below (T.setTop g) t := by
  obtain ⟨cq, q1, q2⟩ := E.cell
  have hsel : (Jvm.Cond.selects y.cls y y).before args s = true := by
    obtain ⟨c2, k2, i1, i2, i3, i4, -⟩ := Cond.instantiable_spec (mv hZ w6 (args := args))
    exact selects_self_of_private i1 i2 (Bool.or_eq_false_iff.mp i4).1 (Cond.privateMethod_at (mvP hZ w5 (args := #[]))) (mvT hZ w2) hy
  obtain ⟨v, _, ⟨T', L', k', n'⟩, -, X', ⟨Lc, hQ, l', y', z'⟩, st⟩ := X.privateBack hx (y := y) hown (mvT hZ w1) (mvT hZ w2) hsel (Cond.privateMethod_at (mvP hZ w5 (args := #[]))) (mvT hZ w4) hy (backOf (W := W) hM hZ w4 w3 hf hl) hg hsize (Steps.refl _) (a := a) (by rw [eT]; exact q1) q2 (argsL := argsL) (rest := rest) (lenOf hd hlen) hstack hW hdg (fun _ _ => ⟨rfl, eT, hc, hs⟩)
  dsimp only [Pt.U, Pt.locs, Pt.cells, Pt.slots] at X' l' y' z' st hQ
  subst l' y' z'
  exact ⟨v, T', Lc, X', hQ, fun t k => st.trans k⟩
theorem own_sta_keep {C n d : String} {w : Value} {ws : List Addr} (F : Sta Z h C n d w) (K : Keep h h' ws) (q : ∀ x ∈ ws, ∀ c : Cell, h[x]? = some c → c.vm.isStatics = false) : Sta Z h' C n d w := by
  obtain ⟨cf, i, k, f, st, cell, h1, h2, h3, h4, h5, h6, h7⟩ := F
  exact ⟨cf, i, k, f, st, cell, h1, h2, h3, h4, K.2.1 _ _ h5 (fun hx => by have := q st hx cell h5; rw [this] at h6; cases h6), h6, h7⟩
theorem own_ext_keep (E : Ext h h') (ws : List Addr) : Keep h h' ws := (Keep.refl h ws).ext E
/-- an array at a: n places, the j-th holds f j -/
def own_Arf (Z : State) (h : Heap) (a : Addr) (ty : FieldType) (n : Nat) (f : Nat → Value) : Prop := ∃ c : Cell, Arr Z h a c ty ∧ c.slots.size = n ∧ ∀ j, j < n → c.slots[j]? = some (f j)
theorem own_Arf.lt {a : Nat} {ty : FieldType} {n : Nat} {f : Nat → Value} (F : own_Arf Z h a ty n f) : a < h.size := by obtain ⟨c, A, -⟩ := F; exact A.lt
theorem own_Arf.ext {a : Addr} {ty : FieldType} {n : Nat} {f : Nat → Value} (F : own_Arf Z h a ty n f) (E : Ext h h') : own_Arf Z h' a ty n f := by obtain ⟨c, A, r⟩ := F; exact ⟨c, A.ext E, r⟩
theorem own_Arf.other {a b : Addr} {ty : FieldType} {n : Nat} {f : Nat → Value} {sl : Nat} {v : Value} (F : own_Arf Z h b ty n f) (W : Wr h h' a sl v) (q : b ≠ a) : own_Arf Z h' b ty n f := by obtain ⟨c, A, r⟩ := F; exact ⟨c, A.other W q, r⟩
theorem own_Arf.keep {a : Addr} {ty : FieldType} {n : Nat} {f : Nat → Value} {ws : List Addr} (F : own_Arf Z h a ty n f) (K : Keep h h' ws) (q : a ∉ ws) : own_Arf Z h' a ty n f := by obtain ⟨c, A, r⟩ := F; exact ⟨c, ⟨K.2.1 a c A.1 q, A.2⟩, r⟩
theorem own_Arf.congr {a : Addr} {ty : FieldType} {n : Nat} {f f' : Nat → Value} (F : own_Arf Z h a ty n f) (q : ∀ j, j < n → f j = f' j) : own_Arf Z h a ty n f' := by obtain ⟨c, A, r1, r2⟩ := F; exact ⟨c, A, r1, fun j hj => by rw [← q j hj]; exact r2 j hj⟩
theorem own_Arf.set {a : Addr} {ty : FieldType} {n : Nat} {f : Nat → Value} {i : Nat} {v : Value} (F : own_Arf Z h a ty n f) (W : Wr h h' a i v) : own_Arf Z h' a ty n (fun k => if k = i then v else f k) := by
  obtain ⟨c, A, r1, r2⟩ := F
  refine ⟨c.setSlot i v, A.same W, by rw [sz_set]; exact r1, fun j hj => ?_⟩
  show (c.slots.setIfInBounds i v)[j]? = some (if j = i then v else f j)
  by_cases q : j = i
  · subst q
    simp [r1, hj]
  · rw [Array.getElem?_setIfInBounds_ne (Ne.symm q), if_neg q]
    exact r2 j hj
theorem own_Arf.setI {a : Addr} {ty : FieldType} {n : Nat} {f : Nat → Int32} {i : Nat} {x : Int32} (F : own_Arf Z h a ty n (fun k => .int (f k))) (W : Wr h h' a i (.int x)) : own_Arf Z h' a ty n (fun k => .int (if k = i then x else f k)) :=
  (own_Arf.set F W).congr fun k _ => by show (if k = i then Value.int x else .int (f k)) = .int (if k = i then x else f k); split <;> rfl
theorem own_Arf.setJ {a : Addr} {ty : FieldType} {n : Nat} {f : Nat → Int64} {i : Nat} {x : Int64} (F : own_Arf Z h a ty n (fun k => .long (f k))) (W : Wr h h' a i (.long x)) : own_Arf Z h' a ty n (fun k => .long (if k = i then x else f k)) :=
  (own_Arf.set F W).congr fun k _ => by show (if k = i then Value.long x else .long (f k)) = .long (if k = i then x else f k); split <;> rfl
theorem own_inb {c : Cell} {n : Nat} {j : Int32} (S : c.slots.size = n) (q : 0 ≤ j.toInt ∧ j.toInt < (n : Int)) : ¬ (j < 0 ∨ c.slots.size ≤ j.toNatClampNeg) := by
  rw [S]
  rintro (q1 | q1)
  · have := Int32.lt_iff_toInt_lt.mp q1
    simp at this
    omega
  · have h1 : j.toNatClampNeg = j.toInt.toNat := rfl
    omega
theorem own_idx {n : Nat} {j : Int32} (q : 0 ≤ j.toInt ∧ j.toInt < (n : Int)) : j.toNatClampNeg < n := by
  have h1 : j.toNatClampNeg = j.toInt.toNat := rfl
  omega
theorem own_newP (X : Stand p l e R s m args below meth c T locs cells slots) (hx : p.tables.exec = Jvm.exec) (hZ : Z.Warmed39 s.vm) {aty : ArrayType} (w : (Jvm.Cond.arrayClass (newarray.typeOf aty)).before a0 Z = true) (eT : T.heap = h) {g : JFrame} (hg : g.method = m) (hd : decode c.code g.pc = .ok (.newarray aty, 2)) {n : Int32} {rest : List Value} (hs : g.stack = .int n :: rest)
    (hn : ¬ n < 0) {cap : Nat} (hcap : n.toNatClampNeg ≤ cap) (hb : cap * 8 ≤ 536870912) (hc : cells + 1 ≤ R.cells) (hl : slots + cap ≤ R.slots) :
    ∃ T' h', Stand p l e R s m args below meth c T' locs (cells + 1) (slots + cap) ∧ T'.heap = h' ∧ Ext h h' ∧ own_Arf Z h' h.size (newarray.typeOf aty) n.toNatClampNeg (fun _ => defaultValue (newarray.typeOf aty)) ∧
      ∀ target, Steps p.tables e below (T'.setTop { g with pc := g.pc + 2, stack := .ref h.size :: rest }) target → Steps p.tables e below (T.setTop g) target := by
  obtain ⟨T', h', cA, X', e', E', A', st⟩ := newP X hx hZ w eT hg hd hs hn hcap hb hc hl
  refine ⟨T', h', X', e', E', ⟨_, A', sz_new _ _ _, fun j hj => ?_⟩, st⟩
  simp [newA, hj]
theorem own_newPE (X : Stand p l e R s m args below meth c T locs cells slots) (hx : p.tables.exec = Jvm.exec) (hZ : Z.Warmed39 s.vm) {aty : ArrayType} (w : (Jvm.Cond.arrayClass (newarray.typeOf aty)).before a0 Z = true) (eT : T.heap = h) {g : JFrame} (hg : g.method = m) (hd : decode c.code g.pc = .ok (.newarray aty, 2)) {n : Int32} {rest : List Value} (hs : g.stack = .int n :: rest)
    (hn : ¬ n < 0) {cap : Nat} (hcap : n.toNatClampNeg ≤ cap) (hb : cap * 8 ≤ 536870912) (hc : cells + 1 ≤ R.cells) (hl : slots + cap ≤ R.slots) {ad : String} (had : "[" ++ (newarray.typeOf aty).toString = ad) :
    ∃ T' h', Stand p l e R s m args below meth c T' locs (cells + 1) (slots + cap) ∧ T'.heap = h' ∧ Ext h h' ∧ own_Arf Z h' h.size (newarray.typeOf aty) n.toNatClampNeg (fun _ => defaultValue (newarray.typeOf aty)) ∧ Exa Z h' h.size ad ∧
      ∀ target, Steps p.tables e below (T'.setTop { g with pc := g.pc + 2, stack := .ref h.size :: rest }) target → Steps p.tables e below (T.setTop g) target := by
  obtain ⟨T', h', cA, X', e', E', A', Ex, st⟩ := newPE X hx hZ w eT hg hd hs hn hcap hb hc hl had
  refine ⟨T', h', X', e', E', ⟨_, A', sz_new _ _ _, fun j hj => ?_⟩, Ex, st⟩
  simp [newA, hj]
theorem own_cloneA (X : Stand p l e R s m args below meth c T locs cells slots) (hx : p.tables.exec = Jvm.exec) (hZ : Z.Warmed39 s.vm) {own ad : String} {index : Nat} (hown : s.vm.findClass own = some m.cls)
    (w1 : (Jvm.Cond.methodLink own index ⟨ad, "clone", "()Ljava/lang/Object;"⟩).before a0 Z = true) (w2 : (Jvm.Cond.sameMethod ad "java/lang/Object" "clone" "()Ljava/lang/Object;").before a0 Z = true) (w3 : (Jvm.Cond.native ⟨"java/lang/Object", "clone", "()Ljava/lang/Object;"⟩).before a0 Z = true)
    (w4 : (Jvm.Cond.instanceMethod ⟨"java/lang/Object", "clone", "()Ljava/lang/Object;"⟩).before a0 Z = true) (w5 : (Jvm.Cond.selects ad ⟨ad, "clone", "()Ljava/lang/Object;"⟩ ⟨"java/lang/Object", "clone", "()Ljava/lang/Object;"⟩).before a0 Z = true) (w6 : (Jvm.Cond.castable ad "java/lang/Cloneable").before a0 Z = true)
    (eT : T.heap = h) {a : Addr} {ty : FieldType} {n : Nat} {f : Nat → Value} (A : own_Arf Z h a ty n f) (E : Exa Z h a ad) (hfit : ∀ k, k < n → fits ty (f k) = true) {g : JFrame} (hg : g.method = m) (hsize : g.locals.size = c.maxLocals) {rest : List Value} (hs : g.stack = .ref a :: rest) (hd : decode c.code g.pc = .ok (.invokevirtual index, 3))
    (hf : 1 ≤ R.frames) {W : Nat} (hW : 2 * g.monitorRoom + (rest.map fun v => v.category).sum ≤ W) (hl : W + 14 ≤ R.locals) (hc : cells + 1 ≤ R.cells) (hsl : slots + n ≤ R.slots) :
    ∃ T' h', Stand p l e R s m args below meth c T' locs (cells + 1) (slots + n) ∧ T'.heap = h' ∧ Ext h h' ∧ own_Arf Z h' h.size ty n f ∧ Exa Z h' h.size ad ∧
      ∀ target, Steps p.tables e below (T'.setTop { g with pc := g.pc + 3, stack := .ref h.size :: rest }) target → Steps p.tables e below (T.setTop g) target := by
  obtain ⟨cl, A1, A2, A3⟩ := A
  have FC : FitC Z cl := fitC_of A1 fun i hi v hv => by
    rw [A3 i (by omega)] at hv
    cases hv
    exact hfit i (by omega)
  obtain ⟨T', h', X', e', ex, A', E', st⟩ := cloneA X hx hZ hown w1 w2 w3 w4 w5 w6 eT A1 E FC hg hsize hs hd hf hW hl (Nat.le_of_eq A2) hc hsl
  exact ⟨T', h', X', e', ex, ⟨cloneOf cl, A', A2, A3⟩, E', st⟩
theorem own_len (X : Stand p l e R s m args below meth c T locs cells slots) (hx : p.tables.exec = Jvm.exec) (hZ : Z.Warmed39 s.vm) (eT : T.heap = h) {a : Addr} {ty : FieldType} {n : Nat} {f : Nat → Value} (A : own_Arf Z h a ty n f) {g : JFrame} (hg : g.method = m) {rest : List Value} (hs : g.stack = .ref a :: rest) (hd : decode c.code g.pc = .ok (.arraylength, 1)) :
    ∀ t, Steps p.tables e below (T.setTop { g with pc := g.pc + 1, stack := .int n.toInt32 :: rest }) t → Steps p.tables e below (T.setTop g) t := by
  obtain ⟨cl, A1, A2, A3⟩ := A
  intro t k
  subst A2
  exact X.arraylength hx (by rw [eT]; exact A1.1) (State.isArrayOf_alike hZ.alike A1.2.1) hg hs hd _ k
theorem own_ldI (X : Stand p l e R s m args below meth c T locs cells slots) (hx : p.tables.exec = Jvm.exec) (hZ : Z.Warmed39 s.vm) (eT : T.heap = h) {a : Addr} {n : Nat} {f : Nat → Int32} (A : own_Arf Z h a .int n (fun k => .int (f k))) {j : Int32} (q : 0 ≤ j.toInt ∧ j.toInt < (n : Int)) {g : JFrame} (hg : g.method = m) {rest : List Value} (hs : g.stack = .int j :: .ref a :: rest) (hd : decode c.code g.pc = .ok (.iaload, 1)) :
    ∀ t, Steps p.tables e below (T.setTop { g with pc := g.pc + 1, stack := .int (f j.toNatClampNeg) :: rest }) t → Steps p.tables e below (T.setTop g) t := by
  obtain ⟨cl, A1, A2, A3⟩ := A
  exact fun t k => X.iaload hx (by rw [eT]; exact A1.1) (State.isArrayOf_alike hZ.alike A1.2.1) A1.2.2 (own_inb A2 q) (A3 _ (own_idx q)) hg hs hd _ k
theorem own_ldJ (X : Stand p l e R s m args below meth c T locs cells slots) (hx : p.tables.exec = Jvm.exec) (hZ : Z.Warmed39 s.vm) (eT : T.heap = h) {a : Addr} {n : Nat} {f : Nat → Int64} (A : own_Arf Z h a .long n (fun k => .long (f k))) {j : Int32} (q : 0 ≤ j.toInt ∧ j.toInt < (n : Int)) {g : JFrame} (hg : g.method = m) {rest : List Value} (hs : g.stack = .int j :: .ref a :: rest) (hd : decode c.code g.pc = .ok (.laload, 1)) :
    ∀ t, Steps p.tables e below (T.setTop { g with pc := g.pc + 1, stack := .long (f j.toNatClampNeg) :: rest }) t → Steps p.tables e below (T.setTop g) t := by
  obtain ⟨cl, A1, A2, A3⟩ := A
  exact fun t k => X.laload hx (by rw [eT]; exact A1.1) (State.isArrayOf_alike hZ.alike A1.2.1) A1.2.2 (own_inb A2 q) (A3 _ (own_idx q)) hg hs hd _ k
theorem own_ldC (X : Stand p l e R s m args below meth c T locs cells slots) (hx : p.tables.exec = Jvm.exec) (hZ : Z.Warmed39 s.vm) (eT : T.heap = h) {a : Addr} {n : Nat} {f : Nat → Int32} (A : own_Arf Z h a .char n (fun k => .int (f k))) {j : Int32} (q : 0 ≤ j.toInt ∧ j.toInt < (n : Int)) {g : JFrame} (hg : g.method = m) {rest : List Value} (hs : g.stack = .int j :: .ref a :: rest) (hd : decode c.code g.pc = .ok (.caload, 1)) :
    ∀ t, Steps p.tables e below (T.setTop { g with pc := g.pc + 1, stack := .int (f j.toNatClampNeg) :: rest }) t → Steps p.tables e below (T.setTop g) t := by
  obtain ⟨cl, A1, A2, A3⟩ := A
  exact fun t k => X.caload hx (by rw [eT]; exact A1.1) (State.isArrayOf_alike hZ.alike A1.2.1) A1.2.2 (own_inb A2 q) (A3 _ (own_idx q)) hg hs hd _ k
theorem own_ldS (X : Stand p l e R s m args below meth c T locs cells slots) (hx : p.tables.exec = Jvm.exec) (hZ : Z.Warmed39 s.vm) (eT : T.heap = h) {a : Addr} {n : Nat} {f : Nat → Int32} (A : own_Arf Z h a .short n (fun k => .int (f k))) {j : Int32} (q : 0 ≤ j.toInt ∧ j.toInt < (n : Int)) {g : JFrame} (hg : g.method = m) {rest : List Value} (hs : g.stack = .int j :: .ref a :: rest) (hd : decode c.code g.pc = .ok (.saload, 1)) :
    ∀ t, Steps p.tables e below (T.setTop { g with pc := g.pc + 1, stack := .int (f j.toNatClampNeg) :: rest }) t → Steps p.tables e below (T.setTop g) t := by
  obtain ⟨cl, A1, A2, A3⟩ := A
  exact fun t k => X.saload hx (by rw [eT]; exact A1.1) (State.isArrayOf_alike hZ.alike A1.2.1) A1.2.2 (own_inb A2 q) (A3 _ (own_idx q)) hg hs hd _ k
theorem own_ldB (X : Stand p l e R s m args below meth c T locs cells slots) (hx : p.tables.exec = Jvm.exec) (hZ : Z.Warmed39 s.vm) (eT : T.heap = h) {a : Addr} {n : Nat} {f : Nat → Int32} (A : own_Arf Z h a .byte n (fun k => .int (f k))) {j : Int32} (q : 0 ≤ j.toInt ∧ j.toInt < (n : Int)) {g : JFrame} (hg : g.method = m) {rest : List Value} (hs : g.stack = .int j :: .ref a :: rest) (hd : decode c.code g.pc = .ok (.baload, 1)) :
    ∀ t, Steps p.tables e below (T.setTop { g with pc := g.pc + 1, stack := .int (f j.toNatClampNeg) :: rest }) t → Steps p.tables e below (T.setTop g) t := by
  obtain ⟨cl, A1, A2, A3⟩ := A
  exact fun t k => X.baloadBytes hx (by rw [eT]; exact A1.1) (State.isArrayOf_alike hZ.alike A1.2.1) A1.2.2 (own_inb A2 q) (A3 _ (own_idx q)) hg hs hd _ k
theorem own_ldR (X : Stand p l e R s m args below meth c T locs cells slots) (hx : p.tables.exec = Jvm.exec) (hZ : Z.Warmed39 s.vm) (eT : T.heap = h) {a : Addr} {ty : FieldType} (hty : ty.isReference = true) {n : Nat} {f : Nat → Value} (A : own_Arf Z h a ty n f) {j : Int32} (q : 0 ≤ j.toInt ∧ j.toInt < (n : Int)) {g : JFrame} (hg : g.method = m) {rest : List Value} (hs : g.stack = .int j :: .ref a :: rest) (hd : decode c.code g.pc = .ok (.aaload, 1)) :
    ∀ t, Steps p.tables e below (T.setTop { g with pc := g.pc + 1, stack := f j.toNatClampNeg :: rest }) t → Steps p.tables e below (T.setTop g) t := by
  obtain ⟨cl, A1, A2, A3⟩ := A
  exact fun t k => X.aaload hx (by rw [eT]; exact A1.1) (State.isArrayOf_alike hZ.alike A1.2.1) hty A1.2.2 (own_inb A2 q) (A3 _ (own_idx q)) hg hs hd _ k
theorem own_stI (X : Stand p l e R s m args below meth c T locs cells slots) (hx : p.tables.exec = Jvm.exec) (hZ : Z.Warmed39 s.vm) (eT : T.heap = h) {a : Addr} {n : Nat} {f : Nat → Int32} (A : own_Arf Z h a .int n (fun k => .int (f k))) {j x : Int32} (q : 0 ≤ j.toInt ∧ j.toInt < (n : Int)) {g : JFrame} (hg : g.method = m) {rest : List Value} (hs : g.stack = .int x :: .int j :: .ref a :: rest) (hd : decode c.code g.pc = .ok (.iastore, 1)) :
    ∃ T' h', Stand p l e R s m args below meth c T' (locs ++ [⟨a, j.toNatClampNeg⟩]) cells slots ∧ T'.heap = h' ∧ Wr h h' a j.toNatClampNeg (.int x) ∧ own_Arf Z h' a .int n (fun k => .int (if k = j.toNatClampNeg then x else f k)) ∧ ∀ t, Steps p.tables e below (T'.setTop { g with pc := g.pc + 1, stack := rest }) t → Steps p.tables e below (T.setTop g) t := by
  obtain ⟨cl, A1, A2, A3⟩ := id A
  obtain ⟨T', h', X', e', W, st⟩ := stI X hx hZ eT A1 (own_inb A2 q) hg hs hd
  exact ⟨T', h', X', e', W, own_Arf.setI A W, st⟩
theorem own_stJ (X : Stand p l e R s m args below meth c T locs cells slots) (hx : p.tables.exec = Jvm.exec) (hZ : Z.Warmed39 s.vm) (eT : T.heap = h) {a : Addr} {n : Nat} {f : Nat → Int64} (A : own_Arf Z h a .long n (fun k => .long (f k))) {j : Int32} {x : Int64} (q : 0 ≤ j.toInt ∧ j.toInt < (n : Int)) {g : JFrame} (hg : g.method = m) {rest : List Value} (hs : g.stack = .long x :: .int j :: .ref a :: rest) (hd : decode c.code g.pc = .ok (.lastore, 1)) :
    ∃ T' h', Stand p l e R s m args below meth c T' (locs ++ [⟨a, j.toNatClampNeg⟩]) cells slots ∧ T'.heap = h' ∧ Wr h h' a j.toNatClampNeg (.long x) ∧ own_Arf Z h' a .long n (fun k => .long (if k = j.toNatClampNeg then x else f k)) ∧ ∀ t, Steps p.tables e below (T'.setTop { g with pc := g.pc + 1, stack := rest }) t → Steps p.tables e below (T.setTop g) t := by
  obtain ⟨cl, A1, A2, A3⟩ := id A
  obtain ⟨T', h', X', e', W, st⟩ := stJ X hx hZ eT A1 (own_inb A2 q) hg hs hd
  exact ⟨T', h', X', e', W, own_Arf.setJ A W, st⟩
theorem own_stC (X : Stand p l e R s m args below meth c T locs cells slots) (hx : p.tables.exec = Jvm.exec) (hZ : Z.Warmed39 s.vm) (eT : T.heap = h) {a : Addr} {n : Nat} {f : Nat → Int32} (A : own_Arf Z h a .char n (fun k => .int (f k))) {j x : Int32} (q : 0 ≤ j.toInt ∧ j.toInt < (n : Int)) {g : JFrame} (hg : g.method = m) {rest : List Value} (hs : g.stack = .int x :: .int j :: .ref a :: rest) (hd : decode c.code g.pc = .ok (.castore, 1)) :
    ∃ T' h', Stand p l e R s m args below meth c T' (locs ++ [⟨a, j.toNatClampNeg⟩]) cells slots ∧ T'.heap = h' ∧ Wr h h' a j.toNatClampNeg (.int (nar .char x)) ∧ own_Arf Z h' a .char n (fun k => .int (if k = j.toNatClampNeg then nar .char x else f k)) ∧ ∀ t, Steps p.tables e below (T'.setTop { g with pc := g.pc + 1, stack := rest }) t → Steps p.tables e below (T.setTop g) t := by
  obtain ⟨cl, A1, A2, A3⟩ := id A
  obtain ⟨T', h', X', e', W, st⟩ := stC X hx hZ eT A1 (own_inb A2 q) hg hs hd
  exact ⟨T', h', X', e', W, own_Arf.setI A W, st⟩
theorem own_stS (X : Stand p l e R s m args below meth c T locs cells slots) (hx : p.tables.exec = Jvm.exec) (hZ : Z.Warmed39 s.vm) (eT : T.heap = h) {a : Addr} {n : Nat} {f : Nat → Int32} (A : own_Arf Z h a .short n (fun k => .int (f k))) {j x : Int32} (q : 0 ≤ j.toInt ∧ j.toInt < (n : Int)) {g : JFrame} (hg : g.method = m) {rest : List Value} (hs : g.stack = .int x :: .int j :: .ref a :: rest) (hd : decode c.code g.pc = .ok (.sastore, 1)) :
    ∃ T' h', Stand p l e R s m args below meth c T' (locs ++ [⟨a, j.toNatClampNeg⟩]) cells slots ∧ T'.heap = h' ∧ Wr h h' a j.toNatClampNeg (.int (nar .short x)) ∧ own_Arf Z h' a .short n (fun k => .int (if k = j.toNatClampNeg then nar .short x else f k)) ∧ ∀ t, Steps p.tables e below (T'.setTop { g with pc := g.pc + 1, stack := rest }) t → Steps p.tables e below (T.setTop g) t := by
  obtain ⟨cl, A1, A2, A3⟩ := id A
  obtain ⟨T', h', X', e', W, st⟩ := stS X hx hZ eT A1 (own_inb A2 q) hg hs hd
  exact ⟨T', h', X', e', W, own_Arf.setI A W, st⟩
theorem own_stB (X : Stand p l e R s m args below meth c T locs cells slots) (hx : p.tables.exec = Jvm.exec) (hZ : Z.Warmed39 s.vm) (eT : T.heap = h) {a : Addr} {n : Nat} {f : Nat → Int32} (A : own_Arf Z h a .byte n (fun k => .int (f k))) {j x : Int32} (q : 0 ≤ j.toInt ∧ j.toInt < (n : Int)) {g : JFrame} (hg : g.method = m) {rest : List Value} (hs : g.stack = .int x :: .int j :: .ref a :: rest) (hd : decode c.code g.pc = .ok (.bastore, 1)) :
    ∃ T' h', Stand p l e R s m args below meth c T' (locs ++ [⟨a, j.toNatClampNeg⟩]) cells slots ∧ T'.heap = h' ∧ Wr h h' a j.toNatClampNeg (.int (nar .byte x)) ∧ own_Arf Z h' a .byte n (fun k => .int (if k = j.toNatClampNeg then nar .byte x else f k)) ∧ ∀ t, Steps p.tables e below (T'.setTop { g with pc := g.pc + 1, stack := rest }) t → Steps p.tables e below (T.setTop g) t := by
  obtain ⟨cl, A1, A2, A3⟩ := id A
  obtain ⟨T', h', X', e', W, st⟩ := stB X hx hZ eT A1 (own_inb A2 q) hg hs hd
  exact ⟨T', h', X', e', W, own_Arf.setI A W, st⟩
theorem own_newR (X : Stand p l e R s m args below meth c T locs cells slots) (hx : p.tables.exec = Jvm.exec) (hZ : Z.Warmed39 s.vm) {own C : String} {index : Nat} (hown : s.vm.findClass own = some m.cls) (w1 : (Jvm.Cond.classLink own index C).before a0 Z = true) (w2 : (Jvm.Cond.arrayOver (.object C)).before a0 Z = true)
    (eT : T.heap = h) {g : JFrame} (hg : g.method = m) (hd : decode c.code g.pc = .ok (.anewarray index, 3)) {n : Int32} {rest : List Value} (hs : g.stack = .int n :: rest) (hn : ¬ n < 0) {cap : Nat} (hcap : n.toNatClampNeg ≤ cap) (hb : cap * 8 ≤ 536870912) (hc : cells + 1 ≤ R.cells) (hl : slots + cap ≤ R.slots) :
    ∃ T' h', Stand p l e R s m args below meth c T' locs (cells + 1) (slots + cap) ∧ T'.heap = h' ∧ Ext h h' ∧ (∃ cl : Cell, h'[h.size]? = some cl ∧ Ovr Z cl.cls C) ∧ own_Arf Z h' h.size (.object C) n.toNatClampNeg (fun _ => .null) ∧
      ∀ target, Steps p.tables e below (T'.setTop { g with pc := g.pc + 3, stack := .ref h.size :: rest }) target → Steps p.tables e below (T.setTop g) target := by
  obtain ⟨T', h', cA, X', e', E', A', O', st⟩ := newR X hx hZ hown w1 w2 eT hg hd hs hn hcap hb hc hl
  refine ⟨T', h', X', e', E', ⟨_, A'.1, O'⟩, ⟨_, A', sz_new _ _ _, fun j hj => ?_⟩, st⟩
  simp [newA, hj, defaultValue]
/-- an array of objects of C: the class of the array is C's -/
def own_Ovr (Z : State) (h : Heap) (a : Addr) (C : String) : Prop := ∃ cl : Cell, h[a]? = some cl ∧ Ovr Z cl.cls C
theorem own_Ovr.ext {a : Addr} {C : String} (F : own_Ovr Z h a C) (E : Ext h h') : own_Ovr Z h' a C := by obtain ⟨cl, h1, h2⟩ := F; exact ⟨cl, E.2 _ _ h1, h2⟩
theorem own_Ovr.wr {a b : Addr} {C : String} {sl : Nat} {v : Value} (F : own_Ovr Z h a C) (W : Wr h h' b sl v) : own_Ovr Z h' a C := by
  obtain ⟨cl, h1, h2⟩ := F
  obtain ⟨c', e1, e2, -⟩ := wr_at W h1
  exact ⟨c', e1, by rw [e2]; exact h2⟩
theorem own_Ovr.keep {a : Addr} {C : String} {ws : List Addr} (F : own_Ovr Z h a C) (K : Keep h h' ws) : own_Ovr Z h' a C := by
  obtain ⟨cl, h1, h2⟩ := F
  obtain ⟨c', e1, e2, -⟩ := K.2.2 _ _ h1
  exact ⟨c', e1, by rw [e2]; exact h2⟩
theorem own_stR (X : Stand p l e R s m args below meth c T locs cells slots) (hx : p.tables.exec = Jvm.exec) (hZ : Z.Warmed39 s.vm) (eT : T.heap = h) {a : Addr} {C : String} {n : Nat} {f : Nat → Value} (A : own_Arf Z h a (.object C) n f) (O : own_Ovr Z h a C) {j : Int32} {v : Value} (I : v = .null ∨ ∃ y, v = .ref y ∧ Ins Z h y C true) (q : 0 ≤ j.toInt ∧ j.toInt < (n : Int)) {g : JFrame} (hg : g.method = m) {rest : List Value} (hs : g.stack = v :: .int j :: .ref a :: rest) (hd : decode c.code g.pc = .ok (.aastore, 1)) :
    ∃ T' h', Stand p l e R s m args below meth c T' (locs ++ [⟨a, j.toNatClampNeg⟩]) cells slots ∧ T'.heap = h' ∧ Wr h h' a j.toNatClampNeg v ∧ own_Arf Z h' a (.object C) n (fun k => if k = j.toNatClampNeg then v else f k) ∧ own_Ovr Z h' a C ∧ ∀ t, Steps p.tables e below (T'.setTop { g with pc := g.pc + 1, stack := rest }) t → Steps p.tables e below (T.setTop g) t := by
  obtain ⟨cl, A1, A2, A3⟩ := id A
  obtain ⟨cl2, o1, o2⟩ := id O
  cases A1.1.symm.trans o1
  have F : Sto Z h a v := by
    rcases I with rfl | ⟨y, rfl, I⟩
    · exact Or.inl rfl
    · exact Sto.of A1 o2 I
  obtain ⟨T', h', X', e', W, st⟩ := stR X hx hZ eT A1 (own_inb A2 q) rfl F hg hs hd
  exact ⟨T', h', X', e', W, own_Arf.set A W, O.wr W, st⟩
end OwnKit
theorem own_rem15 (x : Int32) : 0 ≤ ((x &&& (2147483647 : Int32)) % (15 : Int32)).toInt ∧ ((x &&& (2147483647 : Int32)) % (15 : Int32)).toInt ≤ 14 := by
  have h1 : (x &&& (2147483647 : Int32)).toInt = x.toInt % 2147483648 := c_mask x 2147483647 31 (by decide) (by decide)
  have h2 := (c_irem (x &&& (2147483647 : Int32)) 15 15 (by decide)).1 (by omega)
  omega
theorem own_15 {i : Int32} (h : 0 ≤ i.toInt ∧ i.toInt ≤ 14) : i = (0 : Int32) ∨ i = (1 : Int32) ∨ i = (2 : Int32) ∨ i = (3 : Int32) ∨ i = (4 : Int32) ∨ i = (5 : Int32) ∨ i = (6 : Int32) ∨ i = (7 : Int32) ∨ i = (8 : Int32) ∨ i = (9 : Int32) ∨ i = (10 : Int32) ∨ i = (11 : Int32) ∨ i = (12 : Int32) ∨ i = (13 : Int32) ∨ i = (14 : Int32) := by
  simp only [← Int32.toInt_inj]
  have e : (0 : Int32).toInt = 0 ∧ (1 : Int32).toInt = 1 ∧ (2 : Int32).toInt = 2 ∧ (3 : Int32).toInt = 3 ∧ (4 : Int32).toInt = 4 ∧ (5 : Int32).toInt = 5 ∧ (6 : Int32).toInt = 6 ∧ (7 : Int32).toInt = 7 ∧ (8 : Int32).toInt = 8 ∧ (9 : Int32).toInt = 9 ∧ (10 : Int32).toInt = 10 ∧ (11 : Int32).toInt = 11 ∧ (12 : Int32).toInt = 12 ∧ (13 : Int32).toInt = 13 ∧ (14 : Int32).toInt = 14 := by decide
  omega
theorem own_pn0 : plainFor (⟨"com/example/footprint_to_feed/footprinttofeed/SearchKey", "bound", "()Z"⟩ : MethodName) = true := by first | exact plainFor_of_name (by simp [plainName, overriddenIn]; done) | decide +kernel
theorem own_d1_0 : decode prog_16_method_7_code 0 = .ok (.aload_n 0, 1) := by decide +kernel
theorem own_d1_1 : decode prog_16_method_7_code 1 = .ok (.getfield 79, 3) := by decide +kernel
theorem own_d1_4 : decode prog_16_method_7_code 4 = .ok (.ifnull 7, 3) := by decide +kernel
theorem own_d1_7 : decode prog_16_method_7_code 7 = .ok (.iconst 1, 1) := by decide +kernel
theorem own_d1_8 : decode prog_16_method_7_code 8 = .ok (.goto 4, 3) := by decide +kernel
theorem own_d1_12 : decode prog_16_method_7_code 12 = .ok (.ireturn, 1) := by decide +kernel
theorem own_ef_rmB0 (m : MethodId) (a1 : Nat) : entryFrame m #[(.ref a1)] 1 = mkF m 0 #[rv a1] [] := by first | (simp [entryFrame, mkF, argsToLocals, Value.category, maxLocals]; done) | rfl
abbrev own_Q_rmB0 (Z : State) (a1 : Nat) (t1 : Nat) (h0 : Heap) (n0 : Nat) (v : Option Value) (h : Heap) (L : List Loc) : Prop := v = some (.int 1) ∧ Fr n0 L ∧ h = h0
set_option maxRecDepth 65536 in
set_option maxHeartbeats 40000000 in
theorem rmB0 (l : Launch) (Z : State) (a0 : Array Value) (hw : ∀ d ∈ tables_1, d.before a0 Z = true) (ws : List Jvm.Cond) (a1 : Nat) (t1 : Nat) (h0 : Heap) (n0 : Nat) (Z0 : n0 ≤ h0.size) (F1 : Fld Z h0 a1 "com/example/footprint_to_feed/footprinttofeed/SearchKey" "parameter" "Ljava/lang/String;" (.ref t1)) :
    MetFree l (⟨"com/example/footprint_to_feed/footprinttofeed/SearchKey", "bound", "()Z"⟩ : MethodName) (head1 (Jvm.Cond.code (⟨"com/example/footprint_to_feed/footprinttofeed/SearchKey", "bound", "()Z"⟩ : MethodName) prog_16_method_7_code 1 (some .boolean) :: ws) ({ frames := 0, cells := 0, slots := 0, locals := 0 } : Room)) (fun a U => a = #[(.ref a1)] ∧ Z.Warmed39 U.vm ∧ U.heap = h0) (fun _ _ _ _ _ => True) (fun _ U o U' => ∃ v L, o = .returned v ∧ own_Q_rmB0 Z a1 t1 h0 n0 v U'.heap L ∧ FrameEnd U o U' L ({ frames := 0, cells := 0, slots := 0, locals := 0 } : Room).cells ({ frames := 0, cells := 0, slots := 0, locals := 0 } : Room).slots) := by
  refine own_enter (Q := fun v h L => own_Q_rmB0 Z a1 t1 h0 n0 v h L) (F := fun m => mkF m 0 #[rv a1] []) own_pn0 (fun m => own_ef_rmB0 m a1) ?_
  intro p e s m below meth c T X hx hby hml hret hlk hnm hown hZ e0
  show own_Goes p e below s _ _ (T.setTop (mkF m 0 #[rv a1] []))
  have N0 := Fr.nil n0
  refine own_st (fun _ k => XS.aloadN X.here hx rfl (hb hby own_d1_0) rfl rfl  k) ?_
  show own_Goes p e below s _ _ (T.setTop (mkF m 1 #[rv a1] [(.ref a1)]))
  obtain ⟨T101, X101, e101, st101⟩ := getF X hx hZ hown (host := "") (Or.inl (hw _ (List.mem_of_getElem? (i := 40) rfl))) Via.refl e0 F1 (g := (mkF m 1 #[rv a1] [(.ref a1)])) rfl rfl (hb hby own_d1_1)
  refine own_st st101 ?_
  show own_Goes p e below s _ _ (T101.setTop (mkF m 4 #[rv a1] [(.ref t1)]))
  refine own_st (fun _ k => XS.ifnullNo X101.here hx rfl (hb hby own_d1_4) rfl k) ?_
  show own_Goes p e below s _ _ (T101.setTop (mkF m 7 #[rv a1] []))
  refine own_st (fun _ k => XS.iconst X101.here hx rfl (hb hby own_d1_7) k) ?_
  show own_Goes p e below s _ _ (T101.setTop (mkF m 8 #[rv a1] [(.int (1 : Int32))]))
  refine own_st (fun _ k => XS.goto X101.here hx rfl (pc0 := 8) (pc' := 12) rfl (hb hby own_d1_8) (by decide) (by decide) k) ?_
  show own_Goes p e below s _ _ (T101.setTop (mkF m 12 #[rv a1] [(.int (1 : Int32))]))
  exact own_retN X101 hx hlk (1 : Int32) hret (Or.inl rfl) rfl (hb hby own_d1_12) (by decide) (by decide) ⟨rfl, N0, e101⟩
theorem own_d1_11 : decode prog_16_method_7_code 11 = .ok (.iconst 0, 1) := by decide +kernel
theorem own_ef_rmB1 (m : MethodId) (a1 : Nat) : entryFrame m #[(.ref a1)] 1 = mkF m 0 #[rv a1] [] := by first | (simp [entryFrame, mkF, argsToLocals, Value.category, maxLocals]; done) | rfl
abbrev own_Q_rmB1 (Z : State) (a1 : Nat) (h0 : Heap) (n0 : Nat) (v : Option Value) (h : Heap) (L : List Loc) : Prop := v = some (.int 0) ∧ Fr n0 L ∧ h = h0
set_option maxRecDepth 65536 in
set_option maxHeartbeats 40000000 in
theorem rmB1 (l : Launch) (Z : State) (a0 : Array Value) (hw : ∀ d ∈ tables_1, d.before a0 Z = true) (ws : List Jvm.Cond) (a1 : Nat) (h0 : Heap) (n0 : Nat) (Z0 : n0 ≤ h0.size) (F1 : Fld Z h0 a1 "com/example/footprint_to_feed/footprinttofeed/SearchKey" "parameter" "Ljava/lang/String;" .null) :
    MetFree l (⟨"com/example/footprint_to_feed/footprinttofeed/SearchKey", "bound", "()Z"⟩ : MethodName) (head1 (Jvm.Cond.code (⟨"com/example/footprint_to_feed/footprinttofeed/SearchKey", "bound", "()Z"⟩ : MethodName) prog_16_method_7_code 1 (some .boolean) :: ws) ({ frames := 0, cells := 0, slots := 0, locals := 0 } : Room)) (fun a U => a = #[(.ref a1)] ∧ Z.Warmed39 U.vm ∧ U.heap = h0) (fun _ _ _ _ _ => True) (fun _ U o U' => ∃ v L, o = .returned v ∧ own_Q_rmB1 Z a1 h0 n0 v U'.heap L ∧ FrameEnd U o U' L ({ frames := 0, cells := 0, slots := 0, locals := 0 } : Room).cells ({ frames := 0, cells := 0, slots := 0, locals := 0 } : Room).slots) := by
  refine own_enter (Q := fun v h L => own_Q_rmB1 Z a1 h0 n0 v h L) (F := fun m => mkF m 0 #[rv a1] []) own_pn0 (fun m => own_ef_rmB1 m a1) ?_
  intro p e s m below meth c T X hx hby hml hret hlk hnm hown hZ e0
  show own_Goes p e below s _ _ (T.setTop (mkF m 0 #[rv a1] []))
  have N0 := Fr.nil n0
  refine own_st (fun _ k => XS.aloadN X.here hx rfl (hb hby own_d1_0) rfl rfl  k) ?_
  show own_Goes p e below s _ _ (T.setTop (mkF m 1 #[rv a1] [(.ref a1)]))
  obtain ⟨T101, X101, e101, st101⟩ := getF X hx hZ hown (host := "") (Or.inl (hw _ (List.mem_of_getElem? (i := 40) rfl))) Via.refl e0 F1 (g := (mkF m 1 #[rv a1] [(.ref a1)])) rfl rfl (hb hby own_d1_1)
  refine own_st st101 ?_
  show own_Goes p e below s _ _ (T101.setTop (mkF m 4 #[rv a1] [.null]))
  refine own_st (fun _ k => XS.ifnullYes X101.here hx rfl (pc0 := 4) (pc' := 11) rfl (hb hby own_d1_4) rfl (by decide) (by decide) k) ?_
  show own_Goes p e below s _ _ (T101.setTop (mkF m 11 #[rv a1] []))
  refine own_st (fun _ k => XS.iconst X101.here hx rfl (hb hby own_d1_11) k) ?_
  show own_Goes p e below s _ _ (T101.setTop (mkF m 12 #[rv a1] [(.int (0 : Int32))]))
  exact own_retN X101 hx hlk (0 : Int32) hret (Or.inl rfl) rfl (hb hby own_d1_12) (by decide) (by decide) ⟨rfl, N0, e101⟩
theorem own_pn1 : plainFor (⟨"com/example/footprint_to_feed/footprinttofeed/SearchKey", "parameter", "()Ljava/lang/String;"⟩ : MethodName) = true := by first | exact plainFor_of_name (by simp [plainName, overriddenIn]; done) | decide +kernel
theorem own_d2_0 : decode prog_16_method_9_code 0 = .ok (.aload_n 0, 1) := by decide +kernel
theorem own_d2_1 : decode prog_16_method_9_code 1 = .ok (.getfield 79, 3) := by decide +kernel
theorem own_d2_4 : decode prog_16_method_9_code 4 = .ok (.areturn, 1) := by decide +kernel
theorem own_ef_rmP0 (m : MethodId) (a1 : Nat) : entryFrame m #[(.ref a1)] 1 = mkF m 0 #[rv a1] [] := by first | (simp [entryFrame, mkF, argsToLocals, Value.category, maxLocals]; done) | rfl
abbrev own_Q_rmP0 (Z : State) (a1 : Nat) (t1 : Nat) (h0 : Heap) (n0 : Nat) (v : Option Value) (h : Heap) (L : List Loc) : Prop := v = some (.ref t1) ∧ Fr n0 L ∧ h = h0
set_option maxRecDepth 65536 in
set_option maxHeartbeats 40000000 in
theorem rmP0 (l : Launch) (Z : State) (a0 : Array Value) (hw : ∀ d ∈ tables_1, d.before a0 Z = true) (ws : List Jvm.Cond) (a1 : Nat) (t1 : Nat) (h0 : Heap) (n0 : Nat) (Z0 : n0 ≤ h0.size) (F1 : Fld Z h0 a1 "com/example/footprint_to_feed/footprinttofeed/SearchKey" "parameter" "Ljava/lang/String;" (.ref t1)) :
    MetFree l (⟨"com/example/footprint_to_feed/footprinttofeed/SearchKey", "parameter", "()Ljava/lang/String;"⟩ : MethodName) (head1 (Jvm.Cond.code (⟨"com/example/footprint_to_feed/footprinttofeed/SearchKey", "parameter", "()Ljava/lang/String;"⟩ : MethodName) prog_16_method_9_code 1 (some (.object "java/lang/String")) :: ws) ({ frames := 0, cells := 0, slots := 0, locals := 0 } : Room)) (fun a U => a = #[(.ref a1)] ∧ Z.Warmed39 U.vm ∧ U.heap = h0) (fun _ _ _ _ _ => True) (fun _ U o U' => ∃ v L, o = .returned v ∧ own_Q_rmP0 Z a1 t1 h0 n0 v U'.heap L ∧ FrameEnd U o U' L ({ frames := 0, cells := 0, slots := 0, locals := 0 } : Room).cells ({ frames := 0, cells := 0, slots := 0, locals := 0 } : Room).slots) := by
  refine own_enter (Q := fun v h L => own_Q_rmP0 Z a1 t1 h0 n0 v h L) (F := fun m => mkF m 0 #[rv a1] []) own_pn1 (fun m => own_ef_rmP0 m a1) ?_
  intro p e s m below meth c T X hx hby hml hret hlk hnm hown hZ e0
  show own_Goes p e below s _ _ (T.setTop (mkF m 0 #[rv a1] []))
  have N0 := Fr.nil n0
  refine own_st (fun _ k => XS.aloadN X.here hx rfl (hb hby own_d2_0) rfl rfl  k) ?_
  show own_Goes p e below s _ _ (T.setTop (mkF m 1 #[rv a1] [(.ref a1)]))
  obtain ⟨T101, X101, e101, st101⟩ := getF X hx hZ hown (host := "") (Or.inl (hw _ (List.mem_of_getElem? (i := 40) rfl))) Via.refl e0 F1 (g := (mkF m 1 #[rv a1] [(.ref a1)])) rfl rfl (hb hby own_d2_1)
  refine own_st st101 ?_
  show own_Goes p e below s _ _ (T101.setTop (mkF m 4 #[rv a1] [(.ref t1)]))
  exact own_retR X101 hx hlk hret rfl rfl (hb hby own_d2_4) (by decide) (by decide) ⟨rfl, N0, e101⟩
theorem own_ef_rmP1 (m : MethodId) (a1 : Nat) : entryFrame m #[(.ref a1)] 1 = mkF m 0 #[rv a1] [] := by first | (simp [entryFrame, mkF, argsToLocals, Value.category, maxLocals]; done) | rfl
abbrev own_Q_rmP1 (Z : State) (a1 : Nat) (h0 : Heap) (n0 : Nat) (v : Option Value) (h : Heap) (L : List Loc) : Prop := v = some .null ∧ Fr n0 L ∧ h = h0
set_option maxRecDepth 65536 in
set_option maxHeartbeats 40000000 in
theorem rmP1 (l : Launch) (Z : State) (a0 : Array Value) (hw : ∀ d ∈ tables_1, d.before a0 Z = true) (ws : List Jvm.Cond) (a1 : Nat) (h0 : Heap) (n0 : Nat) (Z0 : n0 ≤ h0.size) (F1 : Fld Z h0 a1 "com/example/footprint_to_feed/footprinttofeed/SearchKey" "parameter" "Ljava/lang/String;" .null) :
    MetFree l (⟨"com/example/footprint_to_feed/footprinttofeed/SearchKey", "parameter", "()Ljava/lang/String;"⟩ : MethodName) (head1 (Jvm.Cond.code (⟨"com/example/footprint_to_feed/footprinttofeed/SearchKey", "parameter", "()Ljava/lang/String;"⟩ : MethodName) prog_16_method_9_code 1 (some (.object "java/lang/String")) :: ws) ({ frames := 0, cells := 0, slots := 0, locals := 0 } : Room)) (fun a U => a = #[(.ref a1)] ∧ Z.Warmed39 U.vm ∧ U.heap = h0) (fun _ _ _ _ _ => True) (fun _ U o U' => ∃ v L, o = .returned v ∧ own_Q_rmP1 Z a1 h0 n0 v U'.heap L ∧ FrameEnd U o U' L ({ frames := 0, cells := 0, slots := 0, locals := 0 } : Room).cells ({ frames := 0, cells := 0, slots := 0, locals := 0 } : Room).slots) := by
  refine own_enter (Q := fun v h L => own_Q_rmP1 Z a1 h0 n0 v h L) (F := fun m => mkF m 0 #[rv a1] []) own_pn1 (fun m => own_ef_rmP1 m a1) ?_
  intro p e s m below meth c T X hx hby hml hret hlk hnm hown hZ e0
  show own_Goes p e below s _ _ (T.setTop (mkF m 0 #[rv a1] []))
  have N0 := Fr.nil n0
  refine own_st (fun _ k => XS.aloadN X.here hx rfl (hb hby own_d2_0) rfl rfl  k) ?_
  show own_Goes p e below s _ _ (T.setTop (mkF m 1 #[rv a1] [(.ref a1)]))
  obtain ⟨T101, X101, e101, st101⟩ := getF X hx hZ hown (host := "") (Or.inl (hw _ (List.mem_of_getElem? (i := 40) rfl))) Via.refl e0 F1 (g := (mkF m 1 #[rv a1] [(.ref a1)])) rfl rfl (hb hby own_d2_1)
  refine own_st st101 ?_
  show own_Goes p e below s _ _ (T101.setTop (mkF m 4 #[rv a1] [.null]))
  exact own_retR X101 hx hlk hret rfl rfl (hb hby own_d2_4) (by decide) (by decide) ⟨rfl, N0, e101⟩
theorem own_pn2 : plainFor (⟨"com/example/footprint_to_feed/footprinttofeed/SearchKeyBoundPinLaw", "law", "(I)Z"⟩ : MethodName) = true := by first | exact plainFor_of_name (by simp [plainName, overriddenIn]; done) | decide +kernel
theorem own_pd0 : parseMethodDescriptor "()Z" = some ⟨[], some .boolean⟩ := by decide +kernel
theorem own_pd1 : parseMethodDescriptor "()Ljava/lang/String;" = some ⟨[], some (.object "java/lang/String")⟩ := by decide +kernel
theorem own_ef_rm0 (m : MethodId) (p0 : Int32) : entryFrame m #[(.int p0)] maxLocals = mkF m 0 #[iv p0, .unset, .unset, .unset, .unset, .unset] [] := by first | (simp [entryFrame, mkF, argsToLocals, Value.category, maxLocals]; done) | rfl
abbrev own_Q_rm0 (Z : State) (p0 : Int32) (k0 : Nat) (k1 : Nat) (k2 : Nat) (k3 : Nat) (k4 : Nat) (k5 : Nat) (k6 : Nat) (k7 : Nat) (k8 : Nat) (k9 : Nat) (k10 : Nat) (k11 : Nat) (k12 : Nat) (k13 : Nat) (k14 : Nat) (t0 : Nat) (t1 : Nat) (t2 : Nat) (t3 : Nat) (t4 : Nat) (t5 : Nat) (t6 : Nat) (t7 : Nat) (t8 : Nat) (t9 : Nat) (t10 : Nat) (t11 : Nat) (t12 : Nat) (t13 : Nat) (h0 : Heap) (n0 : Nat) (v : Option Value) (h : Heap) (L : List Loc) : Prop := v = some (.int 1) ∧ Fr n0 L
set_option maxRecDepth 65536 in
set_option maxHeartbeats 40000000 in
theorem rm0 (l : Launch) (Z : State) (a0 : Array Value) (hw : ∀ d ∈ tables_1, d.before a0 Z = true) (ws : List Jvm.Cond) (p0 : Int32) (k0 : Nat) (k1 : Nat) (k2 : Nat) (k3 : Nat) (k4 : Nat) (k5 : Nat) (k6 : Nat) (k7 : Nat) (k8 : Nat) (k9 : Nat) (k10 : Nat) (k11 : Nat) (k12 : Nat) (k13 : Nat) (k14 : Nat) (t0 : Nat) (t1 : Nat) (t2 : Nat) (t3 : Nat) (t4 : Nat) (t5 : Nat) (t6 : Nat) (t7 : Nat) (t8 : Nat) (t9 : Nat) (t10 : Nat) (t11 : Nat) (t12 : Nat) (t13 : Nat) (h0 : Heap) (n0 : Nat) (Z0 : n0 ≤ h0.size) (Sk0 : Sta Z h0 "com/example/footprint_to_feed/footprinttofeed/SearchKey" "Q" "Lcom/example/footprint_to_feed/footprinttofeed/SearchKey;" (.ref k0)) (Sk1 : Sta Z h0 "com/example/footprint_to_feed/footprinttofeed/SearchKey" "COUNT" "Lcom/example/footprint_to_feed/footprinttofeed/SearchKey;" (.ref k1)) (Sk2 : Sta Z h0 "com/example/footprint_to_feed/footprinttofeed/SearchKey" "START_INDEX" "Lcom/example/footprint_to_feed/footprinttofeed/SearchKey;" (.ref k2)) (Sk3 : Sta Z h0 "com/example/footprint_to_feed/footprinttofeed/SearchKey" "START_PAGE" "Lcom/example/footprint_to_feed/footprinttofeed/SearchKey;" (.ref k3)) (Sk4 : Sta Z h0 "com/example/footprint_to_feed/footprinttofeed/SearchKey" "BBOX" "Lcom/example/footprint_to_feed/footprinttofeed/SearchKey;" (.ref k4)) (Sk5 : Sta Z h0 "com/example/footprint_to_feed/footprinttofeed/SearchKey" "GEOM" "Lcom/example/footprint_to_feed/footprinttofeed/SearchKey;" (.ref k5)) (Sk6 : Sta Z h0 "com/example/footprint_to_feed/footprinttofeed/SearchKey" "LOC" "Lcom/example/footprint_to_feed/footprinttofeed/SearchKey;" (.ref k6)) (Sk7 : Sta Z h0 "com/example/footprint_to_feed/footprinttofeed/SearchKey" "REL" "Lcom/example/footprint_to_feed/footprinttofeed/SearchKey;" (.ref k7)) (Sk8 : Sta Z h0 "com/example/footprint_to_feed/footprinttofeed/SearchKey" "LAT" "Lcom/example/footprint_to_feed/footprinttofeed/SearchKey;" (.ref k8)) (Sk9 : Sta Z h0 "com/example/footprint_to_feed/footprinttofeed/SearchKey" "LON" "Lcom/example/footprint_to_feed/footprinttofeed/SearchKey;" (.ref k9)) (Sk10 : Sta Z h0 "com/example/footprint_to_feed/footprinttofeed/SearchKey" "RADIUS" "Lcom/example/footprint_to_feed/footprinttofeed/SearchKey;" (.ref k10)) (Sk11 : Sta Z h0 "com/example/footprint_to_feed/footprinttofeed/SearchKey" "ID" "Lcom/example/footprint_to_feed/footprinttofeed/SearchKey;" (.ref k11)) (Sk12 : Sta Z h0 "com/example/footprint_to_feed/footprinttofeed/SearchKey" "START_DATE" "Lcom/example/footprint_to_feed/footprinttofeed/SearchKey;" (.ref k12)) (Sk13 : Sta Z h0 "com/example/footprint_to_feed/footprinttofeed/SearchKey" "STOP_DATE" "Lcom/example/footprint_to_feed/footprinttofeed/SearchKey;" (.ref k13)) (Sk14 : Sta Z h0 "com/example/footprint_to_feed/footprinttofeed/SearchKey" "CLIENT_ID" "Lcom/example/footprint_to_feed/footprinttofeed/SearchKey;" (.ref k14)) (Ek0 : Exa Z h0 k0 "com/example/footprint_to_feed/footprinttofeed/SearchKey") (Ek1 : Exa Z h0 k1 "com/example/footprint_to_feed/footprinttofeed/SearchKey") (Ek2 : Exa Z h0 k2 "com/example/footprint_to_feed/footprinttofeed/SearchKey") (Ek3 : Exa Z h0 k3 "com/example/footprint_to_feed/footprinttofeed/SearchKey") (Ek4 : Exa Z h0 k4 "com/example/footprint_to_feed/footprinttofeed/SearchKey") (Ek5 : Exa Z h0 k5 "com/example/footprint_to_feed/footprinttofeed/SearchKey") (Ek6 : Exa Z h0 k6 "com/example/footprint_to_feed/footprinttofeed/SearchKey") (Ek7 : Exa Z h0 k7 "com/example/footprint_to_feed/footprinttofeed/SearchKey") (Ek8 : Exa Z h0 k8 "com/example/footprint_to_feed/footprinttofeed/SearchKey") (Ek9 : Exa Z h0 k9 "com/example/footprint_to_feed/footprinttofeed/SearchKey") (Ek10 : Exa Z h0 k10 "com/example/footprint_to_feed/footprinttofeed/SearchKey") (Ek11 : Exa Z h0 k11 "com/example/footprint_to_feed/footprinttofeed/SearchKey") (Ek12 : Exa Z h0 k12 "com/example/footprint_to_feed/footprinttofeed/SearchKey") (Ek13 : Exa Z h0 k13 "com/example/footprint_to_feed/footprinttofeed/SearchKey") (Ek14 : Exa Z h0 k14 "com/example/footprint_to_feed/footprinttofeed/SearchKey") (Ok0 : own_O Z k0 0) (Ok1 : own_O Z k1 1) (Ok2 : own_O Z k2 2) (Ok3 : own_O Z k3 3) (Ok4 : own_O Z k4 4) (Ok5 : own_O Z k5 5) (Ok6 : own_O Z k6 6) (Ok7 : own_O Z k7 7) (Ok8 : own_O Z k8 8) (Ok9 : own_O Z k9 9) (Ok10 : own_O Z k10 10) (Ok11 : own_O Z k11 11) (Ok12 : own_O Z k12 12) (Ok13 : own_O Z k13 13) (Ok14 : own_O Z k14 14) (Fk0 : Fld Z h0 k0 "com/example/footprint_to_feed/footprinttofeed/SearchKey" "parameter" "Ljava/lang/String;" (.ref t0)) (Fk1 : Fld Z h0 k1 "com/example/footprint_to_feed/footprinttofeed/SearchKey" "parameter" "Ljava/lang/String;" (.ref t1)) (Fk2 : Fld Z h0 k2 "com/example/footprint_to_feed/footprinttofeed/SearchKey" "parameter" "Ljava/lang/String;" (.ref t2)) (Fk3 : Fld Z h0 k3 "com/example/footprint_to_feed/footprinttofeed/SearchKey" "parameter" "Ljava/lang/String;" (.ref t3)) (Fk4 : Fld Z h0 k4 "com/example/footprint_to_feed/footprinttofeed/SearchKey" "parameter" "Ljava/lang/String;" (.ref t4)) (Fk5 : Fld Z h0 k5 "com/example/footprint_to_feed/footprinttofeed/SearchKey" "parameter" "Ljava/lang/String;" (.ref t5)) (Fk6 : Fld Z h0 k6 "com/example/footprint_to_feed/footprinttofeed/SearchKey" "parameter" "Ljava/lang/String;" (.ref t6)) (Fk7 : Fld Z h0 k7 "com/example/footprint_to_feed/footprinttofeed/SearchKey" "parameter" "Ljava/lang/String;" (.ref t7)) (Fk8 : Fld Z h0 k8 "com/example/footprint_to_feed/footprinttofeed/SearchKey" "parameter" "Ljava/lang/String;" (.ref t8)) (Fk9 : Fld Z h0 k9 "com/example/footprint_to_feed/footprinttofeed/SearchKey" "parameter" "Ljava/lang/String;" (.ref t9)) (Fk10 : Fld Z h0 k10 "com/example/footprint_to_feed/footprinttofeed/SearchKey" "parameter" "Ljava/lang/String;" (.ref t10)) (Fk11 : Fld Z h0 k11 "com/example/footprint_to_feed/footprinttofeed/SearchKey" "parameter" "Ljava/lang/String;" (.ref t11)) (Fk12 : Fld Z h0 k12 "com/example/footprint_to_feed/footprinttofeed/SearchKey" "parameter" "Ljava/lang/String;" (.ref t12)) (Fk13 : Fld Z h0 k13 "com/example/footprint_to_feed/footprinttofeed/SearchKey" "parameter" "Ljava/lang/String;" (.ref t13)) (Fk14 : Fld Z h0 k14 "com/example/footprint_to_feed/footprinttofeed/SearchKey" "parameter" "Ljava/lang/String;" .null) :
    MetFree l x (head1 (Jvm.Cond.code x code maxLocals ret :: ws) room_1) (fun a U => a = #[(.int p0)] ∧ Z.Warmed39 U.vm ∧ U.heap = h0) (fun _ _ _ _ _ => True) (fun _ U o U' => ∃ v L, o = .returned v ∧ own_Q_rm0 Z p0 k0 k1 k2 k3 k4 k5 k6 k7 k8 k9 k10 k11 k12 k13 k14 t0 t1 t2 t3 t4 t5 t6 t7 t8 t9 t10 t11 t12 t13 h0 n0 v U'.heap L ∧ FrameEnd U o U' L room_1.cells room_1.slots) := by
  refine own_enter (Q := fun v h L => own_Q_rm0 Z p0 k0 k1 k2 k3 k4 k5 k6 k7 k8 k9 k10 k11 k12 k13 k14 t0 t1 t2 t3 t4 t5 t6 t7 t8 t9 t10 t11 t12 t13 h0 n0 v h L) (F := fun m => mkF m 0 #[iv p0, .unset, .unset, .unset, .unset, .unset] []) own_pn2 (fun m => own_ef_rm0 m p0) ?_
  intro p e s m below meth c T X hx hby hml hret hlk hnm hown hZ e0
  show own_Goes p e below s _ _ (T.setTop (mkF m 0 #[iv p0, .unset, .unset, .unset, .unset, .unset] []))
  have N0 := Fr.nil n0
  have lk0 := own_lt Ek0.lt
  have lk1 := own_lt Ek1.lt
  have lk2 := own_lt Ek2.lt
  have lk3 := own_lt Ek3.lt
  have lk4 := own_lt Ek4.lt
  have lk5 := own_lt Ek5.lt
  have lk6 := own_lt Ek6.lt
  have lk7 := own_lt Ek7.lt
  have lk8 := own_lt Ek8.lt
  have lk9 := own_lt Ek9.lt
  have lk10 := own_lt Ek10.lt
  have lk11 := own_lt Ek11.lt
  have lk12 := own_lt Ek12.lt
  have lk13 := own_lt Ek13.lt
  have lk14 := own_lt Ek14.lt
  refine own_st (fun _ k => XS.bipush X.here hx rfl (hb hby at_0) k) ?_
  show own_Goes p e below s _ _ (T.setTop (mkF m 2 #[iv p0, .unset, .unset, .unset, .unset, .unset] [(.int (15 : Int32))]))
  obtain ⟨T101, h101, X101, e101, E101, O101, A101, st101⟩ := own_newR X hx hZ hown (hw _ (List.mem_of_getElem? (i := 0) rfl)) (hw _ (List.mem_of_getElem? (i := 1) rfl)) e0 (g := (mkF m 2 #[iv p0, .unset, .unset, .unset, .unset, .unset] [(.int (15 : Int32))])) rfl (hb hby at_2) rfl (by decide) (cap := 15) (by decide) (by decide) (by decide) (by decide)
  obtain ⟨b101, g101⟩ : ∃ z, z = h0.size := ⟨_, rfl⟩
  rw [← g101] at A101 O101 st101
  have V101 : own_Arf Z h101 b101 (.object "com/example/footprint_to_feed/footprinttofeed/SearchKey") 15 (fun _ => .null) := A101
  have P101 : own_Ovr Z h101 b101 "com/example/footprint_to_feed/footprinttofeed/SearchKey" := O101
  have y101 := own_lt V101.lt
  have z101 := E101.1
  refine own_st st101 ?_
  show own_Goes p e below s _ _ (T101.setTop (mkF m 5 #[iv p0, .unset, .unset, .unset, .unset, .unset] [(.ref b101)]))
  refine own_st (fun _ k => XS.dup X101.here hx rfl (hb hby at_5) rfl rfl k) ?_
  show own_Goes p e below s _ _ (T101.setTop (mkF m 6 #[iv p0, .unset, .unset, .unset, .unset, .unset] [(.ref b101), (.ref b101)]))
  refine own_st (fun _ k => XS.iconst X101.here hx rfl (hb hby at_6) k) ?_
  show own_Goes p e below s _ _ (T101.setTop (mkF m 7 #[iv p0, .unset, .unset, .unset, .unset, .unset] [(.int (0 : Int32)), (.ref b101), (.ref b101)]))
  have f102 := (Sk0.ext E101)
  obtain ⟨T103, X103, e103, st103⟩ := getS2 X101 hx hZ hown (host := "") (Or.inl (hw _ (List.mem_of_getElem? (i := 2) rfl))) Via.refl e101 f102 (g := (mkF m 7 #[iv p0, .unset, .unset, .unset, .unset, .unset] [(.int (0 : Int32)), (.ref b101), (.ref b101)])) rfl (hb hby at_7)
  refine own_st st103 ?_
  show own_Goes p e below s _ _ (T103.setTop (mkF m 10 #[iv p0, .unset, .unset, .unset, .unset, .unset] [(.ref k0), (.int (0 : Int32)), (.ref b101), (.ref b101)]))
  have f104 := (Ek0.ext E101)
  obtain ⟨T105, h105, X105, e105, W105, A105, P105, st105⟩ := own_stR X103 hx hZ e103 V101 P101 (j := (0 : Int32)) (Or.inr ⟨_, rfl, Ins.self f104⟩) (by decide) (g := (mkF m 10 #[iv p0, .unset, .unset, .unset, .unset, .unset] [(.ref k0), (.int (0 : Int32)), (.ref b101), (.ref b101)])) rfl rfl (hb hby at_10)
  have V105 : own_Arf Z h105 b101 (.object "com/example/footprint_to_feed/footprinttofeed/SearchKey") 15 (fun k => if k = 0 then (.ref k0) else (fun _ => .null) k) := A105
  have z105 := W105.size
  have N105 := Fr.snoc X105 N0 (by omega)
  refine own_st st105 ?_
  show own_Goes p e below s _ _ (T105.setTop (mkF m 11 #[iv p0, .unset, .unset, .unset, .unset, .unset] [(.ref b101)]))
  refine own_st (fun _ k => XS.dup X105.here hx rfl (hb hby at_11) rfl rfl k) ?_
  show own_Goes p e below s _ _ (T105.setTop (mkF m 12 #[iv p0, .unset, .unset, .unset, .unset, .unset] [(.ref b101), (.ref b101)]))
  refine own_st (fun _ k => XS.iconst X105.here hx rfl (hb hby at_12) k) ?_
  show own_Goes p e below s _ _ (T105.setTop (mkF m 13 #[iv p0, .unset, .unset, .unset, .unset, .unset] [(.int (1 : Int32)), (.ref b101), (.ref b101)]))
  have f106 := ((Sk1.ext E101).wr W105)
  obtain ⟨T107, X107, e107, st107⟩ := getS2 X105 hx hZ hown (host := "") (Or.inl (hw _ (List.mem_of_getElem? (i := 6) rfl))) Via.refl e105 f106 (g := (mkF m 13 #[iv p0, .unset, .unset, .unset, .unset, .unset] [(.int (1 : Int32)), (.ref b101), (.ref b101)])) rfl (hb hby at_13)
  refine own_st st107 ?_
  show own_Goes p e below s _ _ (T107.setTop (mkF m 16 #[iv p0, .unset, .unset, .unset, .unset, .unset] [(.ref k1), (.int (1 : Int32)), (.ref b101), (.ref b101)]))
  have f108 := ((Ek1.ext E101).wr W105)
  obtain ⟨T109, h109, X109, e109, W109, A109, P109, st109⟩ := own_stR X107 hx hZ e107 V105 P105 (j := (1 : Int32)) (Or.inr ⟨_, rfl, Ins.self f108⟩) (by decide) (g := (mkF m 16 #[iv p0, .unset, .unset, .unset, .unset, .unset] [(.ref k1), (.int (1 : Int32)), (.ref b101), (.ref b101)])) rfl rfl (hb hby at_16)
  have V109 : own_Arf Z h109 b101 (.object "com/example/footprint_to_feed/footprinttofeed/SearchKey") 15 (fun k => if k = 1 then (.ref k1) else (fun k => if k = 0 then (.ref k0) else (fun _ => .null) k) k) := A109
  have z109 := W109.size
  have N109 := Fr.snoc X109 N105 (by omega)
  refine own_st st109 ?_
  show own_Goes p e below s _ _ (T109.setTop (mkF m 17 #[iv p0, .unset, .unset, .unset, .unset, .unset] [(.ref b101)]))
  refine own_st (fun _ k => XS.dup X109.here hx rfl (hb hby at_17) rfl rfl k) ?_
  show own_Goes p e below s _ _ (T109.setTop (mkF m 18 #[iv p0, .unset, .unset, .unset, .unset, .unset] [(.ref b101), (.ref b101)]))
  refine own_st (fun _ k => XS.iconst X109.here hx rfl (hb hby at_18) k) ?_
  show own_Goes p e below s _ _ (T109.setTop (mkF m 19 #[iv p0, .unset, .unset, .unset, .unset, .unset] [(.int (2 : Int32)), (.ref b101), (.ref b101)]))
  have f110 := (((Sk2.ext E101).wr W105).wr W109)
  obtain ⟨T111, X111, e111, st111⟩ := getS2 X109 hx hZ hown (host := "") (Or.inl (hw _ (List.mem_of_getElem? (i := 8) rfl))) Via.refl e109 f110 (g := (mkF m 19 #[iv p0, .unset, .unset, .unset, .unset, .unset] [(.int (2 : Int32)), (.ref b101), (.ref b101)])) rfl (hb hby at_19)
  refine own_st st111 ?_
  show own_Goes p e below s _ _ (T111.setTop (mkF m 22 #[iv p0, .unset, .unset, .unset, .unset, .unset] [(.ref k2), (.int (2 : Int32)), (.ref b101), (.ref b101)]))
  have f112 := (((Ek2.ext E101).wr W105).wr W109)
  obtain ⟨T113, h113, X113, e113, W113, A113, P113, st113⟩ := own_stR X111 hx hZ e111 V109 P109 (j := (2 : Int32)) (Or.inr ⟨_, rfl, Ins.self f112⟩) (by decide) (g := (mkF m 22 #[iv p0, .unset, .unset, .unset, .unset, .unset] [(.ref k2), (.int (2 : Int32)), (.ref b101), (.ref b101)])) rfl rfl (hb hby at_22)
  have V113 : own_Arf Z h113 b101 (.object "com/example/footprint_to_feed/footprinttofeed/SearchKey") 15 (fun k => if k = 2 then (.ref k2) else (fun k => if k = 1 then (.ref k1) else (fun k => if k = 0 then (.ref k0) else (fun _ => .null) k) k) k) := A113
  have z113 := W113.size
  have N113 := Fr.snoc X113 N109 (by omega)
  refine own_st st113 ?_
  show own_Goes p e below s _ _ (T113.setTop (mkF m 23 #[iv p0, .unset, .unset, .unset, .unset, .unset] [(.ref b101)]))
  refine own_st (fun _ k => XS.dup X113.here hx rfl (hb hby at_23) rfl rfl k) ?_
  show own_Goes p e below s _ _ (T113.setTop (mkF m 24 #[iv p0, .unset, .unset, .unset, .unset, .unset] [(.ref b101), (.ref b101)]))
  refine own_st (fun _ k => XS.iconst X113.here hx rfl (hb hby at_24) k) ?_
  show own_Goes p e below s _ _ (T113.setTop (mkF m 25 #[iv p0, .unset, .unset, .unset, .unset, .unset] [(.int (3 : Int32)), (.ref b101), (.ref b101)]))
  have f114 := ((((Sk3.ext E101).wr W105).wr W109).wr W113)
  obtain ⟨T115, X115, e115, st115⟩ := getS2 X113 hx hZ hown (host := "") (Or.inl (hw _ (List.mem_of_getElem? (i := 10) rfl))) Via.refl e113 f114 (g := (mkF m 25 #[iv p0, .unset, .unset, .unset, .unset, .unset] [(.int (3 : Int32)), (.ref b101), (.ref b101)])) rfl (hb hby at_25)
  refine own_st st115 ?_
  show own_Goes p e below s _ _ (T115.setTop (mkF m 28 #[iv p0, .unset, .unset, .unset, .unset, .unset] [(.ref k3), (.int (3 : Int32)), (.ref b101), (.ref b101)]))
  have f116 := ((((Ek3.ext E101).wr W105).wr W109).wr W113)
  obtain ⟨T117, h117, X117, e117, W117, A117, P117, st117⟩ := own_stR X115 hx hZ e115 V113 P113 (j := (3 : Int32)) (Or.inr ⟨_, rfl, Ins.self f116⟩) (by decide) (g := (mkF m 28 #[iv p0, .unset, .unset, .unset, .unset, .unset] [(.ref k3), (.int (3 : Int32)), (.ref b101), (.ref b101)])) rfl rfl (hb hby at_28)
  have V117 : own_Arf Z h117 b101 (.object "com/example/footprint_to_feed/footprinttofeed/SearchKey") 15 (fun k => if k = 3 then (.ref k3) else (fun k => if k = 2 then (.ref k2) else (fun k => if k = 1 then (.ref k1) else (fun k => if k = 0 then (.ref k0) else (fun _ => .null) k) k) k) k) := A117
  have z117 := W117.size
  have N117 := Fr.snoc X117 N113 (by omega)
  refine own_st st117 ?_
  show own_Goes p e below s _ _ (T117.setTop (mkF m 29 #[iv p0, .unset, .unset, .unset, .unset, .unset] [(.ref b101)]))
  refine own_st (fun _ k => XS.dup X117.here hx rfl (hb hby at_29) rfl rfl k) ?_
  show own_Goes p e below s _ _ (T117.setTop (mkF m 30 #[iv p0, .unset, .unset, .unset, .unset, .unset] [(.ref b101), (.ref b101)]))
  refine own_st (fun _ k => XS.iconst X117.here hx rfl (hb hby at_30) k) ?_
  show own_Goes p e below s _ _ (T117.setTop (mkF m 31 #[iv p0, .unset, .unset, .unset, .unset, .unset] [(.int (4 : Int32)), (.ref b101), (.ref b101)]))
  have f118 := (((((Sk4.ext E101).wr W105).wr W109).wr W113).wr W117)
  obtain ⟨T119, X119, e119, st119⟩ := getS2 X117 hx hZ hown (host := "") (Or.inl (hw _ (List.mem_of_getElem? (i := 12) rfl))) Via.refl e117 f118 (g := (mkF m 31 #[iv p0, .unset, .unset, .unset, .unset, .unset] [(.int (4 : Int32)), (.ref b101), (.ref b101)])) rfl (hb hby at_31)
  refine own_st st119 ?_
  show own_Goes p e below s _ _ (T119.setTop (mkF m 34 #[iv p0, .unset, .unset, .unset, .unset, .unset] [(.ref k4), (.int (4 : Int32)), (.ref b101), (.ref b101)]))
  have f120 := (((((Ek4.ext E101).wr W105).wr W109).wr W113).wr W117)
  obtain ⟨T121, h121, X121, e121, W121, A121, P121, st121⟩ := own_stR X119 hx hZ e119 V117 P117 (j := (4 : Int32)) (Or.inr ⟨_, rfl, Ins.self f120⟩) (by decide) (g := (mkF m 34 #[iv p0, .unset, .unset, .unset, .unset, .unset] [(.ref k4), (.int (4 : Int32)), (.ref b101), (.ref b101)])) rfl rfl (hb hby at_34)
  have V121 : own_Arf Z h121 b101 (.object "com/example/footprint_to_feed/footprinttofeed/SearchKey") 15 (fun k => if k = 4 then (.ref k4) else (fun k => if k = 3 then (.ref k3) else (fun k => if k = 2 then (.ref k2) else (fun k => if k = 1 then (.ref k1) else (fun k => if k = 0 then (.ref k0) else (fun _ => .null) k) k) k) k) k) := A121
  have z121 := W121.size
  have N121 := Fr.snoc X121 N117 (by omega)
  refine own_st st121 ?_
  show own_Goes p e below s _ _ (T121.setTop (mkF m 35 #[iv p0, .unset, .unset, .unset, .unset, .unset] [(.ref b101)]))
  refine own_st (fun _ k => XS.dup X121.here hx rfl (hb hby at_35) rfl rfl k) ?_
  show own_Goes p e below s _ _ (T121.setTop (mkF m 36 #[iv p0, .unset, .unset, .unset, .unset, .unset] [(.ref b101), (.ref b101)]))
  refine own_st (fun _ k => XS.iconst X121.here hx rfl (hb hby at_36) k) ?_
  show own_Goes p e below s _ _ (T121.setTop (mkF m 37 #[iv p0, .unset, .unset, .unset, .unset, .unset] [(.int (5 : Int32)), (.ref b101), (.ref b101)]))
  have f122 := ((((((Sk5.ext E101).wr W105).wr W109).wr W113).wr W117).wr W121)
  obtain ⟨T123, X123, e123, st123⟩ := getS2 X121 hx hZ hown (host := "") (Or.inl (hw _ (List.mem_of_getElem? (i := 14) rfl))) Via.refl e121 f122 (g := (mkF m 37 #[iv p0, .unset, .unset, .unset, .unset, .unset] [(.int (5 : Int32)), (.ref b101), (.ref b101)])) rfl (hb hby at_37)
  refine own_st st123 ?_
  show own_Goes p e below s _ _ (T123.setTop (mkF m 40 #[iv p0, .unset, .unset, .unset, .unset, .unset] [(.ref k5), (.int (5 : Int32)), (.ref b101), (.ref b101)]))
  have f124 := ((((((Ek5.ext E101).wr W105).wr W109).wr W113).wr W117).wr W121)
  obtain ⟨T125, h125, X125, e125, W125, A125, P125, st125⟩ := own_stR X123 hx hZ e123 V121 P121 (j := (5 : Int32)) (Or.inr ⟨_, rfl, Ins.self f124⟩) (by decide) (g := (mkF m 40 #[iv p0, .unset, .unset, .unset, .unset, .unset] [(.ref k5), (.int (5 : Int32)), (.ref b101), (.ref b101)])) rfl rfl (hb hby at_40)
  have V125 : own_Arf Z h125 b101 (.object "com/example/footprint_to_feed/footprinttofeed/SearchKey") 15 (fun k => if k = 5 then (.ref k5) else (fun k => if k = 4 then (.ref k4) else (fun k => if k = 3 then (.ref k3) else (fun k => if k = 2 then (.ref k2) else (fun k => if k = 1 then (.ref k1) else (fun k => if k = 0 then (.ref k0) else (fun _ => .null) k) k) k) k) k) k) := A125
  have z125 := W125.size
  have N125 := Fr.snoc X125 N121 (by omega)
  refine own_st st125 ?_
  show own_Goes p e below s _ _ (T125.setTop (mkF m 41 #[iv p0, .unset, .unset, .unset, .unset, .unset] [(.ref b101)]))
  refine own_st (fun _ k => XS.dup X125.here hx rfl (hb hby at_41) rfl rfl k) ?_
  show own_Goes p e below s _ _ (T125.setTop (mkF m 42 #[iv p0, .unset, .unset, .unset, .unset, .unset] [(.ref b101), (.ref b101)]))
  refine own_st (fun _ k => XS.bipush X125.here hx rfl (hb hby at_42) k) ?_
  show own_Goes p e below s _ _ (T125.setTop (mkF m 44 #[iv p0, .unset, .unset, .unset, .unset, .unset] [(.int (6 : Int32)), (.ref b101), (.ref b101)]))
  have f126 := (((((((Sk6.ext E101).wr W105).wr W109).wr W113).wr W117).wr W121).wr W125)
  obtain ⟨T127, X127, e127, st127⟩ := getS2 X125 hx hZ hown (host := "") (Or.inl (hw _ (List.mem_of_getElem? (i := 16) rfl))) Via.refl e125 f126 (g := (mkF m 44 #[iv p0, .unset, .unset, .unset, .unset, .unset] [(.int (6 : Int32)), (.ref b101), (.ref b101)])) rfl (hb hby at_44)
  refine own_st st127 ?_
  show own_Goes p e below s _ _ (T127.setTop (mkF m 47 #[iv p0, .unset, .unset, .unset, .unset, .unset] [(.ref k6), (.int (6 : Int32)), (.ref b101), (.ref b101)]))
  have f128 := (((((((Ek6.ext E101).wr W105).wr W109).wr W113).wr W117).wr W121).wr W125)
  obtain ⟨T129, h129, X129, e129, W129, A129, P129, st129⟩ := own_stR X127 hx hZ e127 V125 P125 (j := (6 : Int32)) (Or.inr ⟨_, rfl, Ins.self f128⟩) (by decide) (g := (mkF m 47 #[iv p0, .unset, .unset, .unset, .unset, .unset] [(.ref k6), (.int (6 : Int32)), (.ref b101), (.ref b101)])) rfl rfl (hb hby at_47)
  have V129 : own_Arf Z h129 b101 (.object "com/example/footprint_to_feed/footprinttofeed/SearchKey") 15 (fun k => if k = 6 then (.ref k6) else (fun k => if k = 5 then (.ref k5) else (fun k => if k = 4 then (.ref k4) else (fun k => if k = 3 then (.ref k3) else (fun k => if k = 2 then (.ref k2) else (fun k => if k = 1 then (.ref k1) else (fun k => if k = 0 then (.ref k0) else (fun _ => .null) k) k) k) k) k) k) k) := A129
  have z129 := W129.size
  have N129 := Fr.snoc X129 N125 (by omega)
  refine own_st st129 ?_
  show own_Goes p e below s _ _ (T129.setTop (mkF m 48 #[iv p0, .unset, .unset, .unset, .unset, .unset] [(.ref b101)]))
  refine own_st (fun _ k => XS.dup X129.here hx rfl (hb hby at_48) rfl rfl k) ?_
  show own_Goes p e below s _ _ (T129.setTop (mkF m 49 #[iv p0, .unset, .unset, .unset, .unset, .unset] [(.ref b101), (.ref b101)]))
  refine own_st (fun _ k => XS.bipush X129.here hx rfl (hb hby at_49) k) ?_
  show own_Goes p e below s _ _ (T129.setTop (mkF m 51 #[iv p0, .unset, .unset, .unset, .unset, .unset] [(.int (7 : Int32)), (.ref b101), (.ref b101)]))
  have f130 := ((((((((Sk7.ext E101).wr W105).wr W109).wr W113).wr W117).wr W121).wr W125).wr W129)
  obtain ⟨T131, X131, e131, st131⟩ := getS2 X129 hx hZ hown (host := "") (Or.inl (hw _ (List.mem_of_getElem? (i := 18) rfl))) Via.refl e129 f130 (g := (mkF m 51 #[iv p0, .unset, .unset, .unset, .unset, .unset] [(.int (7 : Int32)), (.ref b101), (.ref b101)])) rfl (hb hby at_51)
  refine own_st st131 ?_
  show own_Goes p e below s _ _ (T131.setTop (mkF m 54 #[iv p0, .unset, .unset, .unset, .unset, .unset] [(.ref k7), (.int (7 : Int32)), (.ref b101), (.ref b101)]))
  have f132 := ((((((((Ek7.ext E101).wr W105).wr W109).wr W113).wr W117).wr W121).wr W125).wr W129)
  obtain ⟨T133, h133, X133, e133, W133, A133, P133, st133⟩ := own_stR X131 hx hZ e131 V129 P129 (j := (7 : Int32)) (Or.inr ⟨_, rfl, Ins.self f132⟩) (by decide) (g := (mkF m 54 #[iv p0, .unset, .unset, .unset, .unset, .unset] [(.ref k7), (.int (7 : Int32)), (.ref b101), (.ref b101)])) rfl rfl (hb hby at_54)
  have V133 : own_Arf Z h133 b101 (.object "com/example/footprint_to_feed/footprinttofeed/SearchKey") 15 (fun k => if k = 7 then (.ref k7) else (fun k => if k = 6 then (.ref k6) else (fun k => if k = 5 then (.ref k5) else (fun k => if k = 4 then (.ref k4) else (fun k => if k = 3 then (.ref k3) else (fun k => if k = 2 then (.ref k2) else (fun k => if k = 1 then (.ref k1) else (fun k => if k = 0 then (.ref k0) else (fun _ => .null) k) k) k) k) k) k) k) k) := A133
  have z133 := W133.size
  have N133 := Fr.snoc X133 N129 (by omega)
  refine own_st st133 ?_
  show own_Goes p e below s _ _ (T133.setTop (mkF m 55 #[iv p0, .unset, .unset, .unset, .unset, .unset] [(.ref b101)]))
  refine own_st (fun _ k => XS.dup X133.here hx rfl (hb hby at_55) rfl rfl k) ?_
  show own_Goes p e below s _ _ (T133.setTop (mkF m 56 #[iv p0, .unset, .unset, .unset, .unset, .unset] [(.ref b101), (.ref b101)]))
  refine own_st (fun _ k => XS.bipush X133.here hx rfl (hb hby at_56) k) ?_
  show own_Goes p e below s _ _ (T133.setTop (mkF m 58 #[iv p0, .unset, .unset, .unset, .unset, .unset] [(.int (8 : Int32)), (.ref b101), (.ref b101)]))
  have f134 := (((((((((Sk8.ext E101).wr W105).wr W109).wr W113).wr W117).wr W121).wr W125).wr W129).wr W133)
  obtain ⟨T135, X135, e135, st135⟩ := getS2 X133 hx hZ hown (host := "") (Or.inl (hw _ (List.mem_of_getElem? (i := 20) rfl))) Via.refl e133 f134 (g := (mkF m 58 #[iv p0, .unset, .unset, .unset, .unset, .unset] [(.int (8 : Int32)), (.ref b101), (.ref b101)])) rfl (hb hby at_58)
  refine own_st st135 ?_
  show own_Goes p e below s _ _ (T135.setTop (mkF m 61 #[iv p0, .unset, .unset, .unset, .unset, .unset] [(.ref k8), (.int (8 : Int32)), (.ref b101), (.ref b101)]))
  have f136 := (((((((((Ek8.ext E101).wr W105).wr W109).wr W113).wr W117).wr W121).wr W125).wr W129).wr W133)
  obtain ⟨T137, h137, X137, e137, W137, A137, P137, st137⟩ := own_stR X135 hx hZ e135 V133 P133 (j := (8 : Int32)) (Or.inr ⟨_, rfl, Ins.self f136⟩) (by decide) (g := (mkF m 61 #[iv p0, .unset, .unset, .unset, .unset, .unset] [(.ref k8), (.int (8 : Int32)), (.ref b101), (.ref b101)])) rfl rfl (hb hby at_61)
  have V137 : own_Arf Z h137 b101 (.object "com/example/footprint_to_feed/footprinttofeed/SearchKey") 15 (fun k => if k = 8 then (.ref k8) else (fun k => if k = 7 then (.ref k7) else (fun k => if k = 6 then (.ref k6) else (fun k => if k = 5 then (.ref k5) else (fun k => if k = 4 then (.ref k4) else (fun k => if k = 3 then (.ref k3) else (fun k => if k = 2 then (.ref k2) else (fun k => if k = 1 then (.ref k1) else (fun k => if k = 0 then (.ref k0) else (fun _ => .null) k) k) k) k) k) k) k) k) k) := A137
  have z137 := W137.size
  have N137 := Fr.snoc X137 N133 (by omega)
  refine own_st st137 ?_
  show own_Goes p e below s _ _ (T137.setTop (mkF m 62 #[iv p0, .unset, .unset, .unset, .unset, .unset] [(.ref b101)]))
  refine own_st (fun _ k => XS.dup X137.here hx rfl (hb hby at_62) rfl rfl k) ?_
  show own_Goes p e below s _ _ (T137.setTop (mkF m 63 #[iv p0, .unset, .unset, .unset, .unset, .unset] [(.ref b101), (.ref b101)]))
  refine own_st (fun _ k => XS.bipush X137.here hx rfl (hb hby at_63) k) ?_
  show own_Goes p e below s _ _ (T137.setTop (mkF m 65 #[iv p0, .unset, .unset, .unset, .unset, .unset] [(.int (9 : Int32)), (.ref b101), (.ref b101)]))
  have f138 := ((((((((((Sk9.ext E101).wr W105).wr W109).wr W113).wr W117).wr W121).wr W125).wr W129).wr W133).wr W137)
  obtain ⟨T139, X139, e139, st139⟩ := getS2 X137 hx hZ hown (host := "") (Or.inl (hw _ (List.mem_of_getElem? (i := 22) rfl))) Via.refl e137 f138 (g := (mkF m 65 #[iv p0, .unset, .unset, .unset, .unset, .unset] [(.int (9 : Int32)), (.ref b101), (.ref b101)])) rfl (hb hby at_65)
  refine own_st st139 ?_
  show own_Goes p e below s _ _ (T139.setTop (mkF m 68 #[iv p0, .unset, .unset, .unset, .unset, .unset] [(.ref k9), (.int (9 : Int32)), (.ref b101), (.ref b101)]))
  have f140 := ((((((((((Ek9.ext E101).wr W105).wr W109).wr W113).wr W117).wr W121).wr W125).wr W129).wr W133).wr W137)
  obtain ⟨T141, h141, X141, e141, W141, A141, P141, st141⟩ := own_stR X139 hx hZ e139 V137 P137 (j := (9 : Int32)) (Or.inr ⟨_, rfl, Ins.self f140⟩) (by decide) (g := (mkF m 68 #[iv p0, .unset, .unset, .unset, .unset, .unset] [(.ref k9), (.int (9 : Int32)), (.ref b101), (.ref b101)])) rfl rfl (hb hby at_68)
  have V141 : own_Arf Z h141 b101 (.object "com/example/footprint_to_feed/footprinttofeed/SearchKey") 15 (fun k => if k = 9 then (.ref k9) else (fun k => if k = 8 then (.ref k8) else (fun k => if k = 7 then (.ref k7) else (fun k => if k = 6 then (.ref k6) else (fun k => if k = 5 then (.ref k5) else (fun k => if k = 4 then (.ref k4) else (fun k => if k = 3 then (.ref k3) else (fun k => if k = 2 then (.ref k2) else (fun k => if k = 1 then (.ref k1) else (fun k => if k = 0 then (.ref k0) else (fun _ => .null) k) k) k) k) k) k) k) k) k) k) := A141
  have z141 := W141.size
  have N141 := Fr.snoc X141 N137 (by omega)
  refine own_st st141 ?_
  show own_Goes p e below s _ _ (T141.setTop (mkF m 69 #[iv p0, .unset, .unset, .unset, .unset, .unset] [(.ref b101)]))
  refine own_st (fun _ k => XS.dup X141.here hx rfl (hb hby at_69) rfl rfl k) ?_
  show own_Goes p e below s _ _ (T141.setTop (mkF m 70 #[iv p0, .unset, .unset, .unset, .unset, .unset] [(.ref b101), (.ref b101)]))
  refine own_st (fun _ k => XS.bipush X141.here hx rfl (hb hby at_70) k) ?_
  show own_Goes p e below s _ _ (T141.setTop (mkF m 72 #[iv p0, .unset, .unset, .unset, .unset, .unset] [(.int (10 : Int32)), (.ref b101), (.ref b101)]))
  have f142 := (((((((((((Sk10.ext E101).wr W105).wr W109).wr W113).wr W117).wr W121).wr W125).wr W129).wr W133).wr W137).wr W141)
  obtain ⟨T143, X143, e143, st143⟩ := getS2 X141 hx hZ hown (host := "") (Or.inl (hw _ (List.mem_of_getElem? (i := 24) rfl))) Via.refl e141 f142 (g := (mkF m 72 #[iv p0, .unset, .unset, .unset, .unset, .unset] [(.int (10 : Int32)), (.ref b101), (.ref b101)])) rfl (hb hby at_72)
  refine own_st st143 ?_
  show own_Goes p e below s _ _ (T143.setTop (mkF m 75 #[iv p0, .unset, .unset, .unset, .unset, .unset] [(.ref k10), (.int (10 : Int32)), (.ref b101), (.ref b101)]))
  have f144 := (((((((((((Ek10.ext E101).wr W105).wr W109).wr W113).wr W117).wr W121).wr W125).wr W129).wr W133).wr W137).wr W141)
  obtain ⟨T145, h145, X145, e145, W145, A145, P145, st145⟩ := own_stR X143 hx hZ e143 V141 P141 (j := (10 : Int32)) (Or.inr ⟨_, rfl, Ins.self f144⟩) (by decide) (g := (mkF m 75 #[iv p0, .unset, .unset, .unset, .unset, .unset] [(.ref k10), (.int (10 : Int32)), (.ref b101), (.ref b101)])) rfl rfl (hb hby at_75)
  have V145 : own_Arf Z h145 b101 (.object "com/example/footprint_to_feed/footprinttofeed/SearchKey") 15 (fun k => if k = 10 then (.ref k10) else (fun k => if k = 9 then (.ref k9) else (fun k => if k = 8 then (.ref k8) else (fun k => if k = 7 then (.ref k7) else (fun k => if k = 6 then (.ref k6) else (fun k => if k = 5 then (.ref k5) else (fun k => if k = 4 then (.ref k4) else (fun k => if k = 3 then (.ref k3) else (fun k => if k = 2 then (.ref k2) else (fun k => if k = 1 then (.ref k1) else (fun k => if k = 0 then (.ref k0) else (fun _ => .null) k) k) k) k) k) k) k) k) k) k) k) := A145
  have z145 := W145.size
  have N145 := Fr.snoc X145 N141 (by omega)
  refine own_st st145 ?_
  show own_Goes p e below s _ _ (T145.setTop (mkF m 76 #[iv p0, .unset, .unset, .unset, .unset, .unset] [(.ref b101)]))
  refine own_st (fun _ k => XS.dup X145.here hx rfl (hb hby at_76) rfl rfl k) ?_
  show own_Goes p e below s _ _ (T145.setTop (mkF m 77 #[iv p0, .unset, .unset, .unset, .unset, .unset] [(.ref b101), (.ref b101)]))
  refine own_st (fun _ k => XS.bipush X145.here hx rfl (hb hby at_77) k) ?_
  show own_Goes p e below s _ _ (T145.setTop (mkF m 79 #[iv p0, .unset, .unset, .unset, .unset, .unset] [(.int (11 : Int32)), (.ref b101), (.ref b101)]))
  have f146 := ((((((((((((Sk11.ext E101).wr W105).wr W109).wr W113).wr W117).wr W121).wr W125).wr W129).wr W133).wr W137).wr W141).wr W145)
  obtain ⟨T147, X147, e147, st147⟩ := getS2 X145 hx hZ hown (host := "") (Or.inl (hw _ (List.mem_of_getElem? (i := 26) rfl))) Via.refl e145 f146 (g := (mkF m 79 #[iv p0, .unset, .unset, .unset, .unset, .unset] [(.int (11 : Int32)), (.ref b101), (.ref b101)])) rfl (hb hby at_79)
  refine own_st st147 ?_
  show own_Goes p e below s _ _ (T147.setTop (mkF m 82 #[iv p0, .unset, .unset, .unset, .unset, .unset] [(.ref k11), (.int (11 : Int32)), (.ref b101), (.ref b101)]))
  have f148 := ((((((((((((Ek11.ext E101).wr W105).wr W109).wr W113).wr W117).wr W121).wr W125).wr W129).wr W133).wr W137).wr W141).wr W145)
  obtain ⟨T149, h149, X149, e149, W149, A149, P149, st149⟩ := own_stR X147 hx hZ e147 V145 P145 (j := (11 : Int32)) (Or.inr ⟨_, rfl, Ins.self f148⟩) (by decide) (g := (mkF m 82 #[iv p0, .unset, .unset, .unset, .unset, .unset] [(.ref k11), (.int (11 : Int32)), (.ref b101), (.ref b101)])) rfl rfl (hb hby at_82)
  have V149 : own_Arf Z h149 b101 (.object "com/example/footprint_to_feed/footprinttofeed/SearchKey") 15 (fun k => if k = 11 then (.ref k11) else (fun k => if k = 10 then (.ref k10) else (fun k => if k = 9 then (.ref k9) else (fun k => if k = 8 then (.ref k8) else (fun k => if k = 7 then (.ref k7) else (fun k => if k = 6 then (.ref k6) else (fun k => if k = 5 then (.ref k5) else (fun k => if k = 4 then (.ref k4) else (fun k => if k = 3 then (.ref k3) else (fun k => if k = 2 then (.ref k2) else (fun k => if k = 1 then (.ref k1) else (fun k => if k = 0 then (.ref k0) else (fun _ => .null) k) k) k) k) k) k) k) k) k) k) k) k) := A149
  have z149 := W149.size
  have N149 := Fr.snoc X149 N145 (by omega)
  refine own_st st149 ?_
  show own_Goes p e below s _ _ (T149.setTop (mkF m 83 #[iv p0, .unset, .unset, .unset, .unset, .unset] [(.ref b101)]))
  refine own_st (fun _ k => XS.dup X149.here hx rfl (hb hby at_83) rfl rfl k) ?_
  show own_Goes p e below s _ _ (T149.setTop (mkF m 84 #[iv p0, .unset, .unset, .unset, .unset, .unset] [(.ref b101), (.ref b101)]))
  refine own_st (fun _ k => XS.bipush X149.here hx rfl (hb hby at_84) k) ?_
  show own_Goes p e below s _ _ (T149.setTop (mkF m 86 #[iv p0, .unset, .unset, .unset, .unset, .unset] [(.int (12 : Int32)), (.ref b101), (.ref b101)]))
  have f150 := (((((((((((((Sk12.ext E101).wr W105).wr W109).wr W113).wr W117).wr W121).wr W125).wr W129).wr W133).wr W137).wr W141).wr W145).wr W149)
  obtain ⟨T151, X151, e151, st151⟩ := getS2 X149 hx hZ hown (host := "") (Or.inl (hw _ (List.mem_of_getElem? (i := 28) rfl))) Via.refl e149 f150 (g := (mkF m 86 #[iv p0, .unset, .unset, .unset, .unset, .unset] [(.int (12 : Int32)), (.ref b101), (.ref b101)])) rfl (hb hby at_86)
  refine own_st st151 ?_
  show own_Goes p e below s _ _ (T151.setTop (mkF m 89 #[iv p0, .unset, .unset, .unset, .unset, .unset] [(.ref k12), (.int (12 : Int32)), (.ref b101), (.ref b101)]))
  have f152 := (((((((((((((Ek12.ext E101).wr W105).wr W109).wr W113).wr W117).wr W121).wr W125).wr W129).wr W133).wr W137).wr W141).wr W145).wr W149)
  obtain ⟨T153, h153, X153, e153, W153, A153, P153, st153⟩ := own_stR X151 hx hZ e151 V149 P149 (j := (12 : Int32)) (Or.inr ⟨_, rfl, Ins.self f152⟩) (by decide) (g := (mkF m 89 #[iv p0, .unset, .unset, .unset, .unset, .unset] [(.ref k12), (.int (12 : Int32)), (.ref b101), (.ref b101)])) rfl rfl (hb hby at_89)
  have V153 : own_Arf Z h153 b101 (.object "com/example/footprint_to_feed/footprinttofeed/SearchKey") 15 (fun k => if k = 12 then (.ref k12) else (fun k => if k = 11 then (.ref k11) else (fun k => if k = 10 then (.ref k10) else (fun k => if k = 9 then (.ref k9) else (fun k => if k = 8 then (.ref k8) else (fun k => if k = 7 then (.ref k7) else (fun k => if k = 6 then (.ref k6) else (fun k => if k = 5 then (.ref k5) else (fun k => if k = 4 then (.ref k4) else (fun k => if k = 3 then (.ref k3) else (fun k => if k = 2 then (.ref k2) else (fun k => if k = 1 then (.ref k1) else (fun k => if k = 0 then (.ref k0) else (fun _ => .null) k) k) k) k) k) k) k) k) k) k) k) k) k) := A153
  have z153 := W153.size
  have N153 := Fr.snoc X153 N149 (by omega)
  refine own_st st153 ?_
  show own_Goes p e below s _ _ (T153.setTop (mkF m 90 #[iv p0, .unset, .unset, .unset, .unset, .unset] [(.ref b101)]))
  refine own_st (fun _ k => XS.dup X153.here hx rfl (hb hby at_90) rfl rfl k) ?_
  show own_Goes p e below s _ _ (T153.setTop (mkF m 91 #[iv p0, .unset, .unset, .unset, .unset, .unset] [(.ref b101), (.ref b101)]))
  refine own_st (fun _ k => XS.bipush X153.here hx rfl (hb hby at_91) k) ?_
  show own_Goes p e below s _ _ (T153.setTop (mkF m 93 #[iv p0, .unset, .unset, .unset, .unset, .unset] [(.int (13 : Int32)), (.ref b101), (.ref b101)]))
  have f154 := ((((((((((((((Sk13.ext E101).wr W105).wr W109).wr W113).wr W117).wr W121).wr W125).wr W129).wr W133).wr W137).wr W141).wr W145).wr W149).wr W153)
  obtain ⟨T155, X155, e155, st155⟩ := getS2 X153 hx hZ hown (host := "") (Or.inl (hw _ (List.mem_of_getElem? (i := 30) rfl))) Via.refl e153 f154 (g := (mkF m 93 #[iv p0, .unset, .unset, .unset, .unset, .unset] [(.int (13 : Int32)), (.ref b101), (.ref b101)])) rfl (hb hby at_93)
  refine own_st st155 ?_
  show own_Goes p e below s _ _ (T155.setTop (mkF m 96 #[iv p0, .unset, .unset, .unset, .unset, .unset] [(.ref k13), (.int (13 : Int32)), (.ref b101), (.ref b101)]))
  have f156 := ((((((((((((((Ek13.ext E101).wr W105).wr W109).wr W113).wr W117).wr W121).wr W125).wr W129).wr W133).wr W137).wr W141).wr W145).wr W149).wr W153)
  obtain ⟨T157, h157, X157, e157, W157, A157, P157, st157⟩ := own_stR X155 hx hZ e155 V153 P153 (j := (13 : Int32)) (Or.inr ⟨_, rfl, Ins.self f156⟩) (by decide) (g := (mkF m 96 #[iv p0, .unset, .unset, .unset, .unset, .unset] [(.ref k13), (.int (13 : Int32)), (.ref b101), (.ref b101)])) rfl rfl (hb hby at_96)
  have V157 : own_Arf Z h157 b101 (.object "com/example/footprint_to_feed/footprinttofeed/SearchKey") 15 (fun k => if k = 13 then (.ref k13) else (fun k => if k = 12 then (.ref k12) else (fun k => if k = 11 then (.ref k11) else (fun k => if k = 10 then (.ref k10) else (fun k => if k = 9 then (.ref k9) else (fun k => if k = 8 then (.ref k8) else (fun k => if k = 7 then (.ref k7) else (fun k => if k = 6 then (.ref k6) else (fun k => if k = 5 then (.ref k5) else (fun k => if k = 4 then (.ref k4) else (fun k => if k = 3 then (.ref k3) else (fun k => if k = 2 then (.ref k2) else (fun k => if k = 1 then (.ref k1) else (fun k => if k = 0 then (.ref k0) else (fun _ => .null) k) k) k) k) k) k) k) k) k) k) k) k) k) k) := A157
  have z157 := W157.size
  have N157 := Fr.snoc X157 N153 (by omega)
  refine own_st st157 ?_
  show own_Goes p e below s _ _ (T157.setTop (mkF m 97 #[iv p0, .unset, .unset, .unset, .unset, .unset] [(.ref b101)]))
  refine own_st (fun _ k => XS.dup X157.here hx rfl (hb hby at_97) rfl rfl k) ?_
  show own_Goes p e below s _ _ (T157.setTop (mkF m 98 #[iv p0, .unset, .unset, .unset, .unset, .unset] [(.ref b101), (.ref b101)]))
  refine own_st (fun _ k => XS.bipush X157.here hx rfl (hb hby at_98) k) ?_
  show own_Goes p e below s _ _ (T157.setTop (mkF m 100 #[iv p0, .unset, .unset, .unset, .unset, .unset] [(.int (14 : Int32)), (.ref b101), (.ref b101)]))
  have f158 := (((((((((((((((Sk14.ext E101).wr W105).wr W109).wr W113).wr W117).wr W121).wr W125).wr W129).wr W133).wr W137).wr W141).wr W145).wr W149).wr W153).wr W157)
  obtain ⟨T159, X159, e159, st159⟩ := getS2 X157 hx hZ hown (host := "") (Or.inl (hw _ (List.mem_of_getElem? (i := 32) rfl))) Via.refl e157 f158 (g := (mkF m 100 #[iv p0, .unset, .unset, .unset, .unset, .unset] [(.int (14 : Int32)), (.ref b101), (.ref b101)])) rfl (hb hby at_100)
  refine own_st st159 ?_
  show own_Goes p e below s _ _ (T159.setTop (mkF m 103 #[iv p0, .unset, .unset, .unset, .unset, .unset] [(.ref k14), (.int (14 : Int32)), (.ref b101), (.ref b101)]))
  have f160 := (((((((((((((((Ek14.ext E101).wr W105).wr W109).wr W113).wr W117).wr W121).wr W125).wr W129).wr W133).wr W137).wr W141).wr W145).wr W149).wr W153).wr W157)
  obtain ⟨T161, h161, X161, e161, W161, A161, P161, st161⟩ := own_stR X159 hx hZ e159 V157 P157 (j := (14 : Int32)) (Or.inr ⟨_, rfl, Ins.self f160⟩) (by decide) (g := (mkF m 103 #[iv p0, .unset, .unset, .unset, .unset, .unset] [(.ref k14), (.int (14 : Int32)), (.ref b101), (.ref b101)])) rfl rfl (hb hby at_103)
  have V161 : own_Arf Z h161 b101 (.object "com/example/footprint_to_feed/footprinttofeed/SearchKey") 15 (fun k => if k = 14 then (.ref k14) else (fun k => if k = 13 then (.ref k13) else (fun k => if k = 12 then (.ref k12) else (fun k => if k = 11 then (.ref k11) else (fun k => if k = 10 then (.ref k10) else (fun k => if k = 9 then (.ref k9) else (fun k => if k = 8 then (.ref k8) else (fun k => if k = 7 then (.ref k7) else (fun k => if k = 6 then (.ref k6) else (fun k => if k = 5 then (.ref k5) else (fun k => if k = 4 then (.ref k4) else (fun k => if k = 3 then (.ref k3) else (fun k => if k = 2 then (.ref k2) else (fun k => if k = 1 then (.ref k1) else (fun k => if k = 0 then (.ref k0) else (fun _ => .null) k) k) k) k) k) k) k) k) k) k) k) k) k) k) k) := A161
  have z161 := W161.size
  have N161 := Fr.snoc X161 N157 (by omega)
  refine own_st st161 ?_
  show own_Goes p e below s _ _ (T161.setTop (mkF m 104 #[iv p0, .unset, .unset, .unset, .unset, .unset] [(.ref b101)]))
  refine own_st (fun _ k => XS.astoreN X161.here hx rfl (hb hby at_104) rfl rfl (l' := #[iv p0, rv b101, .unset, .unset, .unset, .unset]) rfl k) ?_
  show own_Goes p e below s _ _ (T161.setTop (mkF m 105 #[iv p0, rv b101, .unset, .unset, .unset, .unset] []))
  refine own_st (fun _ k => XS.iloadN X161.here hx rfl (hb hby at_105) rfl  k) ?_
  show own_Goes p e below s _ _ (T161.setTop (mkF m 106 #[iv p0, rv b101, .unset, .unset, .unset, .unset] [(.int p0)]))
  refine own_st (fun _ k => X161.ldcInt hx hown (mvT hZ (hw _ (List.mem_of_getElem? (i := 34) rfl))) (g := (mkF m 106 #[iv p0, rv b101, .unset, .unset, .unset, .unset] [(.int p0)])) rfl (hb hby at_106) _ k) ?_
  show own_Goes p e below s _ _ (T161.setTop (mkF m 108 #[iv p0, rv b101, .unset, .unset, .unset, .unset] [(.int (2147483647 : Int32)), (.int p0)]))
  refine own_st (fun _ k => XS.iand X161.here hx rfl (hb hby at_108) rfl k) ?_
  show own_Goes p e below s _ _ (T161.setTop (mkF m 109 #[iv p0, rv b101, .unset, .unset, .unset, .unset] [(.int (p0 &&& (2147483647 : Int32)))]))
  refine own_st (fun _ k => XS.bipush X161.here hx rfl (hb hby at_109) k) ?_
  show own_Goes p e below s _ _ (T161.setTop (mkF m 111 #[iv p0, rv b101, .unset, .unset, .unset, .unset] [(.int (15 : Int32)), (.int (p0 &&& (2147483647 : Int32)))]))
  refine own_st (fun _ k => iremM X161 hx rfl (hb hby at_111) rfl (by decide) k) ?_
  show own_Goes p e below s _ _ (T161.setTop (mkF m 112 #[iv p0, rv b101, .unset, .unset, .unset, .unset] [(.int ((p0 &&& (2147483647 : Int32)) % (15 : Int32)))]))
  have hi := own_rem15 p0
  generalize ((p0 &&& (2147483647 : Int32)) % (15 : Int32)) = i at hi ⊢
  rcases own_15 hi with rfl | rfl | rfl | rfl | rfl | rfl | rfl | rfl | rfl | rfl | rfl | rfl | rfl | rfl | rfl
  · show own_Goes p e below s _ _ (T161.setTop (mkF m 112 #[iv p0, rv b101, .unset, .unset, .unset, .unset] [(.int (0 : Int32))]))
    refine own_st (fun _ k => XS.istoreN X161.here hx rfl (hb hby at_112) rfl (l' := #[iv p0, rv b101, iv (0 : Int32), .unset, .unset, .unset]) rfl k) ?_
    show own_Goes p e below s _ _ (T161.setTop (mkF m 113 #[iv p0, rv b101, iv (0 : Int32), .unset, .unset, .unset] []))
    refine own_st (fun _ k => XS.aloadN X161.here hx rfl (hb hby at_113) rfl rfl  k) ?_
    show own_Goes p e below s _ _ (T161.setTop (mkF m 114 #[iv p0, rv b101, iv (0 : Int32), .unset, .unset, .unset] [(.ref b101)]))
    refine own_st (fun _ k => XS.iloadN X161.here hx rfl (hb hby at_114) rfl  k) ?_
    show own_Goes p e below s _ _ (T161.setTop (mkF m 115 #[iv p0, rv b101, iv (0 : Int32), .unset, .unset, .unset] [(.int (0 : Int32)), (.ref b101)]))
    refine own_st (fun _ k => own_ldR X161 hx hZ e161 rfl V161 (j := (0 : Int32)) (by decide) (g := (mkF m 115 #[iv p0, rv b101, iv (0 : Int32), .unset, .unset, .unset] [(.int (0 : Int32)), (.ref b101)])) rfl rfl (hb hby at_115) _ k) ?_
    show own_Goes p e below s _ _ (T161.setTop (mkF m 116 #[iv p0, rv b101, iv (0 : Int32), .unset, .unset, .unset] [(.ref k0)]))
    refine own_st (fun _ k => XS.astoreN X161.here hx rfl (hb hby at_116) rfl rfl (l' := #[iv p0, rv b101, iv (0 : Int32), rv k0, .unset, .unset]) rfl k) ?_
    show own_Goes p e below s _ _ (T161.setTop (mkF m 117 #[iv p0, rv b101, iv (0 : Int32), rv k0, .unset, .unset] []))
    have nek0 := own_one Ok0 Ok14 (by decide)
    refine own_st (fun _ k => XS.aloadN X161.here hx rfl (hb hby at_117) rfl rfl  k) ?_
    show own_Goes p e below s _ _ (T161.setTop (mkF m 118 #[iv p0, rv b101, iv (0 : Int32), rv k0, .unset, .unset] [(.ref k0)]))
    have f162 := (f158.wr W161)
    obtain ⟨T163, X163, e163, st163⟩ := getS2 X161 hx hZ hown (host := "") (Or.inl (hw _ (List.mem_of_getElem? (i := 32) rfl))) Via.refl e161 f162 (g := (mkF m 118 #[iv p0, rv b101, iv (0 : Int32), rv k0, .unset, .unset] [(.ref k0)])) rfl (hb hby at_118)
    refine own_st st163 ?_
    show own_Goes p e below s _ _ (T163.setTop (mkF m 121 #[iv p0, rv b101, iv (0 : Int32), rv k0, .unset, .unset] [(.ref k14), (.ref k0)]))
    refine own_st (fun _ k => Jvm.RoadKit.acmp (g := (mkF m 121 #[iv p0, rv b101, iv (0 : Int32), rv k0, .unset, .unset] [(.ref k14), (.ref k0)])) X163 hx rfl rfl rfl (pc0 := 121) (pc' := 124) (same := false) rfl (hb hby at_121) rfl (decide_eq_false fun q => nek0 (Value.ref.inj q)) (by decide) (by decide) k) ?_
    show own_Goes p e below s _ _ (T163.setTop (mkF m 124 #[iv p0, rv b101, iv (0 : Int32), rv k0, .unset, .unset] []))
    refine own_st (fun _ k => XS.iconst X163.here hx rfl (hb hby at_124) k) ?_
    show own_Goes p e below s _ _ (T163.setTop (mkF m 125 #[iv p0, rv b101, iv (0 : Int32), rv k0, .unset, .unset] [(.int (1 : Int32))]))
    refine own_st (fun _ k => XS.goto X163.here hx rfl (pc0 := 125) (pc' := 129) rfl (hb hby at_125) (by decide) (by decide) k) ?_
    show own_Goes p e below s _ _ (T163.setTop (mkF m 129 #[iv p0, rv b101, iv (0 : Int32), rv k0, .unset, .unset] [(.int (1 : Int32))]))
    refine own_st (fun _ k => XS.istore X163.here hx rfl (hb hby at_129) rfl (l' := #[iv p0, rv b101, iv (0 : Int32), rv k0, iv (1 : Int32), .unset]) rfl k) ?_
    show own_Goes p e below s _ _ (T163.setTop (mkF m 131 #[iv p0, rv b101, iv (0 : Int32), rv k0, iv (1 : Int32), .unset] []))
    refine own_st (fun _ k => XS.aloadN X163.here hx rfl (hb hby at_131) rfl rfl  k) ?_
    show own_Goes p e below s _ _ (T163.setTop (mkF m 132 #[iv p0, rv b101, iv (0 : Int32), rv k0, iv (1 : Int32), .unset] [(.ref k0)]))
    have f164 := ((((((((((((((((Fk0.ext E101).other W105 (Or.inl (own_ne (by omega)))).other W109 (Or.inl (own_ne (by omega)))).other W113 (Or.inl (own_ne (by omega)))).other W117 (Or.inl (own_ne (by omega)))).other W121 (Or.inl (own_ne (by omega)))).other W125 (Or.inl (own_ne (by omega)))).other W129 (Or.inl (own_ne (by omega)))).other W133 (Or.inl (own_ne (by omega)))).other W137 (Or.inl (own_ne (by omega)))).other W141 (Or.inl (own_ne (by omega)))).other W145 (Or.inl (own_ne (by omega)))).other W149 (Or.inl (own_ne (by omega)))).other W153 (Or.inl (own_ne (by omega)))).other W157 (Or.inl (own_ne (by omega)))).other W161 (Or.inl (own_ne (by omega))))
    have f166 := (((((((((((((((f104.wr W105).wr W109).wr W113).wr W117).wr W121).wr W125).wr W129).wr W133).wr W137).wr W141).wr W145).wr W149).wr W153).wr W157).wr W161)
    obtain ⟨v165, T165, L165, X165, Q165, st165⟩ := own_callV X163 hx hZ (C := "com/example/footprint_to_feed/footprinttofeed/SearchKey") (y := (⟨"com/example/footprint_to_feed/footprinttofeed/SearchKey", "bound", "()Z"⟩ : MethodName)) hown (hw _ (List.mem_of_getElem? (i := 35) rfl)) (hw _ (List.mem_of_getElem? (i := 36) rfl)) (hw _ (List.mem_of_getElem? (i := 38) rfl)) (hw _ (List.mem_of_getElem? (i := 37) rfl)) (hw _ (List.mem_of_getElem? (i := 3) rfl)) (hw _ (List.mem_of_getElem? (i := 39) rfl)) (by decide) (W := 0) (rest := []) (argsL := []) (a := k0) (rmB0 l Z a0 hw [] k0 _ h161 n0 (by omega) f164) (by decide) (by decide) (by decide) (by decide) e163 f166 own_pd0 rfl (g := (mkF m 132 #[iv p0, rv b101, iv (0 : Int32), rv k0, iv (1 : Int32), .unset] [(.ref k0)])) rfl (by rw [hml]; rfl) rfl (by show 2 * 0 + _ ≤ _; exact Nat.le_of_eq rfl) (hb hby at_132)
    obtain ⟨rfl, N165q, e165⟩ := Q165
    have N165 := Fr.app N161 N165q
    refine own_st st165 ?_
    show own_Goes p e below s _ _ (T165.setTop (mkF m 135 #[iv p0, rv b101, iv (0 : Int32), rv k0, iv (1 : Int32), .unset] [(.int (1 : Int32))]))
    refine own_st (fun _ k => XS.istore X165.here hx rfl (hb hby at_135) rfl (l' := #[iv p0, rv b101, iv (0 : Int32), rv k0, iv (1 : Int32), iv (1 : Int32)]) rfl k) ?_
    show own_Goes p e below s _ _ (T165.setTop (mkF m 137 #[iv p0, rv b101, iv (0 : Int32), rv k0, iv (1 : Int32), iv (1 : Int32)] []))
    refine own_st (fun _ k => XS.iload X165.here hx rfl (hb hby at_137) rfl  k) ?_
    show own_Goes p e below s _ _ (T165.setTop (mkF m 139 #[iv p0, rv b101, iv (0 : Int32), rv k0, iv (1 : Int32), iv (1 : Int32)] [(.int (1 : Int32))]))
    refine own_st (fun _ k => XS.iload X165.here hx rfl (hb hby at_139) rfl  k) ?_
    show own_Goes p e below s _ _ (T165.setTop (mkF m 141 #[iv p0, rv b101, iv (0 : Int32), rv k0, iv (1 : Int32), iv (1 : Int32)] [(.int (1 : Int32)), (.int (1 : Int32))]))
    refine own_st (fun _ k => XS.icmpNo X165.here hx rfl (hb hby at_141) rfl (teq (by decide : (1 : Int32) = (1 : Int32))).2 k) ?_
    show own_Goes p e below s _ _ (T165.setTop (mkF m 144 #[iv p0, rv b101, iv (0 : Int32), rv k0, iv (1 : Int32), iv (1 : Int32)] []))
    refine own_st (fun _ k => XS.iload X165.here hx rfl (hb hby at_144) rfl  k) ?_
    show own_Goes p e below s _ _ (T165.setTop (mkF m 146 #[iv p0, rv b101, iv (0 : Int32), rv k0, iv (1 : Int32), iv (1 : Int32)] [(.int (1 : Int32))]))
    refine own_st (fun _ k => XS.aloadN X165.here hx rfl (hb hby at_146) rfl rfl  k) ?_
    show own_Goes p e below s _ _ (T165.setTop (mkF m 147 #[iv p0, rv b101, iv (0 : Int32), rv k0, iv (1 : Int32), iv (1 : Int32)] [(.ref k0), (.int (1 : Int32))]))
    obtain ⟨v167, T167, L167, X167, Q167, st167⟩ := own_callV X165 hx hZ (C := "com/example/footprint_to_feed/footprinttofeed/SearchKey") (y := (⟨"com/example/footprint_to_feed/footprinttofeed/SearchKey", "parameter", "()Ljava/lang/String;"⟩ : MethodName)) hown (hw _ (List.mem_of_getElem? (i := 42) rfl)) (hw _ (List.mem_of_getElem? (i := 43) rfl)) (hw _ (List.mem_of_getElem? (i := 45) rfl)) (hw _ (List.mem_of_getElem? (i := 44) rfl)) (hw _ (List.mem_of_getElem? (i := 3) rfl)) (hw _ (List.mem_of_getElem? (i := 46) rfl)) (by decide) (W := 1) (rest := [(.int (1 : Int32))]) (argsL := []) (a := k0) (rmP0 l Z a0 hw [] k0 _ h161 n0 (by omega) f164) (by decide) (by decide) (by decide) (by decide) e165 f166 own_pd1 rfl (g := (mkF m 147 #[iv p0, rv b101, iv (0 : Int32), rv k0, iv (1 : Int32), iv (1 : Int32)] [(.ref k0), (.int (1 : Int32))])) rfl (by rw [hml]; rfl) rfl (by show 2 * 0 + _ ≤ _; exact Nat.le_of_eq rfl) (hb hby at_147)
    obtain ⟨rfl, N167q, e167⟩ := Q167
    have N167 := Fr.app N165 N167q
    refine own_st st167 ?_
    show own_Goes p e below s _ _ (T167.setTop (mkF m 150 #[iv p0, rv b101, iv (0 : Int32), rv k0, iv (1 : Int32), iv (1 : Int32)] [(.ref t0), (.int (1 : Int32))]))
    refine own_st (fun _ k => XS.ifnullNo X167.here hx rfl (hb hby at_150) rfl k) ?_
    show own_Goes p e below s _ _ (T167.setTop (mkF m 153 #[iv p0, rv b101, iv (0 : Int32), rv k0, iv (1 : Int32), iv (1 : Int32)] [(.int (1 : Int32))]))
    refine own_st (fun _ k => XS.iconst X167.here hx rfl (hb hby at_153) k) ?_
    show own_Goes p e below s _ _ (T167.setTop (mkF m 154 #[iv p0, rv b101, iv (0 : Int32), rv k0, iv (1 : Int32), iv (1 : Int32)] [(.int (1 : Int32)), (.int (1 : Int32))]))
    refine own_st (fun _ k => XS.goto X167.here hx rfl (pc0 := 154) (pc' := 158) rfl (hb hby at_154) (by decide) (by decide) k) ?_
    show own_Goes p e below s _ _ (T167.setTop (mkF m 158 #[iv p0, rv b101, iv (0 : Int32), rv k0, iv (1 : Int32), iv (1 : Int32)] [(.int (1 : Int32)), (.int (1 : Int32))]))
    refine own_st (fun _ k => XS.icmpNo X167.here hx rfl (hb hby at_158) rfl (teq (by decide : (1 : Int32) = (1 : Int32))).2 k) ?_
    show own_Goes p e below s _ _ (T167.setTop (mkF m 161 #[iv p0, rv b101, iv (0 : Int32), rv k0, iv (1 : Int32), iv (1 : Int32)] []))
    refine own_st (fun _ k => XS.iconst X167.here hx rfl (hb hby at_161) k) ?_
    show own_Goes p e below s _ _ (T167.setTop (mkF m 162 #[iv p0, rv b101, iv (0 : Int32), rv k0, iv (1 : Int32), iv (1 : Int32)] [(.int (1 : Int32))]))
    refine own_st (fun _ k => XS.goto X167.here hx rfl (pc0 := 162) (pc' := 166) rfl (hb hby at_162) (by decide) (by decide) k) ?_
    show own_Goes p e below s _ _ (T167.setTop (mkF m 166 #[iv p0, rv b101, iv (0 : Int32), rv k0, iv (1 : Int32), iv (1 : Int32)] [(.int (1 : Int32))]))
    exact own_retN X167 hx hlk (1 : Int32) hret (Or.inl rfl) rfl (hb hby at_166) (by decide) (by decide) ⟨rfl, N167⟩
  · show own_Goes p e below s _ _ (T161.setTop (mkF m 112 #[iv p0, rv b101, .unset, .unset, .unset, .unset] [(.int (1 : Int32))]))
    refine own_st (fun _ k => XS.istoreN X161.here hx rfl (hb hby at_112) rfl (l' := #[iv p0, rv b101, iv (1 : Int32), .unset, .unset, .unset]) rfl k) ?_
    show own_Goes p e below s _ _ (T161.setTop (mkF m 113 #[iv p0, rv b101, iv (1 : Int32), .unset, .unset, .unset] []))
    refine own_st (fun _ k => XS.aloadN X161.here hx rfl (hb hby at_113) rfl rfl  k) ?_
    show own_Goes p e below s _ _ (T161.setTop (mkF m 114 #[iv p0, rv b101, iv (1 : Int32), .unset, .unset, .unset] [(.ref b101)]))
    refine own_st (fun _ k => XS.iloadN X161.here hx rfl (hb hby at_114) rfl  k) ?_
    show own_Goes p e below s _ _ (T161.setTop (mkF m 115 #[iv p0, rv b101, iv (1 : Int32), .unset, .unset, .unset] [(.int (1 : Int32)), (.ref b101)]))
    refine own_st (fun _ k => own_ldR X161 hx hZ e161 rfl V161 (j := (1 : Int32)) (by decide) (g := (mkF m 115 #[iv p0, rv b101, iv (1 : Int32), .unset, .unset, .unset] [(.int (1 : Int32)), (.ref b101)])) rfl rfl (hb hby at_115) _ k) ?_
    show own_Goes p e below s _ _ (T161.setTop (mkF m 116 #[iv p0, rv b101, iv (1 : Int32), .unset, .unset, .unset] [(.ref k1)]))
    refine own_st (fun _ k => XS.astoreN X161.here hx rfl (hb hby at_116) rfl rfl (l' := #[iv p0, rv b101, iv (1 : Int32), rv k1, .unset, .unset]) rfl k) ?_
    show own_Goes p e below s _ _ (T161.setTop (mkF m 117 #[iv p0, rv b101, iv (1 : Int32), rv k1, .unset, .unset] []))
    have nek1 := own_one Ok1 Ok14 (by decide)
    refine own_st (fun _ k => XS.aloadN X161.here hx rfl (hb hby at_117) rfl rfl  k) ?_
    show own_Goes p e below s _ _ (T161.setTop (mkF m 118 #[iv p0, rv b101, iv (1 : Int32), rv k1, .unset, .unset] [(.ref k1)]))
    have f168 := (f158.wr W161)
    obtain ⟨T169, X169, e169, st169⟩ := getS2 X161 hx hZ hown (host := "") (Or.inl (hw _ (List.mem_of_getElem? (i := 32) rfl))) Via.refl e161 f168 (g := (mkF m 118 #[iv p0, rv b101, iv (1 : Int32), rv k1, .unset, .unset] [(.ref k1)])) rfl (hb hby at_118)
    refine own_st st169 ?_
    show own_Goes p e below s _ _ (T169.setTop (mkF m 121 #[iv p0, rv b101, iv (1 : Int32), rv k1, .unset, .unset] [(.ref k14), (.ref k1)]))
    refine own_st (fun _ k => Jvm.RoadKit.acmp (g := (mkF m 121 #[iv p0, rv b101, iv (1 : Int32), rv k1, .unset, .unset] [(.ref k14), (.ref k1)])) X169 hx rfl rfl rfl (pc0 := 121) (pc' := 124) (same := false) rfl (hb hby at_121) rfl (decide_eq_false fun q => nek1 (Value.ref.inj q)) (by decide) (by decide) k) ?_
    show own_Goes p e below s _ _ (T169.setTop (mkF m 124 #[iv p0, rv b101, iv (1 : Int32), rv k1, .unset, .unset] []))
    refine own_st (fun _ k => XS.iconst X169.here hx rfl (hb hby at_124) k) ?_
    show own_Goes p e below s _ _ (T169.setTop (mkF m 125 #[iv p0, rv b101, iv (1 : Int32), rv k1, .unset, .unset] [(.int (1 : Int32))]))
    refine own_st (fun _ k => XS.goto X169.here hx rfl (pc0 := 125) (pc' := 129) rfl (hb hby at_125) (by decide) (by decide) k) ?_
    show own_Goes p e below s _ _ (T169.setTop (mkF m 129 #[iv p0, rv b101, iv (1 : Int32), rv k1, .unset, .unset] [(.int (1 : Int32))]))
    refine own_st (fun _ k => XS.istore X169.here hx rfl (hb hby at_129) rfl (l' := #[iv p0, rv b101, iv (1 : Int32), rv k1, iv (1 : Int32), .unset]) rfl k) ?_
    show own_Goes p e below s _ _ (T169.setTop (mkF m 131 #[iv p0, rv b101, iv (1 : Int32), rv k1, iv (1 : Int32), .unset] []))
    refine own_st (fun _ k => XS.aloadN X169.here hx rfl (hb hby at_131) rfl rfl  k) ?_
    show own_Goes p e below s _ _ (T169.setTop (mkF m 132 #[iv p0, rv b101, iv (1 : Int32), rv k1, iv (1 : Int32), .unset] [(.ref k1)]))
    have f170 := ((((((((((((((((Fk1.ext E101).other W105 (Or.inl (own_ne (by omega)))).other W109 (Or.inl (own_ne (by omega)))).other W113 (Or.inl (own_ne (by omega)))).other W117 (Or.inl (own_ne (by omega)))).other W121 (Or.inl (own_ne (by omega)))).other W125 (Or.inl (own_ne (by omega)))).other W129 (Or.inl (own_ne (by omega)))).other W133 (Or.inl (own_ne (by omega)))).other W137 (Or.inl (own_ne (by omega)))).other W141 (Or.inl (own_ne (by omega)))).other W145 (Or.inl (own_ne (by omega)))).other W149 (Or.inl (own_ne (by omega)))).other W153 (Or.inl (own_ne (by omega)))).other W157 (Or.inl (own_ne (by omega)))).other W161 (Or.inl (own_ne (by omega))))
    have f172 := ((((((((((((((f108.wr W109).wr W113).wr W117).wr W121).wr W125).wr W129).wr W133).wr W137).wr W141).wr W145).wr W149).wr W153).wr W157).wr W161)
    obtain ⟨v171, T171, L171, X171, Q171, st171⟩ := own_callV X169 hx hZ (C := "com/example/footprint_to_feed/footprinttofeed/SearchKey") (y := (⟨"com/example/footprint_to_feed/footprinttofeed/SearchKey", "bound", "()Z"⟩ : MethodName)) hown (hw _ (List.mem_of_getElem? (i := 35) rfl)) (hw _ (List.mem_of_getElem? (i := 36) rfl)) (hw _ (List.mem_of_getElem? (i := 38) rfl)) (hw _ (List.mem_of_getElem? (i := 37) rfl)) (hw _ (List.mem_of_getElem? (i := 3) rfl)) (hw _ (List.mem_of_getElem? (i := 39) rfl)) (by decide) (W := 0) (rest := []) (argsL := []) (a := k1) (rmB0 l Z a0 hw [] k1 _ h161 n0 (by omega) f170) (by decide) (by decide) (by decide) (by decide) e169 f172 own_pd0 rfl (g := (mkF m 132 #[iv p0, rv b101, iv (1 : Int32), rv k1, iv (1 : Int32), .unset] [(.ref k1)])) rfl (by rw [hml]; rfl) rfl (by show 2 * 0 + _ ≤ _; exact Nat.le_of_eq rfl) (hb hby at_132)
    obtain ⟨rfl, N171q, e171⟩ := Q171
    have N171 := Fr.app N161 N171q
    refine own_st st171 ?_
    show own_Goes p e below s _ _ (T171.setTop (mkF m 135 #[iv p0, rv b101, iv (1 : Int32), rv k1, iv (1 : Int32), .unset] [(.int (1 : Int32))]))
    refine own_st (fun _ k => XS.istore X171.here hx rfl (hb hby at_135) rfl (l' := #[iv p0, rv b101, iv (1 : Int32), rv k1, iv (1 : Int32), iv (1 : Int32)]) rfl k) ?_
    show own_Goes p e below s _ _ (T171.setTop (mkF m 137 #[iv p0, rv b101, iv (1 : Int32), rv k1, iv (1 : Int32), iv (1 : Int32)] []))
    refine own_st (fun _ k => XS.iload X171.here hx rfl (hb hby at_137) rfl  k) ?_
    show own_Goes p e below s _ _ (T171.setTop (mkF m 139 #[iv p0, rv b101, iv (1 : Int32), rv k1, iv (1 : Int32), iv (1 : Int32)] [(.int (1 : Int32))]))
    refine own_st (fun _ k => XS.iload X171.here hx rfl (hb hby at_139) rfl  k) ?_
    show own_Goes p e below s _ _ (T171.setTop (mkF m 141 #[iv p0, rv b101, iv (1 : Int32), rv k1, iv (1 : Int32), iv (1 : Int32)] [(.int (1 : Int32)), (.int (1 : Int32))]))
    refine own_st (fun _ k => XS.icmpNo X171.here hx rfl (hb hby at_141) rfl (teq (by decide : (1 : Int32) = (1 : Int32))).2 k) ?_
    show own_Goes p e below s _ _ (T171.setTop (mkF m 144 #[iv p0, rv b101, iv (1 : Int32), rv k1, iv (1 : Int32), iv (1 : Int32)] []))
    refine own_st (fun _ k => XS.iload X171.here hx rfl (hb hby at_144) rfl  k) ?_
    show own_Goes p e below s _ _ (T171.setTop (mkF m 146 #[iv p0, rv b101, iv (1 : Int32), rv k1, iv (1 : Int32), iv (1 : Int32)] [(.int (1 : Int32))]))
    refine own_st (fun _ k => XS.aloadN X171.here hx rfl (hb hby at_146) rfl rfl  k) ?_
    show own_Goes p e below s _ _ (T171.setTop (mkF m 147 #[iv p0, rv b101, iv (1 : Int32), rv k1, iv (1 : Int32), iv (1 : Int32)] [(.ref k1), (.int (1 : Int32))]))
    obtain ⟨v173, T173, L173, X173, Q173, st173⟩ := own_callV X171 hx hZ (C := "com/example/footprint_to_feed/footprinttofeed/SearchKey") (y := (⟨"com/example/footprint_to_feed/footprinttofeed/SearchKey", "parameter", "()Ljava/lang/String;"⟩ : MethodName)) hown (hw _ (List.mem_of_getElem? (i := 42) rfl)) (hw _ (List.mem_of_getElem? (i := 43) rfl)) (hw _ (List.mem_of_getElem? (i := 45) rfl)) (hw _ (List.mem_of_getElem? (i := 44) rfl)) (hw _ (List.mem_of_getElem? (i := 3) rfl)) (hw _ (List.mem_of_getElem? (i := 46) rfl)) (by decide) (W := 1) (rest := [(.int (1 : Int32))]) (argsL := []) (a := k1) (rmP0 l Z a0 hw [] k1 _ h161 n0 (by omega) f170) (by decide) (by decide) (by decide) (by decide) e171 f172 own_pd1 rfl (g := (mkF m 147 #[iv p0, rv b101, iv (1 : Int32), rv k1, iv (1 : Int32), iv (1 : Int32)] [(.ref k1), (.int (1 : Int32))])) rfl (by rw [hml]; rfl) rfl (by show 2 * 0 + _ ≤ _; exact Nat.le_of_eq rfl) (hb hby at_147)
    obtain ⟨rfl, N173q, e173⟩ := Q173
    have N173 := Fr.app N171 N173q
    refine own_st st173 ?_
    show own_Goes p e below s _ _ (T173.setTop (mkF m 150 #[iv p0, rv b101, iv (1 : Int32), rv k1, iv (1 : Int32), iv (1 : Int32)] [(.ref t1), (.int (1 : Int32))]))
    refine own_st (fun _ k => XS.ifnullNo X173.here hx rfl (hb hby at_150) rfl k) ?_
    show own_Goes p e below s _ _ (T173.setTop (mkF m 153 #[iv p0, rv b101, iv (1 : Int32), rv k1, iv (1 : Int32), iv (1 : Int32)] [(.int (1 : Int32))]))
    refine own_st (fun _ k => XS.iconst X173.here hx rfl (hb hby at_153) k) ?_
    show own_Goes p e below s _ _ (T173.setTop (mkF m 154 #[iv p0, rv b101, iv (1 : Int32), rv k1, iv (1 : Int32), iv (1 : Int32)] [(.int (1 : Int32)), (.int (1 : Int32))]))
    refine own_st (fun _ k => XS.goto X173.here hx rfl (pc0 := 154) (pc' := 158) rfl (hb hby at_154) (by decide) (by decide) k) ?_
    show own_Goes p e below s _ _ (T173.setTop (mkF m 158 #[iv p0, rv b101, iv (1 : Int32), rv k1, iv (1 : Int32), iv (1 : Int32)] [(.int (1 : Int32)), (.int (1 : Int32))]))
    refine own_st (fun _ k => XS.icmpNo X173.here hx rfl (hb hby at_158) rfl (teq (by decide : (1 : Int32) = (1 : Int32))).2 k) ?_
    show own_Goes p e below s _ _ (T173.setTop (mkF m 161 #[iv p0, rv b101, iv (1 : Int32), rv k1, iv (1 : Int32), iv (1 : Int32)] []))
    refine own_st (fun _ k => XS.iconst X173.here hx rfl (hb hby at_161) k) ?_
    show own_Goes p e below s _ _ (T173.setTop (mkF m 162 #[iv p0, rv b101, iv (1 : Int32), rv k1, iv (1 : Int32), iv (1 : Int32)] [(.int (1 : Int32))]))
    refine own_st (fun _ k => XS.goto X173.here hx rfl (pc0 := 162) (pc' := 166) rfl (hb hby at_162) (by decide) (by decide) k) ?_
    show own_Goes p e below s _ _ (T173.setTop (mkF m 166 #[iv p0, rv b101, iv (1 : Int32), rv k1, iv (1 : Int32), iv (1 : Int32)] [(.int (1 : Int32))]))
    exact own_retN X173 hx hlk (1 : Int32) hret (Or.inl rfl) rfl (hb hby at_166) (by decide) (by decide) ⟨rfl, N173⟩
  · show own_Goes p e below s _ _ (T161.setTop (mkF m 112 #[iv p0, rv b101, .unset, .unset, .unset, .unset] [(.int (2 : Int32))]))
    refine own_st (fun _ k => XS.istoreN X161.here hx rfl (hb hby at_112) rfl (l' := #[iv p0, rv b101, iv (2 : Int32), .unset, .unset, .unset]) rfl k) ?_
    show own_Goes p e below s _ _ (T161.setTop (mkF m 113 #[iv p0, rv b101, iv (2 : Int32), .unset, .unset, .unset] []))
    refine own_st (fun _ k => XS.aloadN X161.here hx rfl (hb hby at_113) rfl rfl  k) ?_
    show own_Goes p e below s _ _ (T161.setTop (mkF m 114 #[iv p0, rv b101, iv (2 : Int32), .unset, .unset, .unset] [(.ref b101)]))
    refine own_st (fun _ k => XS.iloadN X161.here hx rfl (hb hby at_114) rfl  k) ?_
    show own_Goes p e below s _ _ (T161.setTop (mkF m 115 #[iv p0, rv b101, iv (2 : Int32), .unset, .unset, .unset] [(.int (2 : Int32)), (.ref b101)]))
    refine own_st (fun _ k => own_ldR X161 hx hZ e161 rfl V161 (j := (2 : Int32)) (by decide) (g := (mkF m 115 #[iv p0, rv b101, iv (2 : Int32), .unset, .unset, .unset] [(.int (2 : Int32)), (.ref b101)])) rfl rfl (hb hby at_115) _ k) ?_
    show own_Goes p e below s _ _ (T161.setTop (mkF m 116 #[iv p0, rv b101, iv (2 : Int32), .unset, .unset, .unset] [(.ref k2)]))
    refine own_st (fun _ k => XS.astoreN X161.here hx rfl (hb hby at_116) rfl rfl (l' := #[iv p0, rv b101, iv (2 : Int32), rv k2, .unset, .unset]) rfl k) ?_
    show own_Goes p e below s _ _ (T161.setTop (mkF m 117 #[iv p0, rv b101, iv (2 : Int32), rv k2, .unset, .unset] []))
    have nek2 := own_one Ok2 Ok14 (by decide)
    refine own_st (fun _ k => XS.aloadN X161.here hx rfl (hb hby at_117) rfl rfl  k) ?_
    show own_Goes p e below s _ _ (T161.setTop (mkF m 118 #[iv p0, rv b101, iv (2 : Int32), rv k2, .unset, .unset] [(.ref k2)]))
    have f174 := (f158.wr W161)
    obtain ⟨T175, X175, e175, st175⟩ := getS2 X161 hx hZ hown (host := "") (Or.inl (hw _ (List.mem_of_getElem? (i := 32) rfl))) Via.refl e161 f174 (g := (mkF m 118 #[iv p0, rv b101, iv (2 : Int32), rv k2, .unset, .unset] [(.ref k2)])) rfl (hb hby at_118)
    refine own_st st175 ?_
    show own_Goes p e below s _ _ (T175.setTop (mkF m 121 #[iv p0, rv b101, iv (2 : Int32), rv k2, .unset, .unset] [(.ref k14), (.ref k2)]))
    refine own_st (fun _ k => Jvm.RoadKit.acmp (g := (mkF m 121 #[iv p0, rv b101, iv (2 : Int32), rv k2, .unset, .unset] [(.ref k14), (.ref k2)])) X175 hx rfl rfl rfl (pc0 := 121) (pc' := 124) (same := false) rfl (hb hby at_121) rfl (decide_eq_false fun q => nek2 (Value.ref.inj q)) (by decide) (by decide) k) ?_
    show own_Goes p e below s _ _ (T175.setTop (mkF m 124 #[iv p0, rv b101, iv (2 : Int32), rv k2, .unset, .unset] []))
    refine own_st (fun _ k => XS.iconst X175.here hx rfl (hb hby at_124) k) ?_
    show own_Goes p e below s _ _ (T175.setTop (mkF m 125 #[iv p0, rv b101, iv (2 : Int32), rv k2, .unset, .unset] [(.int (1 : Int32))]))
    refine own_st (fun _ k => XS.goto X175.here hx rfl (pc0 := 125) (pc' := 129) rfl (hb hby at_125) (by decide) (by decide) k) ?_
    show own_Goes p e below s _ _ (T175.setTop (mkF m 129 #[iv p0, rv b101, iv (2 : Int32), rv k2, .unset, .unset] [(.int (1 : Int32))]))
    refine own_st (fun _ k => XS.istore X175.here hx rfl (hb hby at_129) rfl (l' := #[iv p0, rv b101, iv (2 : Int32), rv k2, iv (1 : Int32), .unset]) rfl k) ?_
    show own_Goes p e below s _ _ (T175.setTop (mkF m 131 #[iv p0, rv b101, iv (2 : Int32), rv k2, iv (1 : Int32), .unset] []))
    refine own_st (fun _ k => XS.aloadN X175.here hx rfl (hb hby at_131) rfl rfl  k) ?_
    show own_Goes p e below s _ _ (T175.setTop (mkF m 132 #[iv p0, rv b101, iv (2 : Int32), rv k2, iv (1 : Int32), .unset] [(.ref k2)]))
    have f176 := ((((((((((((((((Fk2.ext E101).other W105 (Or.inl (own_ne (by omega)))).other W109 (Or.inl (own_ne (by omega)))).other W113 (Or.inl (own_ne (by omega)))).other W117 (Or.inl (own_ne (by omega)))).other W121 (Or.inl (own_ne (by omega)))).other W125 (Or.inl (own_ne (by omega)))).other W129 (Or.inl (own_ne (by omega)))).other W133 (Or.inl (own_ne (by omega)))).other W137 (Or.inl (own_ne (by omega)))).other W141 (Or.inl (own_ne (by omega)))).other W145 (Or.inl (own_ne (by omega)))).other W149 (Or.inl (own_ne (by omega)))).other W153 (Or.inl (own_ne (by omega)))).other W157 (Or.inl (own_ne (by omega)))).other W161 (Or.inl (own_ne (by omega))))
    have f178 := (((((((((((((f112.wr W113).wr W117).wr W121).wr W125).wr W129).wr W133).wr W137).wr W141).wr W145).wr W149).wr W153).wr W157).wr W161)
    obtain ⟨v177, T177, L177, X177, Q177, st177⟩ := own_callV X175 hx hZ (C := "com/example/footprint_to_feed/footprinttofeed/SearchKey") (y := (⟨"com/example/footprint_to_feed/footprinttofeed/SearchKey", "bound", "()Z"⟩ : MethodName)) hown (hw _ (List.mem_of_getElem? (i := 35) rfl)) (hw _ (List.mem_of_getElem? (i := 36) rfl)) (hw _ (List.mem_of_getElem? (i := 38) rfl)) (hw _ (List.mem_of_getElem? (i := 37) rfl)) (hw _ (List.mem_of_getElem? (i := 3) rfl)) (hw _ (List.mem_of_getElem? (i := 39) rfl)) (by decide) (W := 0) (rest := []) (argsL := []) (a := k2) (rmB0 l Z a0 hw [] k2 _ h161 n0 (by omega) f176) (by decide) (by decide) (by decide) (by decide) e175 f178 own_pd0 rfl (g := (mkF m 132 #[iv p0, rv b101, iv (2 : Int32), rv k2, iv (1 : Int32), .unset] [(.ref k2)])) rfl (by rw [hml]; rfl) rfl (by show 2 * 0 + _ ≤ _; exact Nat.le_of_eq rfl) (hb hby at_132)
    obtain ⟨rfl, N177q, e177⟩ := Q177
    have N177 := Fr.app N161 N177q
    refine own_st st177 ?_
    show own_Goes p e below s _ _ (T177.setTop (mkF m 135 #[iv p0, rv b101, iv (2 : Int32), rv k2, iv (1 : Int32), .unset] [(.int (1 : Int32))]))
    refine own_st (fun _ k => XS.istore X177.here hx rfl (hb hby at_135) rfl (l' := #[iv p0, rv b101, iv (2 : Int32), rv k2, iv (1 : Int32), iv (1 : Int32)]) rfl k) ?_
    show own_Goes p e below s _ _ (T177.setTop (mkF m 137 #[iv p0, rv b101, iv (2 : Int32), rv k2, iv (1 : Int32), iv (1 : Int32)] []))
    refine own_st (fun _ k => XS.iload X177.here hx rfl (hb hby at_137) rfl  k) ?_
    show own_Goes p e below s _ _ (T177.setTop (mkF m 139 #[iv p0, rv b101, iv (2 : Int32), rv k2, iv (1 : Int32), iv (1 : Int32)] [(.int (1 : Int32))]))
    refine own_st (fun _ k => XS.iload X177.here hx rfl (hb hby at_139) rfl  k) ?_
    show own_Goes p e below s _ _ (T177.setTop (mkF m 141 #[iv p0, rv b101, iv (2 : Int32), rv k2, iv (1 : Int32), iv (1 : Int32)] [(.int (1 : Int32)), (.int (1 : Int32))]))
    refine own_st (fun _ k => XS.icmpNo X177.here hx rfl (hb hby at_141) rfl (teq (by decide : (1 : Int32) = (1 : Int32))).2 k) ?_
    show own_Goes p e below s _ _ (T177.setTop (mkF m 144 #[iv p0, rv b101, iv (2 : Int32), rv k2, iv (1 : Int32), iv (1 : Int32)] []))
    refine own_st (fun _ k => XS.iload X177.here hx rfl (hb hby at_144) rfl  k) ?_
    show own_Goes p e below s _ _ (T177.setTop (mkF m 146 #[iv p0, rv b101, iv (2 : Int32), rv k2, iv (1 : Int32), iv (1 : Int32)] [(.int (1 : Int32))]))
    refine own_st (fun _ k => XS.aloadN X177.here hx rfl (hb hby at_146) rfl rfl  k) ?_
    show own_Goes p e below s _ _ (T177.setTop (mkF m 147 #[iv p0, rv b101, iv (2 : Int32), rv k2, iv (1 : Int32), iv (1 : Int32)] [(.ref k2), (.int (1 : Int32))]))
    obtain ⟨v179, T179, L179, X179, Q179, st179⟩ := own_callV X177 hx hZ (C := "com/example/footprint_to_feed/footprinttofeed/SearchKey") (y := (⟨"com/example/footprint_to_feed/footprinttofeed/SearchKey", "parameter", "()Ljava/lang/String;"⟩ : MethodName)) hown (hw _ (List.mem_of_getElem? (i := 42) rfl)) (hw _ (List.mem_of_getElem? (i := 43) rfl)) (hw _ (List.mem_of_getElem? (i := 45) rfl)) (hw _ (List.mem_of_getElem? (i := 44) rfl)) (hw _ (List.mem_of_getElem? (i := 3) rfl)) (hw _ (List.mem_of_getElem? (i := 46) rfl)) (by decide) (W := 1) (rest := [(.int (1 : Int32))]) (argsL := []) (a := k2) (rmP0 l Z a0 hw [] k2 _ h161 n0 (by omega) f176) (by decide) (by decide) (by decide) (by decide) e177 f178 own_pd1 rfl (g := (mkF m 147 #[iv p0, rv b101, iv (2 : Int32), rv k2, iv (1 : Int32), iv (1 : Int32)] [(.ref k2), (.int (1 : Int32))])) rfl (by rw [hml]; rfl) rfl (by show 2 * 0 + _ ≤ _; exact Nat.le_of_eq rfl) (hb hby at_147)
    obtain ⟨rfl, N179q, e179⟩ := Q179
    have N179 := Fr.app N177 N179q
    refine own_st st179 ?_
    show own_Goes p e below s _ _ (T179.setTop (mkF m 150 #[iv p0, rv b101, iv (2 : Int32), rv k2, iv (1 : Int32), iv (1 : Int32)] [(.ref t2), (.int (1 : Int32))]))
    refine own_st (fun _ k => XS.ifnullNo X179.here hx rfl (hb hby at_150) rfl k) ?_
    show own_Goes p e below s _ _ (T179.setTop (mkF m 153 #[iv p0, rv b101, iv (2 : Int32), rv k2, iv (1 : Int32), iv (1 : Int32)] [(.int (1 : Int32))]))
    refine own_st (fun _ k => XS.iconst X179.here hx rfl (hb hby at_153) k) ?_
    show own_Goes p e below s _ _ (T179.setTop (mkF m 154 #[iv p0, rv b101, iv (2 : Int32), rv k2, iv (1 : Int32), iv (1 : Int32)] [(.int (1 : Int32)), (.int (1 : Int32))]))
    refine own_st (fun _ k => XS.goto X179.here hx rfl (pc0 := 154) (pc' := 158) rfl (hb hby at_154) (by decide) (by decide) k) ?_
    show own_Goes p e below s _ _ (T179.setTop (mkF m 158 #[iv p0, rv b101, iv (2 : Int32), rv k2, iv (1 : Int32), iv (1 : Int32)] [(.int (1 : Int32)), (.int (1 : Int32))]))
    refine own_st (fun _ k => XS.icmpNo X179.here hx rfl (hb hby at_158) rfl (teq (by decide : (1 : Int32) = (1 : Int32))).2 k) ?_
    show own_Goes p e below s _ _ (T179.setTop (mkF m 161 #[iv p0, rv b101, iv (2 : Int32), rv k2, iv (1 : Int32), iv (1 : Int32)] []))
    refine own_st (fun _ k => XS.iconst X179.here hx rfl (hb hby at_161) k) ?_
    show own_Goes p e below s _ _ (T179.setTop (mkF m 162 #[iv p0, rv b101, iv (2 : Int32), rv k2, iv (1 : Int32), iv (1 : Int32)] [(.int (1 : Int32))]))
    refine own_st (fun _ k => XS.goto X179.here hx rfl (pc0 := 162) (pc' := 166) rfl (hb hby at_162) (by decide) (by decide) k) ?_
    show own_Goes p e below s _ _ (T179.setTop (mkF m 166 #[iv p0, rv b101, iv (2 : Int32), rv k2, iv (1 : Int32), iv (1 : Int32)] [(.int (1 : Int32))]))
    exact own_retN X179 hx hlk (1 : Int32) hret (Or.inl rfl) rfl (hb hby at_166) (by decide) (by decide) ⟨rfl, N179⟩
  · show own_Goes p e below s _ _ (T161.setTop (mkF m 112 #[iv p0, rv b101, .unset, .unset, .unset, .unset] [(.int (3 : Int32))]))
    refine own_st (fun _ k => XS.istoreN X161.here hx rfl (hb hby at_112) rfl (l' := #[iv p0, rv b101, iv (3 : Int32), .unset, .unset, .unset]) rfl k) ?_
    show own_Goes p e below s _ _ (T161.setTop (mkF m 113 #[iv p0, rv b101, iv (3 : Int32), .unset, .unset, .unset] []))
    refine own_st (fun _ k => XS.aloadN X161.here hx rfl (hb hby at_113) rfl rfl  k) ?_
    show own_Goes p e below s _ _ (T161.setTop (mkF m 114 #[iv p0, rv b101, iv (3 : Int32), .unset, .unset, .unset] [(.ref b101)]))
    refine own_st (fun _ k => XS.iloadN X161.here hx rfl (hb hby at_114) rfl  k) ?_
    show own_Goes p e below s _ _ (T161.setTop (mkF m 115 #[iv p0, rv b101, iv (3 : Int32), .unset, .unset, .unset] [(.int (3 : Int32)), (.ref b101)]))
    refine own_st (fun _ k => own_ldR X161 hx hZ e161 rfl V161 (j := (3 : Int32)) (by decide) (g := (mkF m 115 #[iv p0, rv b101, iv (3 : Int32), .unset, .unset, .unset] [(.int (3 : Int32)), (.ref b101)])) rfl rfl (hb hby at_115) _ k) ?_
    show own_Goes p e below s _ _ (T161.setTop (mkF m 116 #[iv p0, rv b101, iv (3 : Int32), .unset, .unset, .unset] [(.ref k3)]))
    refine own_st (fun _ k => XS.astoreN X161.here hx rfl (hb hby at_116) rfl rfl (l' := #[iv p0, rv b101, iv (3 : Int32), rv k3, .unset, .unset]) rfl k) ?_
    show own_Goes p e below s _ _ (T161.setTop (mkF m 117 #[iv p0, rv b101, iv (3 : Int32), rv k3, .unset, .unset] []))
    have nek3 := own_one Ok3 Ok14 (by decide)
    refine own_st (fun _ k => XS.aloadN X161.here hx rfl (hb hby at_117) rfl rfl  k) ?_
    show own_Goes p e below s _ _ (T161.setTop (mkF m 118 #[iv p0, rv b101, iv (3 : Int32), rv k3, .unset, .unset] [(.ref k3)]))
    have f180 := (f158.wr W161)
    obtain ⟨T181, X181, e181, st181⟩ := getS2 X161 hx hZ hown (host := "") (Or.inl (hw _ (List.mem_of_getElem? (i := 32) rfl))) Via.refl e161 f180 (g := (mkF m 118 #[iv p0, rv b101, iv (3 : Int32), rv k3, .unset, .unset] [(.ref k3)])) rfl (hb hby at_118)
    refine own_st st181 ?_
    show own_Goes p e below s _ _ (T181.setTop (mkF m 121 #[iv p0, rv b101, iv (3 : Int32), rv k3, .unset, .unset] [(.ref k14), (.ref k3)]))
    refine own_st (fun _ k => Jvm.RoadKit.acmp (g := (mkF m 121 #[iv p0, rv b101, iv (3 : Int32), rv k3, .unset, .unset] [(.ref k14), (.ref k3)])) X181 hx rfl rfl rfl (pc0 := 121) (pc' := 124) (same := false) rfl (hb hby at_121) rfl (decide_eq_false fun q => nek3 (Value.ref.inj q)) (by decide) (by decide) k) ?_
    show own_Goes p e below s _ _ (T181.setTop (mkF m 124 #[iv p0, rv b101, iv (3 : Int32), rv k3, .unset, .unset] []))
    refine own_st (fun _ k => XS.iconst X181.here hx rfl (hb hby at_124) k) ?_
    show own_Goes p e below s _ _ (T181.setTop (mkF m 125 #[iv p0, rv b101, iv (3 : Int32), rv k3, .unset, .unset] [(.int (1 : Int32))]))
    refine own_st (fun _ k => XS.goto X181.here hx rfl (pc0 := 125) (pc' := 129) rfl (hb hby at_125) (by decide) (by decide) k) ?_
    show own_Goes p e below s _ _ (T181.setTop (mkF m 129 #[iv p0, rv b101, iv (3 : Int32), rv k3, .unset, .unset] [(.int (1 : Int32))]))
    refine own_st (fun _ k => XS.istore X181.here hx rfl (hb hby at_129) rfl (l' := #[iv p0, rv b101, iv (3 : Int32), rv k3, iv (1 : Int32), .unset]) rfl k) ?_
    show own_Goes p e below s _ _ (T181.setTop (mkF m 131 #[iv p0, rv b101, iv (3 : Int32), rv k3, iv (1 : Int32), .unset] []))
    refine own_st (fun _ k => XS.aloadN X181.here hx rfl (hb hby at_131) rfl rfl  k) ?_
    show own_Goes p e below s _ _ (T181.setTop (mkF m 132 #[iv p0, rv b101, iv (3 : Int32), rv k3, iv (1 : Int32), .unset] [(.ref k3)]))
    have f182 := ((((((((((((((((Fk3.ext E101).other W105 (Or.inl (own_ne (by omega)))).other W109 (Or.inl (own_ne (by omega)))).other W113 (Or.inl (own_ne (by omega)))).other W117 (Or.inl (own_ne (by omega)))).other W121 (Or.inl (own_ne (by omega)))).other W125 (Or.inl (own_ne (by omega)))).other W129 (Or.inl (own_ne (by omega)))).other W133 (Or.inl (own_ne (by omega)))).other W137 (Or.inl (own_ne (by omega)))).other W141 (Or.inl (own_ne (by omega)))).other W145 (Or.inl (own_ne (by omega)))).other W149 (Or.inl (own_ne (by omega)))).other W153 (Or.inl (own_ne (by omega)))).other W157 (Or.inl (own_ne (by omega)))).other W161 (Or.inl (own_ne (by omega))))
    have f184 := ((((((((((((f116.wr W117).wr W121).wr W125).wr W129).wr W133).wr W137).wr W141).wr W145).wr W149).wr W153).wr W157).wr W161)
    obtain ⟨v183, T183, L183, X183, Q183, st183⟩ := own_callV X181 hx hZ (C := "com/example/footprint_to_feed/footprinttofeed/SearchKey") (y := (⟨"com/example/footprint_to_feed/footprinttofeed/SearchKey", "bound", "()Z"⟩ : MethodName)) hown (hw _ (List.mem_of_getElem? (i := 35) rfl)) (hw _ (List.mem_of_getElem? (i := 36) rfl)) (hw _ (List.mem_of_getElem? (i := 38) rfl)) (hw _ (List.mem_of_getElem? (i := 37) rfl)) (hw _ (List.mem_of_getElem? (i := 3) rfl)) (hw _ (List.mem_of_getElem? (i := 39) rfl)) (by decide) (W := 0) (rest := []) (argsL := []) (a := k3) (rmB0 l Z a0 hw [] k3 _ h161 n0 (by omega) f182) (by decide) (by decide) (by decide) (by decide) e181 f184 own_pd0 rfl (g := (mkF m 132 #[iv p0, rv b101, iv (3 : Int32), rv k3, iv (1 : Int32), .unset] [(.ref k3)])) rfl (by rw [hml]; rfl) rfl (by show 2 * 0 + _ ≤ _; exact Nat.le_of_eq rfl) (hb hby at_132)
    obtain ⟨rfl, N183q, e183⟩ := Q183
    have N183 := Fr.app N161 N183q
    refine own_st st183 ?_
    show own_Goes p e below s _ _ (T183.setTop (mkF m 135 #[iv p0, rv b101, iv (3 : Int32), rv k3, iv (1 : Int32), .unset] [(.int (1 : Int32))]))
    refine own_st (fun _ k => XS.istore X183.here hx rfl (hb hby at_135) rfl (l' := #[iv p0, rv b101, iv (3 : Int32), rv k3, iv (1 : Int32), iv (1 : Int32)]) rfl k) ?_
    show own_Goes p e below s _ _ (T183.setTop (mkF m 137 #[iv p0, rv b101, iv (3 : Int32), rv k3, iv (1 : Int32), iv (1 : Int32)] []))
    refine own_st (fun _ k => XS.iload X183.here hx rfl (hb hby at_137) rfl  k) ?_
    show own_Goes p e below s _ _ (T183.setTop (mkF m 139 #[iv p0, rv b101, iv (3 : Int32), rv k3, iv (1 : Int32), iv (1 : Int32)] [(.int (1 : Int32))]))
    refine own_st (fun _ k => XS.iload X183.here hx rfl (hb hby at_139) rfl  k) ?_
    show own_Goes p e below s _ _ (T183.setTop (mkF m 141 #[iv p0, rv b101, iv (3 : Int32), rv k3, iv (1 : Int32), iv (1 : Int32)] [(.int (1 : Int32)), (.int (1 : Int32))]))
    refine own_st (fun _ k => XS.icmpNo X183.here hx rfl (hb hby at_141) rfl (teq (by decide : (1 : Int32) = (1 : Int32))).2 k) ?_
    show own_Goes p e below s _ _ (T183.setTop (mkF m 144 #[iv p0, rv b101, iv (3 : Int32), rv k3, iv (1 : Int32), iv (1 : Int32)] []))
    refine own_st (fun _ k => XS.iload X183.here hx rfl (hb hby at_144) rfl  k) ?_
    show own_Goes p e below s _ _ (T183.setTop (mkF m 146 #[iv p0, rv b101, iv (3 : Int32), rv k3, iv (1 : Int32), iv (1 : Int32)] [(.int (1 : Int32))]))
    refine own_st (fun _ k => XS.aloadN X183.here hx rfl (hb hby at_146) rfl rfl  k) ?_
    show own_Goes p e below s _ _ (T183.setTop (mkF m 147 #[iv p0, rv b101, iv (3 : Int32), rv k3, iv (1 : Int32), iv (1 : Int32)] [(.ref k3), (.int (1 : Int32))]))
    obtain ⟨v185, T185, L185, X185, Q185, st185⟩ := own_callV X183 hx hZ (C := "com/example/footprint_to_feed/footprinttofeed/SearchKey") (y := (⟨"com/example/footprint_to_feed/footprinttofeed/SearchKey", "parameter", "()Ljava/lang/String;"⟩ : MethodName)) hown (hw _ (List.mem_of_getElem? (i := 42) rfl)) (hw _ (List.mem_of_getElem? (i := 43) rfl)) (hw _ (List.mem_of_getElem? (i := 45) rfl)) (hw _ (List.mem_of_getElem? (i := 44) rfl)) (hw _ (List.mem_of_getElem? (i := 3) rfl)) (hw _ (List.mem_of_getElem? (i := 46) rfl)) (by decide) (W := 1) (rest := [(.int (1 : Int32))]) (argsL := []) (a := k3) (rmP0 l Z a0 hw [] k3 _ h161 n0 (by omega) f182) (by decide) (by decide) (by decide) (by decide) e183 f184 own_pd1 rfl (g := (mkF m 147 #[iv p0, rv b101, iv (3 : Int32), rv k3, iv (1 : Int32), iv (1 : Int32)] [(.ref k3), (.int (1 : Int32))])) rfl (by rw [hml]; rfl) rfl (by show 2 * 0 + _ ≤ _; exact Nat.le_of_eq rfl) (hb hby at_147)
    obtain ⟨rfl, N185q, e185⟩ := Q185
    have N185 := Fr.app N183 N185q
    refine own_st st185 ?_
    show own_Goes p e below s _ _ (T185.setTop (mkF m 150 #[iv p0, rv b101, iv (3 : Int32), rv k3, iv (1 : Int32), iv (1 : Int32)] [(.ref t3), (.int (1 : Int32))]))
    refine own_st (fun _ k => XS.ifnullNo X185.here hx rfl (hb hby at_150) rfl k) ?_
    show own_Goes p e below s _ _ (T185.setTop (mkF m 153 #[iv p0, rv b101, iv (3 : Int32), rv k3, iv (1 : Int32), iv (1 : Int32)] [(.int (1 : Int32))]))
    refine own_st (fun _ k => XS.iconst X185.here hx rfl (hb hby at_153) k) ?_
    show own_Goes p e below s _ _ (T185.setTop (mkF m 154 #[iv p0, rv b101, iv (3 : Int32), rv k3, iv (1 : Int32), iv (1 : Int32)] [(.int (1 : Int32)), (.int (1 : Int32))]))
    refine own_st (fun _ k => XS.goto X185.here hx rfl (pc0 := 154) (pc' := 158) rfl (hb hby at_154) (by decide) (by decide) k) ?_
    show own_Goes p e below s _ _ (T185.setTop (mkF m 158 #[iv p0, rv b101, iv (3 : Int32), rv k3, iv (1 : Int32), iv (1 : Int32)] [(.int (1 : Int32)), (.int (1 : Int32))]))
    refine own_st (fun _ k => XS.icmpNo X185.here hx rfl (hb hby at_158) rfl (teq (by decide : (1 : Int32) = (1 : Int32))).2 k) ?_
    show own_Goes p e below s _ _ (T185.setTop (mkF m 161 #[iv p0, rv b101, iv (3 : Int32), rv k3, iv (1 : Int32), iv (1 : Int32)] []))
    refine own_st (fun _ k => XS.iconst X185.here hx rfl (hb hby at_161) k) ?_
    show own_Goes p e below s _ _ (T185.setTop (mkF m 162 #[iv p0, rv b101, iv (3 : Int32), rv k3, iv (1 : Int32), iv (1 : Int32)] [(.int (1 : Int32))]))
    refine own_st (fun _ k => XS.goto X185.here hx rfl (pc0 := 162) (pc' := 166) rfl (hb hby at_162) (by decide) (by decide) k) ?_
    show own_Goes p e below s _ _ (T185.setTop (mkF m 166 #[iv p0, rv b101, iv (3 : Int32), rv k3, iv (1 : Int32), iv (1 : Int32)] [(.int (1 : Int32))]))
    exact own_retN X185 hx hlk (1 : Int32) hret (Or.inl rfl) rfl (hb hby at_166) (by decide) (by decide) ⟨rfl, N185⟩
  · show own_Goes p e below s _ _ (T161.setTop (mkF m 112 #[iv p0, rv b101, .unset, .unset, .unset, .unset] [(.int (4 : Int32))]))
    refine own_st (fun _ k => XS.istoreN X161.here hx rfl (hb hby at_112) rfl (l' := #[iv p0, rv b101, iv (4 : Int32), .unset, .unset, .unset]) rfl k) ?_
    show own_Goes p e below s _ _ (T161.setTop (mkF m 113 #[iv p0, rv b101, iv (4 : Int32), .unset, .unset, .unset] []))
    refine own_st (fun _ k => XS.aloadN X161.here hx rfl (hb hby at_113) rfl rfl  k) ?_
    show own_Goes p e below s _ _ (T161.setTop (mkF m 114 #[iv p0, rv b101, iv (4 : Int32), .unset, .unset, .unset] [(.ref b101)]))
    refine own_st (fun _ k => XS.iloadN X161.here hx rfl (hb hby at_114) rfl  k) ?_
    show own_Goes p e below s _ _ (T161.setTop (mkF m 115 #[iv p0, rv b101, iv (4 : Int32), .unset, .unset, .unset] [(.int (4 : Int32)), (.ref b101)]))
    refine own_st (fun _ k => own_ldR X161 hx hZ e161 rfl V161 (j := (4 : Int32)) (by decide) (g := (mkF m 115 #[iv p0, rv b101, iv (4 : Int32), .unset, .unset, .unset] [(.int (4 : Int32)), (.ref b101)])) rfl rfl (hb hby at_115) _ k) ?_
    show own_Goes p e below s _ _ (T161.setTop (mkF m 116 #[iv p0, rv b101, iv (4 : Int32), .unset, .unset, .unset] [(.ref k4)]))
    refine own_st (fun _ k => XS.astoreN X161.here hx rfl (hb hby at_116) rfl rfl (l' := #[iv p0, rv b101, iv (4 : Int32), rv k4, .unset, .unset]) rfl k) ?_
    show own_Goes p e below s _ _ (T161.setTop (mkF m 117 #[iv p0, rv b101, iv (4 : Int32), rv k4, .unset, .unset] []))
    have nek4 := own_one Ok4 Ok14 (by decide)
    refine own_st (fun _ k => XS.aloadN X161.here hx rfl (hb hby at_117) rfl rfl  k) ?_
    show own_Goes p e below s _ _ (T161.setTop (mkF m 118 #[iv p0, rv b101, iv (4 : Int32), rv k4, .unset, .unset] [(.ref k4)]))
    have f186 := (f158.wr W161)
    obtain ⟨T187, X187, e187, st187⟩ := getS2 X161 hx hZ hown (host := "") (Or.inl (hw _ (List.mem_of_getElem? (i := 32) rfl))) Via.refl e161 f186 (g := (mkF m 118 #[iv p0, rv b101, iv (4 : Int32), rv k4, .unset, .unset] [(.ref k4)])) rfl (hb hby at_118)
    refine own_st st187 ?_
    show own_Goes p e below s _ _ (T187.setTop (mkF m 121 #[iv p0, rv b101, iv (4 : Int32), rv k4, .unset, .unset] [(.ref k14), (.ref k4)]))
    refine own_st (fun _ k => Jvm.RoadKit.acmp (g := (mkF m 121 #[iv p0, rv b101, iv (4 : Int32), rv k4, .unset, .unset] [(.ref k14), (.ref k4)])) X187 hx rfl rfl rfl (pc0 := 121) (pc' := 124) (same := false) rfl (hb hby at_121) rfl (decide_eq_false fun q => nek4 (Value.ref.inj q)) (by decide) (by decide) k) ?_
    show own_Goes p e below s _ _ (T187.setTop (mkF m 124 #[iv p0, rv b101, iv (4 : Int32), rv k4, .unset, .unset] []))
    refine own_st (fun _ k => XS.iconst X187.here hx rfl (hb hby at_124) k) ?_
    show own_Goes p e below s _ _ (T187.setTop (mkF m 125 #[iv p0, rv b101, iv (4 : Int32), rv k4, .unset, .unset] [(.int (1 : Int32))]))
    refine own_st (fun _ k => XS.goto X187.here hx rfl (pc0 := 125) (pc' := 129) rfl (hb hby at_125) (by decide) (by decide) k) ?_
    show own_Goes p e below s _ _ (T187.setTop (mkF m 129 #[iv p0, rv b101, iv (4 : Int32), rv k4, .unset, .unset] [(.int (1 : Int32))]))
    refine own_st (fun _ k => XS.istore X187.here hx rfl (hb hby at_129) rfl (l' := #[iv p0, rv b101, iv (4 : Int32), rv k4, iv (1 : Int32), .unset]) rfl k) ?_
    show own_Goes p e below s _ _ (T187.setTop (mkF m 131 #[iv p0, rv b101, iv (4 : Int32), rv k4, iv (1 : Int32), .unset] []))
    refine own_st (fun _ k => XS.aloadN X187.here hx rfl (hb hby at_131) rfl rfl  k) ?_
    show own_Goes p e below s _ _ (T187.setTop (mkF m 132 #[iv p0, rv b101, iv (4 : Int32), rv k4, iv (1 : Int32), .unset] [(.ref k4)]))
    have f188 := ((((((((((((((((Fk4.ext E101).other W105 (Or.inl (own_ne (by omega)))).other W109 (Or.inl (own_ne (by omega)))).other W113 (Or.inl (own_ne (by omega)))).other W117 (Or.inl (own_ne (by omega)))).other W121 (Or.inl (own_ne (by omega)))).other W125 (Or.inl (own_ne (by omega)))).other W129 (Or.inl (own_ne (by omega)))).other W133 (Or.inl (own_ne (by omega)))).other W137 (Or.inl (own_ne (by omega)))).other W141 (Or.inl (own_ne (by omega)))).other W145 (Or.inl (own_ne (by omega)))).other W149 (Or.inl (own_ne (by omega)))).other W153 (Or.inl (own_ne (by omega)))).other W157 (Or.inl (own_ne (by omega)))).other W161 (Or.inl (own_ne (by omega))))
    have f190 := (((((((((((f120.wr W121).wr W125).wr W129).wr W133).wr W137).wr W141).wr W145).wr W149).wr W153).wr W157).wr W161)
    obtain ⟨v189, T189, L189, X189, Q189, st189⟩ := own_callV X187 hx hZ (C := "com/example/footprint_to_feed/footprinttofeed/SearchKey") (y := (⟨"com/example/footprint_to_feed/footprinttofeed/SearchKey", "bound", "()Z"⟩ : MethodName)) hown (hw _ (List.mem_of_getElem? (i := 35) rfl)) (hw _ (List.mem_of_getElem? (i := 36) rfl)) (hw _ (List.mem_of_getElem? (i := 38) rfl)) (hw _ (List.mem_of_getElem? (i := 37) rfl)) (hw _ (List.mem_of_getElem? (i := 3) rfl)) (hw _ (List.mem_of_getElem? (i := 39) rfl)) (by decide) (W := 0) (rest := []) (argsL := []) (a := k4) (rmB0 l Z a0 hw [] k4 _ h161 n0 (by omega) f188) (by decide) (by decide) (by decide) (by decide) e187 f190 own_pd0 rfl (g := (mkF m 132 #[iv p0, rv b101, iv (4 : Int32), rv k4, iv (1 : Int32), .unset] [(.ref k4)])) rfl (by rw [hml]; rfl) rfl (by show 2 * 0 + _ ≤ _; exact Nat.le_of_eq rfl) (hb hby at_132)
    obtain ⟨rfl, N189q, e189⟩ := Q189
    have N189 := Fr.app N161 N189q
    refine own_st st189 ?_
    show own_Goes p e below s _ _ (T189.setTop (mkF m 135 #[iv p0, rv b101, iv (4 : Int32), rv k4, iv (1 : Int32), .unset] [(.int (1 : Int32))]))
    refine own_st (fun _ k => XS.istore X189.here hx rfl (hb hby at_135) rfl (l' := #[iv p0, rv b101, iv (4 : Int32), rv k4, iv (1 : Int32), iv (1 : Int32)]) rfl k) ?_
    show own_Goes p e below s _ _ (T189.setTop (mkF m 137 #[iv p0, rv b101, iv (4 : Int32), rv k4, iv (1 : Int32), iv (1 : Int32)] []))
    refine own_st (fun _ k => XS.iload X189.here hx rfl (hb hby at_137) rfl  k) ?_
    show own_Goes p e below s _ _ (T189.setTop (mkF m 139 #[iv p0, rv b101, iv (4 : Int32), rv k4, iv (1 : Int32), iv (1 : Int32)] [(.int (1 : Int32))]))
    refine own_st (fun _ k => XS.iload X189.here hx rfl (hb hby at_139) rfl  k) ?_
    show own_Goes p e below s _ _ (T189.setTop (mkF m 141 #[iv p0, rv b101, iv (4 : Int32), rv k4, iv (1 : Int32), iv (1 : Int32)] [(.int (1 : Int32)), (.int (1 : Int32))]))
    refine own_st (fun _ k => XS.icmpNo X189.here hx rfl (hb hby at_141) rfl (teq (by decide : (1 : Int32) = (1 : Int32))).2 k) ?_
    show own_Goes p e below s _ _ (T189.setTop (mkF m 144 #[iv p0, rv b101, iv (4 : Int32), rv k4, iv (1 : Int32), iv (1 : Int32)] []))
    refine own_st (fun _ k => XS.iload X189.here hx rfl (hb hby at_144) rfl  k) ?_
    show own_Goes p e below s _ _ (T189.setTop (mkF m 146 #[iv p0, rv b101, iv (4 : Int32), rv k4, iv (1 : Int32), iv (1 : Int32)] [(.int (1 : Int32))]))
    refine own_st (fun _ k => XS.aloadN X189.here hx rfl (hb hby at_146) rfl rfl  k) ?_
    show own_Goes p e below s _ _ (T189.setTop (mkF m 147 #[iv p0, rv b101, iv (4 : Int32), rv k4, iv (1 : Int32), iv (1 : Int32)] [(.ref k4), (.int (1 : Int32))]))
    obtain ⟨v191, T191, L191, X191, Q191, st191⟩ := own_callV X189 hx hZ (C := "com/example/footprint_to_feed/footprinttofeed/SearchKey") (y := (⟨"com/example/footprint_to_feed/footprinttofeed/SearchKey", "parameter", "()Ljava/lang/String;"⟩ : MethodName)) hown (hw _ (List.mem_of_getElem? (i := 42) rfl)) (hw _ (List.mem_of_getElem? (i := 43) rfl)) (hw _ (List.mem_of_getElem? (i := 45) rfl)) (hw _ (List.mem_of_getElem? (i := 44) rfl)) (hw _ (List.mem_of_getElem? (i := 3) rfl)) (hw _ (List.mem_of_getElem? (i := 46) rfl)) (by decide) (W := 1) (rest := [(.int (1 : Int32))]) (argsL := []) (a := k4) (rmP0 l Z a0 hw [] k4 _ h161 n0 (by omega) f188) (by decide) (by decide) (by decide) (by decide) e189 f190 own_pd1 rfl (g := (mkF m 147 #[iv p0, rv b101, iv (4 : Int32), rv k4, iv (1 : Int32), iv (1 : Int32)] [(.ref k4), (.int (1 : Int32))])) rfl (by rw [hml]; rfl) rfl (by show 2 * 0 + _ ≤ _; exact Nat.le_of_eq rfl) (hb hby at_147)
    obtain ⟨rfl, N191q, e191⟩ := Q191
    have N191 := Fr.app N189 N191q
    refine own_st st191 ?_
    show own_Goes p e below s _ _ (T191.setTop (mkF m 150 #[iv p0, rv b101, iv (4 : Int32), rv k4, iv (1 : Int32), iv (1 : Int32)] [(.ref t4), (.int (1 : Int32))]))
    refine own_st (fun _ k => XS.ifnullNo X191.here hx rfl (hb hby at_150) rfl k) ?_
    show own_Goes p e below s _ _ (T191.setTop (mkF m 153 #[iv p0, rv b101, iv (4 : Int32), rv k4, iv (1 : Int32), iv (1 : Int32)] [(.int (1 : Int32))]))
    refine own_st (fun _ k => XS.iconst X191.here hx rfl (hb hby at_153) k) ?_
    show own_Goes p e below s _ _ (T191.setTop (mkF m 154 #[iv p0, rv b101, iv (4 : Int32), rv k4, iv (1 : Int32), iv (1 : Int32)] [(.int (1 : Int32)), (.int (1 : Int32))]))
    refine own_st (fun _ k => XS.goto X191.here hx rfl (pc0 := 154) (pc' := 158) rfl (hb hby at_154) (by decide) (by decide) k) ?_
    show own_Goes p e below s _ _ (T191.setTop (mkF m 158 #[iv p0, rv b101, iv (4 : Int32), rv k4, iv (1 : Int32), iv (1 : Int32)] [(.int (1 : Int32)), (.int (1 : Int32))]))
    refine own_st (fun _ k => XS.icmpNo X191.here hx rfl (hb hby at_158) rfl (teq (by decide : (1 : Int32) = (1 : Int32))).2 k) ?_
    show own_Goes p e below s _ _ (T191.setTop (mkF m 161 #[iv p0, rv b101, iv (4 : Int32), rv k4, iv (1 : Int32), iv (1 : Int32)] []))
    refine own_st (fun _ k => XS.iconst X191.here hx rfl (hb hby at_161) k) ?_
    show own_Goes p e below s _ _ (T191.setTop (mkF m 162 #[iv p0, rv b101, iv (4 : Int32), rv k4, iv (1 : Int32), iv (1 : Int32)] [(.int (1 : Int32))]))
    refine own_st (fun _ k => XS.goto X191.here hx rfl (pc0 := 162) (pc' := 166) rfl (hb hby at_162) (by decide) (by decide) k) ?_
    show own_Goes p e below s _ _ (T191.setTop (mkF m 166 #[iv p0, rv b101, iv (4 : Int32), rv k4, iv (1 : Int32), iv (1 : Int32)] [(.int (1 : Int32))]))
    exact own_retN X191 hx hlk (1 : Int32) hret (Or.inl rfl) rfl (hb hby at_166) (by decide) (by decide) ⟨rfl, N191⟩
  · show own_Goes p e below s _ _ (T161.setTop (mkF m 112 #[iv p0, rv b101, .unset, .unset, .unset, .unset] [(.int (5 : Int32))]))
    refine own_st (fun _ k => XS.istoreN X161.here hx rfl (hb hby at_112) rfl (l' := #[iv p0, rv b101, iv (5 : Int32), .unset, .unset, .unset]) rfl k) ?_
    show own_Goes p e below s _ _ (T161.setTop (mkF m 113 #[iv p0, rv b101, iv (5 : Int32), .unset, .unset, .unset] []))
    refine own_st (fun _ k => XS.aloadN X161.here hx rfl (hb hby at_113) rfl rfl  k) ?_
    show own_Goes p e below s _ _ (T161.setTop (mkF m 114 #[iv p0, rv b101, iv (5 : Int32), .unset, .unset, .unset] [(.ref b101)]))
    refine own_st (fun _ k => XS.iloadN X161.here hx rfl (hb hby at_114) rfl  k) ?_
    show own_Goes p e below s _ _ (T161.setTop (mkF m 115 #[iv p0, rv b101, iv (5 : Int32), .unset, .unset, .unset] [(.int (5 : Int32)), (.ref b101)]))
    refine own_st (fun _ k => own_ldR X161 hx hZ e161 rfl V161 (j := (5 : Int32)) (by decide) (g := (mkF m 115 #[iv p0, rv b101, iv (5 : Int32), .unset, .unset, .unset] [(.int (5 : Int32)), (.ref b101)])) rfl rfl (hb hby at_115) _ k) ?_
    show own_Goes p e below s _ _ (T161.setTop (mkF m 116 #[iv p0, rv b101, iv (5 : Int32), .unset, .unset, .unset] [(.ref k5)]))
    refine own_st (fun _ k => XS.astoreN X161.here hx rfl (hb hby at_116) rfl rfl (l' := #[iv p0, rv b101, iv (5 : Int32), rv k5, .unset, .unset]) rfl k) ?_
    show own_Goes p e below s _ _ (T161.setTop (mkF m 117 #[iv p0, rv b101, iv (5 : Int32), rv k5, .unset, .unset] []))
    have nek5 := own_one Ok5 Ok14 (by decide)
    refine own_st (fun _ k => XS.aloadN X161.here hx rfl (hb hby at_117) rfl rfl  k) ?_
    show own_Goes p e below s _ _ (T161.setTop (mkF m 118 #[iv p0, rv b101, iv (5 : Int32), rv k5, .unset, .unset] [(.ref k5)]))
    have f192 := (f158.wr W161)
    obtain ⟨T193, X193, e193, st193⟩ := getS2 X161 hx hZ hown (host := "") (Or.inl (hw _ (List.mem_of_getElem? (i := 32) rfl))) Via.refl e161 f192 (g := (mkF m 118 #[iv p0, rv b101, iv (5 : Int32), rv k5, .unset, .unset] [(.ref k5)])) rfl (hb hby at_118)
    refine own_st st193 ?_
    show own_Goes p e below s _ _ (T193.setTop (mkF m 121 #[iv p0, rv b101, iv (5 : Int32), rv k5, .unset, .unset] [(.ref k14), (.ref k5)]))
    refine own_st (fun _ k => Jvm.RoadKit.acmp (g := (mkF m 121 #[iv p0, rv b101, iv (5 : Int32), rv k5, .unset, .unset] [(.ref k14), (.ref k5)])) X193 hx rfl rfl rfl (pc0 := 121) (pc' := 124) (same := false) rfl (hb hby at_121) rfl (decide_eq_false fun q => nek5 (Value.ref.inj q)) (by decide) (by decide) k) ?_
    show own_Goes p e below s _ _ (T193.setTop (mkF m 124 #[iv p0, rv b101, iv (5 : Int32), rv k5, .unset, .unset] []))
    refine own_st (fun _ k => XS.iconst X193.here hx rfl (hb hby at_124) k) ?_
    show own_Goes p e below s _ _ (T193.setTop (mkF m 125 #[iv p0, rv b101, iv (5 : Int32), rv k5, .unset, .unset] [(.int (1 : Int32))]))
    refine own_st (fun _ k => XS.goto X193.here hx rfl (pc0 := 125) (pc' := 129) rfl (hb hby at_125) (by decide) (by decide) k) ?_
    show own_Goes p e below s _ _ (T193.setTop (mkF m 129 #[iv p0, rv b101, iv (5 : Int32), rv k5, .unset, .unset] [(.int (1 : Int32))]))
    refine own_st (fun _ k => XS.istore X193.here hx rfl (hb hby at_129) rfl (l' := #[iv p0, rv b101, iv (5 : Int32), rv k5, iv (1 : Int32), .unset]) rfl k) ?_
    show own_Goes p e below s _ _ (T193.setTop (mkF m 131 #[iv p0, rv b101, iv (5 : Int32), rv k5, iv (1 : Int32), .unset] []))
    refine own_st (fun _ k => XS.aloadN X193.here hx rfl (hb hby at_131) rfl rfl  k) ?_
    show own_Goes p e below s _ _ (T193.setTop (mkF m 132 #[iv p0, rv b101, iv (5 : Int32), rv k5, iv (1 : Int32), .unset] [(.ref k5)]))
    have f194 := ((((((((((((((((Fk5.ext E101).other W105 (Or.inl (own_ne (by omega)))).other W109 (Or.inl (own_ne (by omega)))).other W113 (Or.inl (own_ne (by omega)))).other W117 (Or.inl (own_ne (by omega)))).other W121 (Or.inl (own_ne (by omega)))).other W125 (Or.inl (own_ne (by omega)))).other W129 (Or.inl (own_ne (by omega)))).other W133 (Or.inl (own_ne (by omega)))).other W137 (Or.inl (own_ne (by omega)))).other W141 (Or.inl (own_ne (by omega)))).other W145 (Or.inl (own_ne (by omega)))).other W149 (Or.inl (own_ne (by omega)))).other W153 (Or.inl (own_ne (by omega)))).other W157 (Or.inl (own_ne (by omega)))).other W161 (Or.inl (own_ne (by omega))))
    have f196 := ((((((((((f124.wr W125).wr W129).wr W133).wr W137).wr W141).wr W145).wr W149).wr W153).wr W157).wr W161)
    obtain ⟨v195, T195, L195, X195, Q195, st195⟩ := own_callV X193 hx hZ (C := "com/example/footprint_to_feed/footprinttofeed/SearchKey") (y := (⟨"com/example/footprint_to_feed/footprinttofeed/SearchKey", "bound", "()Z"⟩ : MethodName)) hown (hw _ (List.mem_of_getElem? (i := 35) rfl)) (hw _ (List.mem_of_getElem? (i := 36) rfl)) (hw _ (List.mem_of_getElem? (i := 38) rfl)) (hw _ (List.mem_of_getElem? (i := 37) rfl)) (hw _ (List.mem_of_getElem? (i := 3) rfl)) (hw _ (List.mem_of_getElem? (i := 39) rfl)) (by decide) (W := 0) (rest := []) (argsL := []) (a := k5) (rmB0 l Z a0 hw [] k5 _ h161 n0 (by omega) f194) (by decide) (by decide) (by decide) (by decide) e193 f196 own_pd0 rfl (g := (mkF m 132 #[iv p0, rv b101, iv (5 : Int32), rv k5, iv (1 : Int32), .unset] [(.ref k5)])) rfl (by rw [hml]; rfl) rfl (by show 2 * 0 + _ ≤ _; exact Nat.le_of_eq rfl) (hb hby at_132)
    obtain ⟨rfl, N195q, e195⟩ := Q195
    have N195 := Fr.app N161 N195q
    refine own_st st195 ?_
    show own_Goes p e below s _ _ (T195.setTop (mkF m 135 #[iv p0, rv b101, iv (5 : Int32), rv k5, iv (1 : Int32), .unset] [(.int (1 : Int32))]))
    refine own_st (fun _ k => XS.istore X195.here hx rfl (hb hby at_135) rfl (l' := #[iv p0, rv b101, iv (5 : Int32), rv k5, iv (1 : Int32), iv (1 : Int32)]) rfl k) ?_
    show own_Goes p e below s _ _ (T195.setTop (mkF m 137 #[iv p0, rv b101, iv (5 : Int32), rv k5, iv (1 : Int32), iv (1 : Int32)] []))
    refine own_st (fun _ k => XS.iload X195.here hx rfl (hb hby at_137) rfl  k) ?_
    show own_Goes p e below s _ _ (T195.setTop (mkF m 139 #[iv p0, rv b101, iv (5 : Int32), rv k5, iv (1 : Int32), iv (1 : Int32)] [(.int (1 : Int32))]))
    refine own_st (fun _ k => XS.iload X195.here hx rfl (hb hby at_139) rfl  k) ?_
    show own_Goes p e below s _ _ (T195.setTop (mkF m 141 #[iv p0, rv b101, iv (5 : Int32), rv k5, iv (1 : Int32), iv (1 : Int32)] [(.int (1 : Int32)), (.int (1 : Int32))]))
    refine own_st (fun _ k => XS.icmpNo X195.here hx rfl (hb hby at_141) rfl (teq (by decide : (1 : Int32) = (1 : Int32))).2 k) ?_
    show own_Goes p e below s _ _ (T195.setTop (mkF m 144 #[iv p0, rv b101, iv (5 : Int32), rv k5, iv (1 : Int32), iv (1 : Int32)] []))
    refine own_st (fun _ k => XS.iload X195.here hx rfl (hb hby at_144) rfl  k) ?_
    show own_Goes p e below s _ _ (T195.setTop (mkF m 146 #[iv p0, rv b101, iv (5 : Int32), rv k5, iv (1 : Int32), iv (1 : Int32)] [(.int (1 : Int32))]))
    refine own_st (fun _ k => XS.aloadN X195.here hx rfl (hb hby at_146) rfl rfl  k) ?_
    show own_Goes p e below s _ _ (T195.setTop (mkF m 147 #[iv p0, rv b101, iv (5 : Int32), rv k5, iv (1 : Int32), iv (1 : Int32)] [(.ref k5), (.int (1 : Int32))]))
    obtain ⟨v197, T197, L197, X197, Q197, st197⟩ := own_callV X195 hx hZ (C := "com/example/footprint_to_feed/footprinttofeed/SearchKey") (y := (⟨"com/example/footprint_to_feed/footprinttofeed/SearchKey", "parameter", "()Ljava/lang/String;"⟩ : MethodName)) hown (hw _ (List.mem_of_getElem? (i := 42) rfl)) (hw _ (List.mem_of_getElem? (i := 43) rfl)) (hw _ (List.mem_of_getElem? (i := 45) rfl)) (hw _ (List.mem_of_getElem? (i := 44) rfl)) (hw _ (List.mem_of_getElem? (i := 3) rfl)) (hw _ (List.mem_of_getElem? (i := 46) rfl)) (by decide) (W := 1) (rest := [(.int (1 : Int32))]) (argsL := []) (a := k5) (rmP0 l Z a0 hw [] k5 _ h161 n0 (by omega) f194) (by decide) (by decide) (by decide) (by decide) e195 f196 own_pd1 rfl (g := (mkF m 147 #[iv p0, rv b101, iv (5 : Int32), rv k5, iv (1 : Int32), iv (1 : Int32)] [(.ref k5), (.int (1 : Int32))])) rfl (by rw [hml]; rfl) rfl (by show 2 * 0 + _ ≤ _; exact Nat.le_of_eq rfl) (hb hby at_147)
    obtain ⟨rfl, N197q, e197⟩ := Q197
    have N197 := Fr.app N195 N197q
    refine own_st st197 ?_
    show own_Goes p e below s _ _ (T197.setTop (mkF m 150 #[iv p0, rv b101, iv (5 : Int32), rv k5, iv (1 : Int32), iv (1 : Int32)] [(.ref t5), (.int (1 : Int32))]))
    refine own_st (fun _ k => XS.ifnullNo X197.here hx rfl (hb hby at_150) rfl k) ?_
    show own_Goes p e below s _ _ (T197.setTop (mkF m 153 #[iv p0, rv b101, iv (5 : Int32), rv k5, iv (1 : Int32), iv (1 : Int32)] [(.int (1 : Int32))]))
    refine own_st (fun _ k => XS.iconst X197.here hx rfl (hb hby at_153) k) ?_
    show own_Goes p e below s _ _ (T197.setTop (mkF m 154 #[iv p0, rv b101, iv (5 : Int32), rv k5, iv (1 : Int32), iv (1 : Int32)] [(.int (1 : Int32)), (.int (1 : Int32))]))
    refine own_st (fun _ k => XS.goto X197.here hx rfl (pc0 := 154) (pc' := 158) rfl (hb hby at_154) (by decide) (by decide) k) ?_
    show own_Goes p e below s _ _ (T197.setTop (mkF m 158 #[iv p0, rv b101, iv (5 : Int32), rv k5, iv (1 : Int32), iv (1 : Int32)] [(.int (1 : Int32)), (.int (1 : Int32))]))
    refine own_st (fun _ k => XS.icmpNo X197.here hx rfl (hb hby at_158) rfl (teq (by decide : (1 : Int32) = (1 : Int32))).2 k) ?_
    show own_Goes p e below s _ _ (T197.setTop (mkF m 161 #[iv p0, rv b101, iv (5 : Int32), rv k5, iv (1 : Int32), iv (1 : Int32)] []))
    refine own_st (fun _ k => XS.iconst X197.here hx rfl (hb hby at_161) k) ?_
    show own_Goes p e below s _ _ (T197.setTop (mkF m 162 #[iv p0, rv b101, iv (5 : Int32), rv k5, iv (1 : Int32), iv (1 : Int32)] [(.int (1 : Int32))]))
    refine own_st (fun _ k => XS.goto X197.here hx rfl (pc0 := 162) (pc' := 166) rfl (hb hby at_162) (by decide) (by decide) k) ?_
    show own_Goes p e below s _ _ (T197.setTop (mkF m 166 #[iv p0, rv b101, iv (5 : Int32), rv k5, iv (1 : Int32), iv (1 : Int32)] [(.int (1 : Int32))]))
    exact own_retN X197 hx hlk (1 : Int32) hret (Or.inl rfl) rfl (hb hby at_166) (by decide) (by decide) ⟨rfl, N197⟩
  · show own_Goes p e below s _ _ (T161.setTop (mkF m 112 #[iv p0, rv b101, .unset, .unset, .unset, .unset] [(.int (6 : Int32))]))
    refine own_st (fun _ k => XS.istoreN X161.here hx rfl (hb hby at_112) rfl (l' := #[iv p0, rv b101, iv (6 : Int32), .unset, .unset, .unset]) rfl k) ?_
    show own_Goes p e below s _ _ (T161.setTop (mkF m 113 #[iv p0, rv b101, iv (6 : Int32), .unset, .unset, .unset] []))
    refine own_st (fun _ k => XS.aloadN X161.here hx rfl (hb hby at_113) rfl rfl  k) ?_
    show own_Goes p e below s _ _ (T161.setTop (mkF m 114 #[iv p0, rv b101, iv (6 : Int32), .unset, .unset, .unset] [(.ref b101)]))
    refine own_st (fun _ k => XS.iloadN X161.here hx rfl (hb hby at_114) rfl  k) ?_
    show own_Goes p e below s _ _ (T161.setTop (mkF m 115 #[iv p0, rv b101, iv (6 : Int32), .unset, .unset, .unset] [(.int (6 : Int32)), (.ref b101)]))
    refine own_st (fun _ k => own_ldR X161 hx hZ e161 rfl V161 (j := (6 : Int32)) (by decide) (g := (mkF m 115 #[iv p0, rv b101, iv (6 : Int32), .unset, .unset, .unset] [(.int (6 : Int32)), (.ref b101)])) rfl rfl (hb hby at_115) _ k) ?_
    show own_Goes p e below s _ _ (T161.setTop (mkF m 116 #[iv p0, rv b101, iv (6 : Int32), .unset, .unset, .unset] [(.ref k6)]))
    refine own_st (fun _ k => XS.astoreN X161.here hx rfl (hb hby at_116) rfl rfl (l' := #[iv p0, rv b101, iv (6 : Int32), rv k6, .unset, .unset]) rfl k) ?_
    show own_Goes p e below s _ _ (T161.setTop (mkF m 117 #[iv p0, rv b101, iv (6 : Int32), rv k6, .unset, .unset] []))
    have nek6 := own_one Ok6 Ok14 (by decide)
    refine own_st (fun _ k => XS.aloadN X161.here hx rfl (hb hby at_117) rfl rfl  k) ?_
    show own_Goes p e below s _ _ (T161.setTop (mkF m 118 #[iv p0, rv b101, iv (6 : Int32), rv k6, .unset, .unset] [(.ref k6)]))
    have f198 := (f158.wr W161)
    obtain ⟨T199, X199, e199, st199⟩ := getS2 X161 hx hZ hown (host := "") (Or.inl (hw _ (List.mem_of_getElem? (i := 32) rfl))) Via.refl e161 f198 (g := (mkF m 118 #[iv p0, rv b101, iv (6 : Int32), rv k6, .unset, .unset] [(.ref k6)])) rfl (hb hby at_118)
    refine own_st st199 ?_
    show own_Goes p e below s _ _ (T199.setTop (mkF m 121 #[iv p0, rv b101, iv (6 : Int32), rv k6, .unset, .unset] [(.ref k14), (.ref k6)]))
    refine own_st (fun _ k => Jvm.RoadKit.acmp (g := (mkF m 121 #[iv p0, rv b101, iv (6 : Int32), rv k6, .unset, .unset] [(.ref k14), (.ref k6)])) X199 hx rfl rfl rfl (pc0 := 121) (pc' := 124) (same := false) rfl (hb hby at_121) rfl (decide_eq_false fun q => nek6 (Value.ref.inj q)) (by decide) (by decide) k) ?_
    show own_Goes p e below s _ _ (T199.setTop (mkF m 124 #[iv p0, rv b101, iv (6 : Int32), rv k6, .unset, .unset] []))
    refine own_st (fun _ k => XS.iconst X199.here hx rfl (hb hby at_124) k) ?_
    show own_Goes p e below s _ _ (T199.setTop (mkF m 125 #[iv p0, rv b101, iv (6 : Int32), rv k6, .unset, .unset] [(.int (1 : Int32))]))
    refine own_st (fun _ k => XS.goto X199.here hx rfl (pc0 := 125) (pc' := 129) rfl (hb hby at_125) (by decide) (by decide) k) ?_
    show own_Goes p e below s _ _ (T199.setTop (mkF m 129 #[iv p0, rv b101, iv (6 : Int32), rv k6, .unset, .unset] [(.int (1 : Int32))]))
    refine own_st (fun _ k => XS.istore X199.here hx rfl (hb hby at_129) rfl (l' := #[iv p0, rv b101, iv (6 : Int32), rv k6, iv (1 : Int32), .unset]) rfl k) ?_
    show own_Goes p e below s _ _ (T199.setTop (mkF m 131 #[iv p0, rv b101, iv (6 : Int32), rv k6, iv (1 : Int32), .unset] []))
    refine own_st (fun _ k => XS.aloadN X199.here hx rfl (hb hby at_131) rfl rfl  k) ?_
    show own_Goes p e below s _ _ (T199.setTop (mkF m 132 #[iv p0, rv b101, iv (6 : Int32), rv k6, iv (1 : Int32), .unset] [(.ref k6)]))
    have f200 := ((((((((((((((((Fk6.ext E101).other W105 (Or.inl (own_ne (by omega)))).other W109 (Or.inl (own_ne (by omega)))).other W113 (Or.inl (own_ne (by omega)))).other W117 (Or.inl (own_ne (by omega)))).other W121 (Or.inl (own_ne (by omega)))).other W125 (Or.inl (own_ne (by omega)))).other W129 (Or.inl (own_ne (by omega)))).other W133 (Or.inl (own_ne (by omega)))).other W137 (Or.inl (own_ne (by omega)))).other W141 (Or.inl (own_ne (by omega)))).other W145 (Or.inl (own_ne (by omega)))).other W149 (Or.inl (own_ne (by omega)))).other W153 (Or.inl (own_ne (by omega)))).other W157 (Or.inl (own_ne (by omega)))).other W161 (Or.inl (own_ne (by omega))))
    have f202 := (((((((((f128.wr W129).wr W133).wr W137).wr W141).wr W145).wr W149).wr W153).wr W157).wr W161)
    obtain ⟨v201, T201, L201, X201, Q201, st201⟩ := own_callV X199 hx hZ (C := "com/example/footprint_to_feed/footprinttofeed/SearchKey") (y := (⟨"com/example/footprint_to_feed/footprinttofeed/SearchKey", "bound", "()Z"⟩ : MethodName)) hown (hw _ (List.mem_of_getElem? (i := 35) rfl)) (hw _ (List.mem_of_getElem? (i := 36) rfl)) (hw _ (List.mem_of_getElem? (i := 38) rfl)) (hw _ (List.mem_of_getElem? (i := 37) rfl)) (hw _ (List.mem_of_getElem? (i := 3) rfl)) (hw _ (List.mem_of_getElem? (i := 39) rfl)) (by decide) (W := 0) (rest := []) (argsL := []) (a := k6) (rmB0 l Z a0 hw [] k6 _ h161 n0 (by omega) f200) (by decide) (by decide) (by decide) (by decide) e199 f202 own_pd0 rfl (g := (mkF m 132 #[iv p0, rv b101, iv (6 : Int32), rv k6, iv (1 : Int32), .unset] [(.ref k6)])) rfl (by rw [hml]; rfl) rfl (by show 2 * 0 + _ ≤ _; exact Nat.le_of_eq rfl) (hb hby at_132)
    obtain ⟨rfl, N201q, e201⟩ := Q201
    have N201 := Fr.app N161 N201q
    refine own_st st201 ?_
    show own_Goes p e below s _ _ (T201.setTop (mkF m 135 #[iv p0, rv b101, iv (6 : Int32), rv k6, iv (1 : Int32), .unset] [(.int (1 : Int32))]))
    refine own_st (fun _ k => XS.istore X201.here hx rfl (hb hby at_135) rfl (l' := #[iv p0, rv b101, iv (6 : Int32), rv k6, iv (1 : Int32), iv (1 : Int32)]) rfl k) ?_
    show own_Goes p e below s _ _ (T201.setTop (mkF m 137 #[iv p0, rv b101, iv (6 : Int32), rv k6, iv (1 : Int32), iv (1 : Int32)] []))
    refine own_st (fun _ k => XS.iload X201.here hx rfl (hb hby at_137) rfl  k) ?_
    show own_Goes p e below s _ _ (T201.setTop (mkF m 139 #[iv p0, rv b101, iv (6 : Int32), rv k6, iv (1 : Int32), iv (1 : Int32)] [(.int (1 : Int32))]))
    refine own_st (fun _ k => XS.iload X201.here hx rfl (hb hby at_139) rfl  k) ?_
    show own_Goes p e below s _ _ (T201.setTop (mkF m 141 #[iv p0, rv b101, iv (6 : Int32), rv k6, iv (1 : Int32), iv (1 : Int32)] [(.int (1 : Int32)), (.int (1 : Int32))]))
    refine own_st (fun _ k => XS.icmpNo X201.here hx rfl (hb hby at_141) rfl (teq (by decide : (1 : Int32) = (1 : Int32))).2 k) ?_
    show own_Goes p e below s _ _ (T201.setTop (mkF m 144 #[iv p0, rv b101, iv (6 : Int32), rv k6, iv (1 : Int32), iv (1 : Int32)] []))
    refine own_st (fun _ k => XS.iload X201.here hx rfl (hb hby at_144) rfl  k) ?_
    show own_Goes p e below s _ _ (T201.setTop (mkF m 146 #[iv p0, rv b101, iv (6 : Int32), rv k6, iv (1 : Int32), iv (1 : Int32)] [(.int (1 : Int32))]))
    refine own_st (fun _ k => XS.aloadN X201.here hx rfl (hb hby at_146) rfl rfl  k) ?_
    show own_Goes p e below s _ _ (T201.setTop (mkF m 147 #[iv p0, rv b101, iv (6 : Int32), rv k6, iv (1 : Int32), iv (1 : Int32)] [(.ref k6), (.int (1 : Int32))]))
    obtain ⟨v203, T203, L203, X203, Q203, st203⟩ := own_callV X201 hx hZ (C := "com/example/footprint_to_feed/footprinttofeed/SearchKey") (y := (⟨"com/example/footprint_to_feed/footprinttofeed/SearchKey", "parameter", "()Ljava/lang/String;"⟩ : MethodName)) hown (hw _ (List.mem_of_getElem? (i := 42) rfl)) (hw _ (List.mem_of_getElem? (i := 43) rfl)) (hw _ (List.mem_of_getElem? (i := 45) rfl)) (hw _ (List.mem_of_getElem? (i := 44) rfl)) (hw _ (List.mem_of_getElem? (i := 3) rfl)) (hw _ (List.mem_of_getElem? (i := 46) rfl)) (by decide) (W := 1) (rest := [(.int (1 : Int32))]) (argsL := []) (a := k6) (rmP0 l Z a0 hw [] k6 _ h161 n0 (by omega) f200) (by decide) (by decide) (by decide) (by decide) e201 f202 own_pd1 rfl (g := (mkF m 147 #[iv p0, rv b101, iv (6 : Int32), rv k6, iv (1 : Int32), iv (1 : Int32)] [(.ref k6), (.int (1 : Int32))])) rfl (by rw [hml]; rfl) rfl (by show 2 * 0 + _ ≤ _; exact Nat.le_of_eq rfl) (hb hby at_147)
    obtain ⟨rfl, N203q, e203⟩ := Q203
    have N203 := Fr.app N201 N203q
    refine own_st st203 ?_
    show own_Goes p e below s _ _ (T203.setTop (mkF m 150 #[iv p0, rv b101, iv (6 : Int32), rv k6, iv (1 : Int32), iv (1 : Int32)] [(.ref t6), (.int (1 : Int32))]))
    refine own_st (fun _ k => XS.ifnullNo X203.here hx rfl (hb hby at_150) rfl k) ?_
    show own_Goes p e below s _ _ (T203.setTop (mkF m 153 #[iv p0, rv b101, iv (6 : Int32), rv k6, iv (1 : Int32), iv (1 : Int32)] [(.int (1 : Int32))]))
    refine own_st (fun _ k => XS.iconst X203.here hx rfl (hb hby at_153) k) ?_
    show own_Goes p e below s _ _ (T203.setTop (mkF m 154 #[iv p0, rv b101, iv (6 : Int32), rv k6, iv (1 : Int32), iv (1 : Int32)] [(.int (1 : Int32)), (.int (1 : Int32))]))
    refine own_st (fun _ k => XS.goto X203.here hx rfl (pc0 := 154) (pc' := 158) rfl (hb hby at_154) (by decide) (by decide) k) ?_
    show own_Goes p e below s _ _ (T203.setTop (mkF m 158 #[iv p0, rv b101, iv (6 : Int32), rv k6, iv (1 : Int32), iv (1 : Int32)] [(.int (1 : Int32)), (.int (1 : Int32))]))
    refine own_st (fun _ k => XS.icmpNo X203.here hx rfl (hb hby at_158) rfl (teq (by decide : (1 : Int32) = (1 : Int32))).2 k) ?_
    show own_Goes p e below s _ _ (T203.setTop (mkF m 161 #[iv p0, rv b101, iv (6 : Int32), rv k6, iv (1 : Int32), iv (1 : Int32)] []))
    refine own_st (fun _ k => XS.iconst X203.here hx rfl (hb hby at_161) k) ?_
    show own_Goes p e below s _ _ (T203.setTop (mkF m 162 #[iv p0, rv b101, iv (6 : Int32), rv k6, iv (1 : Int32), iv (1 : Int32)] [(.int (1 : Int32))]))
    refine own_st (fun _ k => XS.goto X203.here hx rfl (pc0 := 162) (pc' := 166) rfl (hb hby at_162) (by decide) (by decide) k) ?_
    show own_Goes p e below s _ _ (T203.setTop (mkF m 166 #[iv p0, rv b101, iv (6 : Int32), rv k6, iv (1 : Int32), iv (1 : Int32)] [(.int (1 : Int32))]))
    exact own_retN X203 hx hlk (1 : Int32) hret (Or.inl rfl) rfl (hb hby at_166) (by decide) (by decide) ⟨rfl, N203⟩
  · show own_Goes p e below s _ _ (T161.setTop (mkF m 112 #[iv p0, rv b101, .unset, .unset, .unset, .unset] [(.int (7 : Int32))]))
    refine own_st (fun _ k => XS.istoreN X161.here hx rfl (hb hby at_112) rfl (l' := #[iv p0, rv b101, iv (7 : Int32), .unset, .unset, .unset]) rfl k) ?_
    show own_Goes p e below s _ _ (T161.setTop (mkF m 113 #[iv p0, rv b101, iv (7 : Int32), .unset, .unset, .unset] []))
    refine own_st (fun _ k => XS.aloadN X161.here hx rfl (hb hby at_113) rfl rfl  k) ?_
    show own_Goes p e below s _ _ (T161.setTop (mkF m 114 #[iv p0, rv b101, iv (7 : Int32), .unset, .unset, .unset] [(.ref b101)]))
    refine own_st (fun _ k => XS.iloadN X161.here hx rfl (hb hby at_114) rfl  k) ?_
    show own_Goes p e below s _ _ (T161.setTop (mkF m 115 #[iv p0, rv b101, iv (7 : Int32), .unset, .unset, .unset] [(.int (7 : Int32)), (.ref b101)]))
    refine own_st (fun _ k => own_ldR X161 hx hZ e161 rfl V161 (j := (7 : Int32)) (by decide) (g := (mkF m 115 #[iv p0, rv b101, iv (7 : Int32), .unset, .unset, .unset] [(.int (7 : Int32)), (.ref b101)])) rfl rfl (hb hby at_115) _ k) ?_
    show own_Goes p e below s _ _ (T161.setTop (mkF m 116 #[iv p0, rv b101, iv (7 : Int32), .unset, .unset, .unset] [(.ref k7)]))
    refine own_st (fun _ k => XS.astoreN X161.here hx rfl (hb hby at_116) rfl rfl (l' := #[iv p0, rv b101, iv (7 : Int32), rv k7, .unset, .unset]) rfl k) ?_
    show own_Goes p e below s _ _ (T161.setTop (mkF m 117 #[iv p0, rv b101, iv (7 : Int32), rv k7, .unset, .unset] []))
    have nek7 := own_one Ok7 Ok14 (by decide)
    refine own_st (fun _ k => XS.aloadN X161.here hx rfl (hb hby at_117) rfl rfl  k) ?_
    show own_Goes p e below s _ _ (T161.setTop (mkF m 118 #[iv p0, rv b101, iv (7 : Int32), rv k7, .unset, .unset] [(.ref k7)]))
    have f204 := (f158.wr W161)
    obtain ⟨T205, X205, e205, st205⟩ := getS2 X161 hx hZ hown (host := "") (Or.inl (hw _ (List.mem_of_getElem? (i := 32) rfl))) Via.refl e161 f204 (g := (mkF m 118 #[iv p0, rv b101, iv (7 : Int32), rv k7, .unset, .unset] [(.ref k7)])) rfl (hb hby at_118)
    refine own_st st205 ?_
    show own_Goes p e below s _ _ (T205.setTop (mkF m 121 #[iv p0, rv b101, iv (7 : Int32), rv k7, .unset, .unset] [(.ref k14), (.ref k7)]))
    refine own_st (fun _ k => Jvm.RoadKit.acmp (g := (mkF m 121 #[iv p0, rv b101, iv (7 : Int32), rv k7, .unset, .unset] [(.ref k14), (.ref k7)])) X205 hx rfl rfl rfl (pc0 := 121) (pc' := 124) (same := false) rfl (hb hby at_121) rfl (decide_eq_false fun q => nek7 (Value.ref.inj q)) (by decide) (by decide) k) ?_
    show own_Goes p e below s _ _ (T205.setTop (mkF m 124 #[iv p0, rv b101, iv (7 : Int32), rv k7, .unset, .unset] []))
    refine own_st (fun _ k => XS.iconst X205.here hx rfl (hb hby at_124) k) ?_
    show own_Goes p e below s _ _ (T205.setTop (mkF m 125 #[iv p0, rv b101, iv (7 : Int32), rv k7, .unset, .unset] [(.int (1 : Int32))]))
    refine own_st (fun _ k => XS.goto X205.here hx rfl (pc0 := 125) (pc' := 129) rfl (hb hby at_125) (by decide) (by decide) k) ?_
    show own_Goes p e below s _ _ (T205.setTop (mkF m 129 #[iv p0, rv b101, iv (7 : Int32), rv k7, .unset, .unset] [(.int (1 : Int32))]))
    refine own_st (fun _ k => XS.istore X205.here hx rfl (hb hby at_129) rfl (l' := #[iv p0, rv b101, iv (7 : Int32), rv k7, iv (1 : Int32), .unset]) rfl k) ?_
    show own_Goes p e below s _ _ (T205.setTop (mkF m 131 #[iv p0, rv b101, iv (7 : Int32), rv k7, iv (1 : Int32), .unset] []))
    refine own_st (fun _ k => XS.aloadN X205.here hx rfl (hb hby at_131) rfl rfl  k) ?_
    show own_Goes p e below s _ _ (T205.setTop (mkF m 132 #[iv p0, rv b101, iv (7 : Int32), rv k7, iv (1 : Int32), .unset] [(.ref k7)]))
    have f206 := ((((((((((((((((Fk7.ext E101).other W105 (Or.inl (own_ne (by omega)))).other W109 (Or.inl (own_ne (by omega)))).other W113 (Or.inl (own_ne (by omega)))).other W117 (Or.inl (own_ne (by omega)))).other W121 (Or.inl (own_ne (by omega)))).other W125 (Or.inl (own_ne (by omega)))).other W129 (Or.inl (own_ne (by omega)))).other W133 (Or.inl (own_ne (by omega)))).other W137 (Or.inl (own_ne (by omega)))).other W141 (Or.inl (own_ne (by omega)))).other W145 (Or.inl (own_ne (by omega)))).other W149 (Or.inl (own_ne (by omega)))).other W153 (Or.inl (own_ne (by omega)))).other W157 (Or.inl (own_ne (by omega)))).other W161 (Or.inl (own_ne (by omega))))
    have f208 := ((((((((f132.wr W133).wr W137).wr W141).wr W145).wr W149).wr W153).wr W157).wr W161)
    obtain ⟨v207, T207, L207, X207, Q207, st207⟩ := own_callV X205 hx hZ (C := "com/example/footprint_to_feed/footprinttofeed/SearchKey") (y := (⟨"com/example/footprint_to_feed/footprinttofeed/SearchKey", "bound", "()Z"⟩ : MethodName)) hown (hw _ (List.mem_of_getElem? (i := 35) rfl)) (hw _ (List.mem_of_getElem? (i := 36) rfl)) (hw _ (List.mem_of_getElem? (i := 38) rfl)) (hw _ (List.mem_of_getElem? (i := 37) rfl)) (hw _ (List.mem_of_getElem? (i := 3) rfl)) (hw _ (List.mem_of_getElem? (i := 39) rfl)) (by decide) (W := 0) (rest := []) (argsL := []) (a := k7) (rmB0 l Z a0 hw [] k7 _ h161 n0 (by omega) f206) (by decide) (by decide) (by decide) (by decide) e205 f208 own_pd0 rfl (g := (mkF m 132 #[iv p0, rv b101, iv (7 : Int32), rv k7, iv (1 : Int32), .unset] [(.ref k7)])) rfl (by rw [hml]; rfl) rfl (by show 2 * 0 + _ ≤ _; exact Nat.le_of_eq rfl) (hb hby at_132)
    obtain ⟨rfl, N207q, e207⟩ := Q207
    have N207 := Fr.app N161 N207q
    refine own_st st207 ?_
    show own_Goes p e below s _ _ (T207.setTop (mkF m 135 #[iv p0, rv b101, iv (7 : Int32), rv k7, iv (1 : Int32), .unset] [(.int (1 : Int32))]))
    refine own_st (fun _ k => XS.istore X207.here hx rfl (hb hby at_135) rfl (l' := #[iv p0, rv b101, iv (7 : Int32), rv k7, iv (1 : Int32), iv (1 : Int32)]) rfl k) ?_
    show own_Goes p e below s _ _ (T207.setTop (mkF m 137 #[iv p0, rv b101, iv (7 : Int32), rv k7, iv (1 : Int32), iv (1 : Int32)] []))
    refine own_st (fun _ k => XS.iload X207.here hx rfl (hb hby at_137) rfl  k) ?_
    show own_Goes p e below s _ _ (T207.setTop (mkF m 139 #[iv p0, rv b101, iv (7 : Int32), rv k7, iv (1 : Int32), iv (1 : Int32)] [(.int (1 : Int32))]))
    refine own_st (fun _ k => XS.iload X207.here hx rfl (hb hby at_139) rfl  k) ?_
    show own_Goes p e below s _ _ (T207.setTop (mkF m 141 #[iv p0, rv b101, iv (7 : Int32), rv k7, iv (1 : Int32), iv (1 : Int32)] [(.int (1 : Int32)), (.int (1 : Int32))]))
    refine own_st (fun _ k => XS.icmpNo X207.here hx rfl (hb hby at_141) rfl (teq (by decide : (1 : Int32) = (1 : Int32))).2 k) ?_
    show own_Goes p e below s _ _ (T207.setTop (mkF m 144 #[iv p0, rv b101, iv (7 : Int32), rv k7, iv (1 : Int32), iv (1 : Int32)] []))
    refine own_st (fun _ k => XS.iload X207.here hx rfl (hb hby at_144) rfl  k) ?_
    show own_Goes p e below s _ _ (T207.setTop (mkF m 146 #[iv p0, rv b101, iv (7 : Int32), rv k7, iv (1 : Int32), iv (1 : Int32)] [(.int (1 : Int32))]))
    refine own_st (fun _ k => XS.aloadN X207.here hx rfl (hb hby at_146) rfl rfl  k) ?_
    show own_Goes p e below s _ _ (T207.setTop (mkF m 147 #[iv p0, rv b101, iv (7 : Int32), rv k7, iv (1 : Int32), iv (1 : Int32)] [(.ref k7), (.int (1 : Int32))]))
    obtain ⟨v209, T209, L209, X209, Q209, st209⟩ := own_callV X207 hx hZ (C := "com/example/footprint_to_feed/footprinttofeed/SearchKey") (y := (⟨"com/example/footprint_to_feed/footprinttofeed/SearchKey", "parameter", "()Ljava/lang/String;"⟩ : MethodName)) hown (hw _ (List.mem_of_getElem? (i := 42) rfl)) (hw _ (List.mem_of_getElem? (i := 43) rfl)) (hw _ (List.mem_of_getElem? (i := 45) rfl)) (hw _ (List.mem_of_getElem? (i := 44) rfl)) (hw _ (List.mem_of_getElem? (i := 3) rfl)) (hw _ (List.mem_of_getElem? (i := 46) rfl)) (by decide) (W := 1) (rest := [(.int (1 : Int32))]) (argsL := []) (a := k7) (rmP0 l Z a0 hw [] k7 _ h161 n0 (by omega) f206) (by decide) (by decide) (by decide) (by decide) e207 f208 own_pd1 rfl (g := (mkF m 147 #[iv p0, rv b101, iv (7 : Int32), rv k7, iv (1 : Int32), iv (1 : Int32)] [(.ref k7), (.int (1 : Int32))])) rfl (by rw [hml]; rfl) rfl (by show 2 * 0 + _ ≤ _; exact Nat.le_of_eq rfl) (hb hby at_147)
    obtain ⟨rfl, N209q, e209⟩ := Q209
    have N209 := Fr.app N207 N209q
    refine own_st st209 ?_
    show own_Goes p e below s _ _ (T209.setTop (mkF m 150 #[iv p0, rv b101, iv (7 : Int32), rv k7, iv (1 : Int32), iv (1 : Int32)] [(.ref t7), (.int (1 : Int32))]))
    refine own_st (fun _ k => XS.ifnullNo X209.here hx rfl (hb hby at_150) rfl k) ?_
    show own_Goes p e below s _ _ (T209.setTop (mkF m 153 #[iv p0, rv b101, iv (7 : Int32), rv k7, iv (1 : Int32), iv (1 : Int32)] [(.int (1 : Int32))]))
    refine own_st (fun _ k => XS.iconst X209.here hx rfl (hb hby at_153) k) ?_
    show own_Goes p e below s _ _ (T209.setTop (mkF m 154 #[iv p0, rv b101, iv (7 : Int32), rv k7, iv (1 : Int32), iv (1 : Int32)] [(.int (1 : Int32)), (.int (1 : Int32))]))
    refine own_st (fun _ k => XS.goto X209.here hx rfl (pc0 := 154) (pc' := 158) rfl (hb hby at_154) (by decide) (by decide) k) ?_
    show own_Goes p e below s _ _ (T209.setTop (mkF m 158 #[iv p0, rv b101, iv (7 : Int32), rv k7, iv (1 : Int32), iv (1 : Int32)] [(.int (1 : Int32)), (.int (1 : Int32))]))
    refine own_st (fun _ k => XS.icmpNo X209.here hx rfl (hb hby at_158) rfl (teq (by decide : (1 : Int32) = (1 : Int32))).2 k) ?_
    show own_Goes p e below s _ _ (T209.setTop (mkF m 161 #[iv p0, rv b101, iv (7 : Int32), rv k7, iv (1 : Int32), iv (1 : Int32)] []))
    refine own_st (fun _ k => XS.iconst X209.here hx rfl (hb hby at_161) k) ?_
    show own_Goes p e below s _ _ (T209.setTop (mkF m 162 #[iv p0, rv b101, iv (7 : Int32), rv k7, iv (1 : Int32), iv (1 : Int32)] [(.int (1 : Int32))]))
    refine own_st (fun _ k => XS.goto X209.here hx rfl (pc0 := 162) (pc' := 166) rfl (hb hby at_162) (by decide) (by decide) k) ?_
    show own_Goes p e below s _ _ (T209.setTop (mkF m 166 #[iv p0, rv b101, iv (7 : Int32), rv k7, iv (1 : Int32), iv (1 : Int32)] [(.int (1 : Int32))]))
    exact own_retN X209 hx hlk (1 : Int32) hret (Or.inl rfl) rfl (hb hby at_166) (by decide) (by decide) ⟨rfl, N209⟩
  · show own_Goes p e below s _ _ (T161.setTop (mkF m 112 #[iv p0, rv b101, .unset, .unset, .unset, .unset] [(.int (8 : Int32))]))
    refine own_st (fun _ k => XS.istoreN X161.here hx rfl (hb hby at_112) rfl (l' := #[iv p0, rv b101, iv (8 : Int32), .unset, .unset, .unset]) rfl k) ?_
    show own_Goes p e below s _ _ (T161.setTop (mkF m 113 #[iv p0, rv b101, iv (8 : Int32), .unset, .unset, .unset] []))
    refine own_st (fun _ k => XS.aloadN X161.here hx rfl (hb hby at_113) rfl rfl  k) ?_
    show own_Goes p e below s _ _ (T161.setTop (mkF m 114 #[iv p0, rv b101, iv (8 : Int32), .unset, .unset, .unset] [(.ref b101)]))
    refine own_st (fun _ k => XS.iloadN X161.here hx rfl (hb hby at_114) rfl  k) ?_
    show own_Goes p e below s _ _ (T161.setTop (mkF m 115 #[iv p0, rv b101, iv (8 : Int32), .unset, .unset, .unset] [(.int (8 : Int32)), (.ref b101)]))
    refine own_st (fun _ k => own_ldR X161 hx hZ e161 rfl V161 (j := (8 : Int32)) (by decide) (g := (mkF m 115 #[iv p0, rv b101, iv (8 : Int32), .unset, .unset, .unset] [(.int (8 : Int32)), (.ref b101)])) rfl rfl (hb hby at_115) _ k) ?_
    show own_Goes p e below s _ _ (T161.setTop (mkF m 116 #[iv p0, rv b101, iv (8 : Int32), .unset, .unset, .unset] [(.ref k8)]))
    refine own_st (fun _ k => XS.astoreN X161.here hx rfl (hb hby at_116) rfl rfl (l' := #[iv p0, rv b101, iv (8 : Int32), rv k8, .unset, .unset]) rfl k) ?_
    show own_Goes p e below s _ _ (T161.setTop (mkF m 117 #[iv p0, rv b101, iv (8 : Int32), rv k8, .unset, .unset] []))
    have nek8 := own_one Ok8 Ok14 (by decide)
    refine own_st (fun _ k => XS.aloadN X161.here hx rfl (hb hby at_117) rfl rfl  k) ?_
    show own_Goes p e below s _ _ (T161.setTop (mkF m 118 #[iv p0, rv b101, iv (8 : Int32), rv k8, .unset, .unset] [(.ref k8)]))
    have f210 := (f158.wr W161)
    obtain ⟨T211, X211, e211, st211⟩ := getS2 X161 hx hZ hown (host := "") (Or.inl (hw _ (List.mem_of_getElem? (i := 32) rfl))) Via.refl e161 f210 (g := (mkF m 118 #[iv p0, rv b101, iv (8 : Int32), rv k8, .unset, .unset] [(.ref k8)])) rfl (hb hby at_118)
    refine own_st st211 ?_
    show own_Goes p e below s _ _ (T211.setTop (mkF m 121 #[iv p0, rv b101, iv (8 : Int32), rv k8, .unset, .unset] [(.ref k14), (.ref k8)]))
    refine own_st (fun _ k => Jvm.RoadKit.acmp (g := (mkF m 121 #[iv p0, rv b101, iv (8 : Int32), rv k8, .unset, .unset] [(.ref k14), (.ref k8)])) X211 hx rfl rfl rfl (pc0 := 121) (pc' := 124) (same := false) rfl (hb hby at_121) rfl (decide_eq_false fun q => nek8 (Value.ref.inj q)) (by decide) (by decide) k) ?_
    show own_Goes p e below s _ _ (T211.setTop (mkF m 124 #[iv p0, rv b101, iv (8 : Int32), rv k8, .unset, .unset] []))
    refine own_st (fun _ k => XS.iconst X211.here hx rfl (hb hby at_124) k) ?_
    show own_Goes p e below s _ _ (T211.setTop (mkF m 125 #[iv p0, rv b101, iv (8 : Int32), rv k8, .unset, .unset] [(.int (1 : Int32))]))
    refine own_st (fun _ k => XS.goto X211.here hx rfl (pc0 := 125) (pc' := 129) rfl (hb hby at_125) (by decide) (by decide) k) ?_
    show own_Goes p e below s _ _ (T211.setTop (mkF m 129 #[iv p0, rv b101, iv (8 : Int32), rv k8, .unset, .unset] [(.int (1 : Int32))]))
    refine own_st (fun _ k => XS.istore X211.here hx rfl (hb hby at_129) rfl (l' := #[iv p0, rv b101, iv (8 : Int32), rv k8, iv (1 : Int32), .unset]) rfl k) ?_
    show own_Goes p e below s _ _ (T211.setTop (mkF m 131 #[iv p0, rv b101, iv (8 : Int32), rv k8, iv (1 : Int32), .unset] []))
    refine own_st (fun _ k => XS.aloadN X211.here hx rfl (hb hby at_131) rfl rfl  k) ?_
    show own_Goes p e below s _ _ (T211.setTop (mkF m 132 #[iv p0, rv b101, iv (8 : Int32), rv k8, iv (1 : Int32), .unset] [(.ref k8)]))
    have f212 := ((((((((((((((((Fk8.ext E101).other W105 (Or.inl (own_ne (by omega)))).other W109 (Or.inl (own_ne (by omega)))).other W113 (Or.inl (own_ne (by omega)))).other W117 (Or.inl (own_ne (by omega)))).other W121 (Or.inl (own_ne (by omega)))).other W125 (Or.inl (own_ne (by omega)))).other W129 (Or.inl (own_ne (by omega)))).other W133 (Or.inl (own_ne (by omega)))).other W137 (Or.inl (own_ne (by omega)))).other W141 (Or.inl (own_ne (by omega)))).other W145 (Or.inl (own_ne (by omega)))).other W149 (Or.inl (own_ne (by omega)))).other W153 (Or.inl (own_ne (by omega)))).other W157 (Or.inl (own_ne (by omega)))).other W161 (Or.inl (own_ne (by omega))))
    have f214 := (((((((f136.wr W137).wr W141).wr W145).wr W149).wr W153).wr W157).wr W161)
    obtain ⟨v213, T213, L213, X213, Q213, st213⟩ := own_callV X211 hx hZ (C := "com/example/footprint_to_feed/footprinttofeed/SearchKey") (y := (⟨"com/example/footprint_to_feed/footprinttofeed/SearchKey", "bound", "()Z"⟩ : MethodName)) hown (hw _ (List.mem_of_getElem? (i := 35) rfl)) (hw _ (List.mem_of_getElem? (i := 36) rfl)) (hw _ (List.mem_of_getElem? (i := 38) rfl)) (hw _ (List.mem_of_getElem? (i := 37) rfl)) (hw _ (List.mem_of_getElem? (i := 3) rfl)) (hw _ (List.mem_of_getElem? (i := 39) rfl)) (by decide) (W := 0) (rest := []) (argsL := []) (a := k8) (rmB0 l Z a0 hw [] k8 _ h161 n0 (by omega) f212) (by decide) (by decide) (by decide) (by decide) e211 f214 own_pd0 rfl (g := (mkF m 132 #[iv p0, rv b101, iv (8 : Int32), rv k8, iv (1 : Int32), .unset] [(.ref k8)])) rfl (by rw [hml]; rfl) rfl (by show 2 * 0 + _ ≤ _; exact Nat.le_of_eq rfl) (hb hby at_132)
    obtain ⟨rfl, N213q, e213⟩ := Q213
    have N213 := Fr.app N161 N213q
    refine own_st st213 ?_
    show own_Goes p e below s _ _ (T213.setTop (mkF m 135 #[iv p0, rv b101, iv (8 : Int32), rv k8, iv (1 : Int32), .unset] [(.int (1 : Int32))]))
    refine own_st (fun _ k => XS.istore X213.here hx rfl (hb hby at_135) rfl (l' := #[iv p0, rv b101, iv (8 : Int32), rv k8, iv (1 : Int32), iv (1 : Int32)]) rfl k) ?_
    show own_Goes p e below s _ _ (T213.setTop (mkF m 137 #[iv p0, rv b101, iv (8 : Int32), rv k8, iv (1 : Int32), iv (1 : Int32)] []))
    refine own_st (fun _ k => XS.iload X213.here hx rfl (hb hby at_137) rfl  k) ?_
    show own_Goes p e below s _ _ (T213.setTop (mkF m 139 #[iv p0, rv b101, iv (8 : Int32), rv k8, iv (1 : Int32), iv (1 : Int32)] [(.int (1 : Int32))]))
    refine own_st (fun _ k => XS.iload X213.here hx rfl (hb hby at_139) rfl  k) ?_
    show own_Goes p e below s _ _ (T213.setTop (mkF m 141 #[iv p0, rv b101, iv (8 : Int32), rv k8, iv (1 : Int32), iv (1 : Int32)] [(.int (1 : Int32)), (.int (1 : Int32))]))
    refine own_st (fun _ k => XS.icmpNo X213.here hx rfl (hb hby at_141) rfl (teq (by decide : (1 : Int32) = (1 : Int32))).2 k) ?_
    show own_Goes p e below s _ _ (T213.setTop (mkF m 144 #[iv p0, rv b101, iv (8 : Int32), rv k8, iv (1 : Int32), iv (1 : Int32)] []))
    refine own_st (fun _ k => XS.iload X213.here hx rfl (hb hby at_144) rfl  k) ?_
    show own_Goes p e below s _ _ (T213.setTop (mkF m 146 #[iv p0, rv b101, iv (8 : Int32), rv k8, iv (1 : Int32), iv (1 : Int32)] [(.int (1 : Int32))]))
    refine own_st (fun _ k => XS.aloadN X213.here hx rfl (hb hby at_146) rfl rfl  k) ?_
    show own_Goes p e below s _ _ (T213.setTop (mkF m 147 #[iv p0, rv b101, iv (8 : Int32), rv k8, iv (1 : Int32), iv (1 : Int32)] [(.ref k8), (.int (1 : Int32))]))
    obtain ⟨v215, T215, L215, X215, Q215, st215⟩ := own_callV X213 hx hZ (C := "com/example/footprint_to_feed/footprinttofeed/SearchKey") (y := (⟨"com/example/footprint_to_feed/footprinttofeed/SearchKey", "parameter", "()Ljava/lang/String;"⟩ : MethodName)) hown (hw _ (List.mem_of_getElem? (i := 42) rfl)) (hw _ (List.mem_of_getElem? (i := 43) rfl)) (hw _ (List.mem_of_getElem? (i := 45) rfl)) (hw _ (List.mem_of_getElem? (i := 44) rfl)) (hw _ (List.mem_of_getElem? (i := 3) rfl)) (hw _ (List.mem_of_getElem? (i := 46) rfl)) (by decide) (W := 1) (rest := [(.int (1 : Int32))]) (argsL := []) (a := k8) (rmP0 l Z a0 hw [] k8 _ h161 n0 (by omega) f212) (by decide) (by decide) (by decide) (by decide) e213 f214 own_pd1 rfl (g := (mkF m 147 #[iv p0, rv b101, iv (8 : Int32), rv k8, iv (1 : Int32), iv (1 : Int32)] [(.ref k8), (.int (1 : Int32))])) rfl (by rw [hml]; rfl) rfl (by show 2 * 0 + _ ≤ _; exact Nat.le_of_eq rfl) (hb hby at_147)
    obtain ⟨rfl, N215q, e215⟩ := Q215
    have N215 := Fr.app N213 N215q
    refine own_st st215 ?_
    show own_Goes p e below s _ _ (T215.setTop (mkF m 150 #[iv p0, rv b101, iv (8 : Int32), rv k8, iv (1 : Int32), iv (1 : Int32)] [(.ref t8), (.int (1 : Int32))]))
    refine own_st (fun _ k => XS.ifnullNo X215.here hx rfl (hb hby at_150) rfl k) ?_
    show own_Goes p e below s _ _ (T215.setTop (mkF m 153 #[iv p0, rv b101, iv (8 : Int32), rv k8, iv (1 : Int32), iv (1 : Int32)] [(.int (1 : Int32))]))
    refine own_st (fun _ k => XS.iconst X215.here hx rfl (hb hby at_153) k) ?_
    show own_Goes p e below s _ _ (T215.setTop (mkF m 154 #[iv p0, rv b101, iv (8 : Int32), rv k8, iv (1 : Int32), iv (1 : Int32)] [(.int (1 : Int32)), (.int (1 : Int32))]))
    refine own_st (fun _ k => XS.goto X215.here hx rfl (pc0 := 154) (pc' := 158) rfl (hb hby at_154) (by decide) (by decide) k) ?_
    show own_Goes p e below s _ _ (T215.setTop (mkF m 158 #[iv p0, rv b101, iv (8 : Int32), rv k8, iv (1 : Int32), iv (1 : Int32)] [(.int (1 : Int32)), (.int (1 : Int32))]))
    refine own_st (fun _ k => XS.icmpNo X215.here hx rfl (hb hby at_158) rfl (teq (by decide : (1 : Int32) = (1 : Int32))).2 k) ?_
    show own_Goes p e below s _ _ (T215.setTop (mkF m 161 #[iv p0, rv b101, iv (8 : Int32), rv k8, iv (1 : Int32), iv (1 : Int32)] []))
    refine own_st (fun _ k => XS.iconst X215.here hx rfl (hb hby at_161) k) ?_
    show own_Goes p e below s _ _ (T215.setTop (mkF m 162 #[iv p0, rv b101, iv (8 : Int32), rv k8, iv (1 : Int32), iv (1 : Int32)] [(.int (1 : Int32))]))
    refine own_st (fun _ k => XS.goto X215.here hx rfl (pc0 := 162) (pc' := 166) rfl (hb hby at_162) (by decide) (by decide) k) ?_
    show own_Goes p e below s _ _ (T215.setTop (mkF m 166 #[iv p0, rv b101, iv (8 : Int32), rv k8, iv (1 : Int32), iv (1 : Int32)] [(.int (1 : Int32))]))
    exact own_retN X215 hx hlk (1 : Int32) hret (Or.inl rfl) rfl (hb hby at_166) (by decide) (by decide) ⟨rfl, N215⟩
  · show own_Goes p e below s _ _ (T161.setTop (mkF m 112 #[iv p0, rv b101, .unset, .unset, .unset, .unset] [(.int (9 : Int32))]))
    refine own_st (fun _ k => XS.istoreN X161.here hx rfl (hb hby at_112) rfl (l' := #[iv p0, rv b101, iv (9 : Int32), .unset, .unset, .unset]) rfl k) ?_
    show own_Goes p e below s _ _ (T161.setTop (mkF m 113 #[iv p0, rv b101, iv (9 : Int32), .unset, .unset, .unset] []))
    refine own_st (fun _ k => XS.aloadN X161.here hx rfl (hb hby at_113) rfl rfl  k) ?_
    show own_Goes p e below s _ _ (T161.setTop (mkF m 114 #[iv p0, rv b101, iv (9 : Int32), .unset, .unset, .unset] [(.ref b101)]))
    refine own_st (fun _ k => XS.iloadN X161.here hx rfl (hb hby at_114) rfl  k) ?_
    show own_Goes p e below s _ _ (T161.setTop (mkF m 115 #[iv p0, rv b101, iv (9 : Int32), .unset, .unset, .unset] [(.int (9 : Int32)), (.ref b101)]))
    refine own_st (fun _ k => own_ldR X161 hx hZ e161 rfl V161 (j := (9 : Int32)) (by decide) (g := (mkF m 115 #[iv p0, rv b101, iv (9 : Int32), .unset, .unset, .unset] [(.int (9 : Int32)), (.ref b101)])) rfl rfl (hb hby at_115) _ k) ?_
    show own_Goes p e below s _ _ (T161.setTop (mkF m 116 #[iv p0, rv b101, iv (9 : Int32), .unset, .unset, .unset] [(.ref k9)]))
    refine own_st (fun _ k => XS.astoreN X161.here hx rfl (hb hby at_116) rfl rfl (l' := #[iv p0, rv b101, iv (9 : Int32), rv k9, .unset, .unset]) rfl k) ?_
    show own_Goes p e below s _ _ (T161.setTop (mkF m 117 #[iv p0, rv b101, iv (9 : Int32), rv k9, .unset, .unset] []))
    have nek9 := own_one Ok9 Ok14 (by decide)
    refine own_st (fun _ k => XS.aloadN X161.here hx rfl (hb hby at_117) rfl rfl  k) ?_
    show own_Goes p e below s _ _ (T161.setTop (mkF m 118 #[iv p0, rv b101, iv (9 : Int32), rv k9, .unset, .unset] [(.ref k9)]))
    have f216 := (f158.wr W161)
    obtain ⟨T217, X217, e217, st217⟩ := getS2 X161 hx hZ hown (host := "") (Or.inl (hw _ (List.mem_of_getElem? (i := 32) rfl))) Via.refl e161 f216 (g := (mkF m 118 #[iv p0, rv b101, iv (9 : Int32), rv k9, .unset, .unset] [(.ref k9)])) rfl (hb hby at_118)
    refine own_st st217 ?_
    show own_Goes p e below s _ _ (T217.setTop (mkF m 121 #[iv p0, rv b101, iv (9 : Int32), rv k9, .unset, .unset] [(.ref k14), (.ref k9)]))
    refine own_st (fun _ k => Jvm.RoadKit.acmp (g := (mkF m 121 #[iv p0, rv b101, iv (9 : Int32), rv k9, .unset, .unset] [(.ref k14), (.ref k9)])) X217 hx rfl rfl rfl (pc0 := 121) (pc' := 124) (same := false) rfl (hb hby at_121) rfl (decide_eq_false fun q => nek9 (Value.ref.inj q)) (by decide) (by decide) k) ?_
    show own_Goes p e below s _ _ (T217.setTop (mkF m 124 #[iv p0, rv b101, iv (9 : Int32), rv k9, .unset, .unset] []))
    refine own_st (fun _ k => XS.iconst X217.here hx rfl (hb hby at_124) k) ?_
    show own_Goes p e below s _ _ (T217.setTop (mkF m 125 #[iv p0, rv b101, iv (9 : Int32), rv k9, .unset, .unset] [(.int (1 : Int32))]))
    refine own_st (fun _ k => XS.goto X217.here hx rfl (pc0 := 125) (pc' := 129) rfl (hb hby at_125) (by decide) (by decide) k) ?_
    show own_Goes p e below s _ _ (T217.setTop (mkF m 129 #[iv p0, rv b101, iv (9 : Int32), rv k9, .unset, .unset] [(.int (1 : Int32))]))
    refine own_st (fun _ k => XS.istore X217.here hx rfl (hb hby at_129) rfl (l' := #[iv p0, rv b101, iv (9 : Int32), rv k9, iv (1 : Int32), .unset]) rfl k) ?_
    show own_Goes p e below s _ _ (T217.setTop (mkF m 131 #[iv p0, rv b101, iv (9 : Int32), rv k9, iv (1 : Int32), .unset] []))
    refine own_st (fun _ k => XS.aloadN X217.here hx rfl (hb hby at_131) rfl rfl  k) ?_
    show own_Goes p e below s _ _ (T217.setTop (mkF m 132 #[iv p0, rv b101, iv (9 : Int32), rv k9, iv (1 : Int32), .unset] [(.ref k9)]))
    have f218 := ((((((((((((((((Fk9.ext E101).other W105 (Or.inl (own_ne (by omega)))).other W109 (Or.inl (own_ne (by omega)))).other W113 (Or.inl (own_ne (by omega)))).other W117 (Or.inl (own_ne (by omega)))).other W121 (Or.inl (own_ne (by omega)))).other W125 (Or.inl (own_ne (by omega)))).other W129 (Or.inl (own_ne (by omega)))).other W133 (Or.inl (own_ne (by omega)))).other W137 (Or.inl (own_ne (by omega)))).other W141 (Or.inl (own_ne (by omega)))).other W145 (Or.inl (own_ne (by omega)))).other W149 (Or.inl (own_ne (by omega)))).other W153 (Or.inl (own_ne (by omega)))).other W157 (Or.inl (own_ne (by omega)))).other W161 (Or.inl (own_ne (by omega))))
    have f220 := ((((((f140.wr W141).wr W145).wr W149).wr W153).wr W157).wr W161)
    obtain ⟨v219, T219, L219, X219, Q219, st219⟩ := own_callV X217 hx hZ (C := "com/example/footprint_to_feed/footprinttofeed/SearchKey") (y := (⟨"com/example/footprint_to_feed/footprinttofeed/SearchKey", "bound", "()Z"⟩ : MethodName)) hown (hw _ (List.mem_of_getElem? (i := 35) rfl)) (hw _ (List.mem_of_getElem? (i := 36) rfl)) (hw _ (List.mem_of_getElem? (i := 38) rfl)) (hw _ (List.mem_of_getElem? (i := 37) rfl)) (hw _ (List.mem_of_getElem? (i := 3) rfl)) (hw _ (List.mem_of_getElem? (i := 39) rfl)) (by decide) (W := 0) (rest := []) (argsL := []) (a := k9) (rmB0 l Z a0 hw [] k9 _ h161 n0 (by omega) f218) (by decide) (by decide) (by decide) (by decide) e217 f220 own_pd0 rfl (g := (mkF m 132 #[iv p0, rv b101, iv (9 : Int32), rv k9, iv (1 : Int32), .unset] [(.ref k9)])) rfl (by rw [hml]; rfl) rfl (by show 2 * 0 + _ ≤ _; exact Nat.le_of_eq rfl) (hb hby at_132)
    obtain ⟨rfl, N219q, e219⟩ := Q219
    have N219 := Fr.app N161 N219q
    refine own_st st219 ?_
    show own_Goes p e below s _ _ (T219.setTop (mkF m 135 #[iv p0, rv b101, iv (9 : Int32), rv k9, iv (1 : Int32), .unset] [(.int (1 : Int32))]))
    refine own_st (fun _ k => XS.istore X219.here hx rfl (hb hby at_135) rfl (l' := #[iv p0, rv b101, iv (9 : Int32), rv k9, iv (1 : Int32), iv (1 : Int32)]) rfl k) ?_
    show own_Goes p e below s _ _ (T219.setTop (mkF m 137 #[iv p0, rv b101, iv (9 : Int32), rv k9, iv (1 : Int32), iv (1 : Int32)] []))
    refine own_st (fun _ k => XS.iload X219.here hx rfl (hb hby at_137) rfl  k) ?_
    show own_Goes p e below s _ _ (T219.setTop (mkF m 139 #[iv p0, rv b101, iv (9 : Int32), rv k9, iv (1 : Int32), iv (1 : Int32)] [(.int (1 : Int32))]))
    refine own_st (fun _ k => XS.iload X219.here hx rfl (hb hby at_139) rfl  k) ?_
    show own_Goes p e below s _ _ (T219.setTop (mkF m 141 #[iv p0, rv b101, iv (9 : Int32), rv k9, iv (1 : Int32), iv (1 : Int32)] [(.int (1 : Int32)), (.int (1 : Int32))]))
    refine own_st (fun _ k => XS.icmpNo X219.here hx rfl (hb hby at_141) rfl (teq (by decide : (1 : Int32) = (1 : Int32))).2 k) ?_
    show own_Goes p e below s _ _ (T219.setTop (mkF m 144 #[iv p0, rv b101, iv (9 : Int32), rv k9, iv (1 : Int32), iv (1 : Int32)] []))
    refine own_st (fun _ k => XS.iload X219.here hx rfl (hb hby at_144) rfl  k) ?_
    show own_Goes p e below s _ _ (T219.setTop (mkF m 146 #[iv p0, rv b101, iv (9 : Int32), rv k9, iv (1 : Int32), iv (1 : Int32)] [(.int (1 : Int32))]))
    refine own_st (fun _ k => XS.aloadN X219.here hx rfl (hb hby at_146) rfl rfl  k) ?_
    show own_Goes p e below s _ _ (T219.setTop (mkF m 147 #[iv p0, rv b101, iv (9 : Int32), rv k9, iv (1 : Int32), iv (1 : Int32)] [(.ref k9), (.int (1 : Int32))]))
    obtain ⟨v221, T221, L221, X221, Q221, st221⟩ := own_callV X219 hx hZ (C := "com/example/footprint_to_feed/footprinttofeed/SearchKey") (y := (⟨"com/example/footprint_to_feed/footprinttofeed/SearchKey", "parameter", "()Ljava/lang/String;"⟩ : MethodName)) hown (hw _ (List.mem_of_getElem? (i := 42) rfl)) (hw _ (List.mem_of_getElem? (i := 43) rfl)) (hw _ (List.mem_of_getElem? (i := 45) rfl)) (hw _ (List.mem_of_getElem? (i := 44) rfl)) (hw _ (List.mem_of_getElem? (i := 3) rfl)) (hw _ (List.mem_of_getElem? (i := 46) rfl)) (by decide) (W := 1) (rest := [(.int (1 : Int32))]) (argsL := []) (a := k9) (rmP0 l Z a0 hw [] k9 _ h161 n0 (by omega) f218) (by decide) (by decide) (by decide) (by decide) e219 f220 own_pd1 rfl (g := (mkF m 147 #[iv p0, rv b101, iv (9 : Int32), rv k9, iv (1 : Int32), iv (1 : Int32)] [(.ref k9), (.int (1 : Int32))])) rfl (by rw [hml]; rfl) rfl (by show 2 * 0 + _ ≤ _; exact Nat.le_of_eq rfl) (hb hby at_147)
    obtain ⟨rfl, N221q, e221⟩ := Q221
    have N221 := Fr.app N219 N221q
    refine own_st st221 ?_
    show own_Goes p e below s _ _ (T221.setTop (mkF m 150 #[iv p0, rv b101, iv (9 : Int32), rv k9, iv (1 : Int32), iv (1 : Int32)] [(.ref t9), (.int (1 : Int32))]))
    refine own_st (fun _ k => XS.ifnullNo X221.here hx rfl (hb hby at_150) rfl k) ?_
    show own_Goes p e below s _ _ (T221.setTop (mkF m 153 #[iv p0, rv b101, iv (9 : Int32), rv k9, iv (1 : Int32), iv (1 : Int32)] [(.int (1 : Int32))]))
    refine own_st (fun _ k => XS.iconst X221.here hx rfl (hb hby at_153) k) ?_
    show own_Goes p e below s _ _ (T221.setTop (mkF m 154 #[iv p0, rv b101, iv (9 : Int32), rv k9, iv (1 : Int32), iv (1 : Int32)] [(.int (1 : Int32)), (.int (1 : Int32))]))
    refine own_st (fun _ k => XS.goto X221.here hx rfl (pc0 := 154) (pc' := 158) rfl (hb hby at_154) (by decide) (by decide) k) ?_
    show own_Goes p e below s _ _ (T221.setTop (mkF m 158 #[iv p0, rv b101, iv (9 : Int32), rv k9, iv (1 : Int32), iv (1 : Int32)] [(.int (1 : Int32)), (.int (1 : Int32))]))
    refine own_st (fun _ k => XS.icmpNo X221.here hx rfl (hb hby at_158) rfl (teq (by decide : (1 : Int32) = (1 : Int32))).2 k) ?_
    show own_Goes p e below s _ _ (T221.setTop (mkF m 161 #[iv p0, rv b101, iv (9 : Int32), rv k9, iv (1 : Int32), iv (1 : Int32)] []))
    refine own_st (fun _ k => XS.iconst X221.here hx rfl (hb hby at_161) k) ?_
    show own_Goes p e below s _ _ (T221.setTop (mkF m 162 #[iv p0, rv b101, iv (9 : Int32), rv k9, iv (1 : Int32), iv (1 : Int32)] [(.int (1 : Int32))]))
    refine own_st (fun _ k => XS.goto X221.here hx rfl (pc0 := 162) (pc' := 166) rfl (hb hby at_162) (by decide) (by decide) k) ?_
    show own_Goes p e below s _ _ (T221.setTop (mkF m 166 #[iv p0, rv b101, iv (9 : Int32), rv k9, iv (1 : Int32), iv (1 : Int32)] [(.int (1 : Int32))]))
    exact own_retN X221 hx hlk (1 : Int32) hret (Or.inl rfl) rfl (hb hby at_166) (by decide) (by decide) ⟨rfl, N221⟩
  · show own_Goes p e below s _ _ (T161.setTop (mkF m 112 #[iv p0, rv b101, .unset, .unset, .unset, .unset] [(.int (10 : Int32))]))
    refine own_st (fun _ k => XS.istoreN X161.here hx rfl (hb hby at_112) rfl (l' := #[iv p0, rv b101, iv (10 : Int32), .unset, .unset, .unset]) rfl k) ?_
    show own_Goes p e below s _ _ (T161.setTop (mkF m 113 #[iv p0, rv b101, iv (10 : Int32), .unset, .unset, .unset] []))
    refine own_st (fun _ k => XS.aloadN X161.here hx rfl (hb hby at_113) rfl rfl  k) ?_
    show own_Goes p e below s _ _ (T161.setTop (mkF m 114 #[iv p0, rv b101, iv (10 : Int32), .unset, .unset, .unset] [(.ref b101)]))
    refine own_st (fun _ k => XS.iloadN X161.here hx rfl (hb hby at_114) rfl  k) ?_
    show own_Goes p e below s _ _ (T161.setTop (mkF m 115 #[iv p0, rv b101, iv (10 : Int32), .unset, .unset, .unset] [(.int (10 : Int32)), (.ref b101)]))
    refine own_st (fun _ k => own_ldR X161 hx hZ e161 rfl V161 (j := (10 : Int32)) (by decide) (g := (mkF m 115 #[iv p0, rv b101, iv (10 : Int32), .unset, .unset, .unset] [(.int (10 : Int32)), (.ref b101)])) rfl rfl (hb hby at_115) _ k) ?_
    show own_Goes p e below s _ _ (T161.setTop (mkF m 116 #[iv p0, rv b101, iv (10 : Int32), .unset, .unset, .unset] [(.ref k10)]))
    refine own_st (fun _ k => XS.astoreN X161.here hx rfl (hb hby at_116) rfl rfl (l' := #[iv p0, rv b101, iv (10 : Int32), rv k10, .unset, .unset]) rfl k) ?_
    show own_Goes p e below s _ _ (T161.setTop (mkF m 117 #[iv p0, rv b101, iv (10 : Int32), rv k10, .unset, .unset] []))
    have nek10 := own_one Ok10 Ok14 (by decide)
    refine own_st (fun _ k => XS.aloadN X161.here hx rfl (hb hby at_117) rfl rfl  k) ?_
    show own_Goes p e below s _ _ (T161.setTop (mkF m 118 #[iv p0, rv b101, iv (10 : Int32), rv k10, .unset, .unset] [(.ref k10)]))
    have f222 := (f158.wr W161)
    obtain ⟨T223, X223, e223, st223⟩ := getS2 X161 hx hZ hown (host := "") (Or.inl (hw _ (List.mem_of_getElem? (i := 32) rfl))) Via.refl e161 f222 (g := (mkF m 118 #[iv p0, rv b101, iv (10 : Int32), rv k10, .unset, .unset] [(.ref k10)])) rfl (hb hby at_118)
    refine own_st st223 ?_
    show own_Goes p e below s _ _ (T223.setTop (mkF m 121 #[iv p0, rv b101, iv (10 : Int32), rv k10, .unset, .unset] [(.ref k14), (.ref k10)]))
    refine own_st (fun _ k => Jvm.RoadKit.acmp (g := (mkF m 121 #[iv p0, rv b101, iv (10 : Int32), rv k10, .unset, .unset] [(.ref k14), (.ref k10)])) X223 hx rfl rfl rfl (pc0 := 121) (pc' := 124) (same := false) rfl (hb hby at_121) rfl (decide_eq_false fun q => nek10 (Value.ref.inj q)) (by decide) (by decide) k) ?_
    show own_Goes p e below s _ _ (T223.setTop (mkF m 124 #[iv p0, rv b101, iv (10 : Int32), rv k10, .unset, .unset] []))
    refine own_st (fun _ k => XS.iconst X223.here hx rfl (hb hby at_124) k) ?_
    show own_Goes p e below s _ _ (T223.setTop (mkF m 125 #[iv p0, rv b101, iv (10 : Int32), rv k10, .unset, .unset] [(.int (1 : Int32))]))
    refine own_st (fun _ k => XS.goto X223.here hx rfl (pc0 := 125) (pc' := 129) rfl (hb hby at_125) (by decide) (by decide) k) ?_
    show own_Goes p e below s _ _ (T223.setTop (mkF m 129 #[iv p0, rv b101, iv (10 : Int32), rv k10, .unset, .unset] [(.int (1 : Int32))]))
    refine own_st (fun _ k => XS.istore X223.here hx rfl (hb hby at_129) rfl (l' := #[iv p0, rv b101, iv (10 : Int32), rv k10, iv (1 : Int32), .unset]) rfl k) ?_
    show own_Goes p e below s _ _ (T223.setTop (mkF m 131 #[iv p0, rv b101, iv (10 : Int32), rv k10, iv (1 : Int32), .unset] []))
    refine own_st (fun _ k => XS.aloadN X223.here hx rfl (hb hby at_131) rfl rfl  k) ?_
    show own_Goes p e below s _ _ (T223.setTop (mkF m 132 #[iv p0, rv b101, iv (10 : Int32), rv k10, iv (1 : Int32), .unset] [(.ref k10)]))
    have f224 := ((((((((((((((((Fk10.ext E101).other W105 (Or.inl (own_ne (by omega)))).other W109 (Or.inl (own_ne (by omega)))).other W113 (Or.inl (own_ne (by omega)))).other W117 (Or.inl (own_ne (by omega)))).other W121 (Or.inl (own_ne (by omega)))).other W125 (Or.inl (own_ne (by omega)))).other W129 (Or.inl (own_ne (by omega)))).other W133 (Or.inl (own_ne (by omega)))).other W137 (Or.inl (own_ne (by omega)))).other W141 (Or.inl (own_ne (by omega)))).other W145 (Or.inl (own_ne (by omega)))).other W149 (Or.inl (own_ne (by omega)))).other W153 (Or.inl (own_ne (by omega)))).other W157 (Or.inl (own_ne (by omega)))).other W161 (Or.inl (own_ne (by omega))))
    have f226 := (((((f144.wr W145).wr W149).wr W153).wr W157).wr W161)
    obtain ⟨v225, T225, L225, X225, Q225, st225⟩ := own_callV X223 hx hZ (C := "com/example/footprint_to_feed/footprinttofeed/SearchKey") (y := (⟨"com/example/footprint_to_feed/footprinttofeed/SearchKey", "bound", "()Z"⟩ : MethodName)) hown (hw _ (List.mem_of_getElem? (i := 35) rfl)) (hw _ (List.mem_of_getElem? (i := 36) rfl)) (hw _ (List.mem_of_getElem? (i := 38) rfl)) (hw _ (List.mem_of_getElem? (i := 37) rfl)) (hw _ (List.mem_of_getElem? (i := 3) rfl)) (hw _ (List.mem_of_getElem? (i := 39) rfl)) (by decide) (W := 0) (rest := []) (argsL := []) (a := k10) (rmB0 l Z a0 hw [] k10 _ h161 n0 (by omega) f224) (by decide) (by decide) (by decide) (by decide) e223 f226 own_pd0 rfl (g := (mkF m 132 #[iv p0, rv b101, iv (10 : Int32), rv k10, iv (1 : Int32), .unset] [(.ref k10)])) rfl (by rw [hml]; rfl) rfl (by show 2 * 0 + _ ≤ _; exact Nat.le_of_eq rfl) (hb hby at_132)
    obtain ⟨rfl, N225q, e225⟩ := Q225
    have N225 := Fr.app N161 N225q
    refine own_st st225 ?_
    show own_Goes p e below s _ _ (T225.setTop (mkF m 135 #[iv p0, rv b101, iv (10 : Int32), rv k10, iv (1 : Int32), .unset] [(.int (1 : Int32))]))
    refine own_st (fun _ k => XS.istore X225.here hx rfl (hb hby at_135) rfl (l' := #[iv p0, rv b101, iv (10 : Int32), rv k10, iv (1 : Int32), iv (1 : Int32)]) rfl k) ?_
    show own_Goes p e below s _ _ (T225.setTop (mkF m 137 #[iv p0, rv b101, iv (10 : Int32), rv k10, iv (1 : Int32), iv (1 : Int32)] []))
    refine own_st (fun _ k => XS.iload X225.here hx rfl (hb hby at_137) rfl  k) ?_
    show own_Goes p e below s _ _ (T225.setTop (mkF m 139 #[iv p0, rv b101, iv (10 : Int32), rv k10, iv (1 : Int32), iv (1 : Int32)] [(.int (1 : Int32))]))
    refine own_st (fun _ k => XS.iload X225.here hx rfl (hb hby at_139) rfl  k) ?_
    show own_Goes p e below s _ _ (T225.setTop (mkF m 141 #[iv p0, rv b101, iv (10 : Int32), rv k10, iv (1 : Int32), iv (1 : Int32)] [(.int (1 : Int32)), (.int (1 : Int32))]))
    refine own_st (fun _ k => XS.icmpNo X225.here hx rfl (hb hby at_141) rfl (teq (by decide : (1 : Int32) = (1 : Int32))).2 k) ?_
    show own_Goes p e below s _ _ (T225.setTop (mkF m 144 #[iv p0, rv b101, iv (10 : Int32), rv k10, iv (1 : Int32), iv (1 : Int32)] []))
    refine own_st (fun _ k => XS.iload X225.here hx rfl (hb hby at_144) rfl  k) ?_
    show own_Goes p e below s _ _ (T225.setTop (mkF m 146 #[iv p0, rv b101, iv (10 : Int32), rv k10, iv (1 : Int32), iv (1 : Int32)] [(.int (1 : Int32))]))
    refine own_st (fun _ k => XS.aloadN X225.here hx rfl (hb hby at_146) rfl rfl  k) ?_
    show own_Goes p e below s _ _ (T225.setTop (mkF m 147 #[iv p0, rv b101, iv (10 : Int32), rv k10, iv (1 : Int32), iv (1 : Int32)] [(.ref k10), (.int (1 : Int32))]))
    obtain ⟨v227, T227, L227, X227, Q227, st227⟩ := own_callV X225 hx hZ (C := "com/example/footprint_to_feed/footprinttofeed/SearchKey") (y := (⟨"com/example/footprint_to_feed/footprinttofeed/SearchKey", "parameter", "()Ljava/lang/String;"⟩ : MethodName)) hown (hw _ (List.mem_of_getElem? (i := 42) rfl)) (hw _ (List.mem_of_getElem? (i := 43) rfl)) (hw _ (List.mem_of_getElem? (i := 45) rfl)) (hw _ (List.mem_of_getElem? (i := 44) rfl)) (hw _ (List.mem_of_getElem? (i := 3) rfl)) (hw _ (List.mem_of_getElem? (i := 46) rfl)) (by decide) (W := 1) (rest := [(.int (1 : Int32))]) (argsL := []) (a := k10) (rmP0 l Z a0 hw [] k10 _ h161 n0 (by omega) f224) (by decide) (by decide) (by decide) (by decide) e225 f226 own_pd1 rfl (g := (mkF m 147 #[iv p0, rv b101, iv (10 : Int32), rv k10, iv (1 : Int32), iv (1 : Int32)] [(.ref k10), (.int (1 : Int32))])) rfl (by rw [hml]; rfl) rfl (by show 2 * 0 + _ ≤ _; exact Nat.le_of_eq rfl) (hb hby at_147)
    obtain ⟨rfl, N227q, e227⟩ := Q227
    have N227 := Fr.app N225 N227q
    refine own_st st227 ?_
    show own_Goes p e below s _ _ (T227.setTop (mkF m 150 #[iv p0, rv b101, iv (10 : Int32), rv k10, iv (1 : Int32), iv (1 : Int32)] [(.ref t10), (.int (1 : Int32))]))
    refine own_st (fun _ k => XS.ifnullNo X227.here hx rfl (hb hby at_150) rfl k) ?_
    show own_Goes p e below s _ _ (T227.setTop (mkF m 153 #[iv p0, rv b101, iv (10 : Int32), rv k10, iv (1 : Int32), iv (1 : Int32)] [(.int (1 : Int32))]))
    refine own_st (fun _ k => XS.iconst X227.here hx rfl (hb hby at_153) k) ?_
    show own_Goes p e below s _ _ (T227.setTop (mkF m 154 #[iv p0, rv b101, iv (10 : Int32), rv k10, iv (1 : Int32), iv (1 : Int32)] [(.int (1 : Int32)), (.int (1 : Int32))]))
    refine own_st (fun _ k => XS.goto X227.here hx rfl (pc0 := 154) (pc' := 158) rfl (hb hby at_154) (by decide) (by decide) k) ?_
    show own_Goes p e below s _ _ (T227.setTop (mkF m 158 #[iv p0, rv b101, iv (10 : Int32), rv k10, iv (1 : Int32), iv (1 : Int32)] [(.int (1 : Int32)), (.int (1 : Int32))]))
    refine own_st (fun _ k => XS.icmpNo X227.here hx rfl (hb hby at_158) rfl (teq (by decide : (1 : Int32) = (1 : Int32))).2 k) ?_
    show own_Goes p e below s _ _ (T227.setTop (mkF m 161 #[iv p0, rv b101, iv (10 : Int32), rv k10, iv (1 : Int32), iv (1 : Int32)] []))
    refine own_st (fun _ k => XS.iconst X227.here hx rfl (hb hby at_161) k) ?_
    show own_Goes p e below s _ _ (T227.setTop (mkF m 162 #[iv p0, rv b101, iv (10 : Int32), rv k10, iv (1 : Int32), iv (1 : Int32)] [(.int (1 : Int32))]))
    refine own_st (fun _ k => XS.goto X227.here hx rfl (pc0 := 162) (pc' := 166) rfl (hb hby at_162) (by decide) (by decide) k) ?_
    show own_Goes p e below s _ _ (T227.setTop (mkF m 166 #[iv p0, rv b101, iv (10 : Int32), rv k10, iv (1 : Int32), iv (1 : Int32)] [(.int (1 : Int32))]))
    exact own_retN X227 hx hlk (1 : Int32) hret (Or.inl rfl) rfl (hb hby at_166) (by decide) (by decide) ⟨rfl, N227⟩
  · show own_Goes p e below s _ _ (T161.setTop (mkF m 112 #[iv p0, rv b101, .unset, .unset, .unset, .unset] [(.int (11 : Int32))]))
    refine own_st (fun _ k => XS.istoreN X161.here hx rfl (hb hby at_112) rfl (l' := #[iv p0, rv b101, iv (11 : Int32), .unset, .unset, .unset]) rfl k) ?_
    show own_Goes p e below s _ _ (T161.setTop (mkF m 113 #[iv p0, rv b101, iv (11 : Int32), .unset, .unset, .unset] []))
    refine own_st (fun _ k => XS.aloadN X161.here hx rfl (hb hby at_113) rfl rfl  k) ?_
    show own_Goes p e below s _ _ (T161.setTop (mkF m 114 #[iv p0, rv b101, iv (11 : Int32), .unset, .unset, .unset] [(.ref b101)]))
    refine own_st (fun _ k => XS.iloadN X161.here hx rfl (hb hby at_114) rfl  k) ?_
    show own_Goes p e below s _ _ (T161.setTop (mkF m 115 #[iv p0, rv b101, iv (11 : Int32), .unset, .unset, .unset] [(.int (11 : Int32)), (.ref b101)]))
    refine own_st (fun _ k => own_ldR X161 hx hZ e161 rfl V161 (j := (11 : Int32)) (by decide) (g := (mkF m 115 #[iv p0, rv b101, iv (11 : Int32), .unset, .unset, .unset] [(.int (11 : Int32)), (.ref b101)])) rfl rfl (hb hby at_115) _ k) ?_
    show own_Goes p e below s _ _ (T161.setTop (mkF m 116 #[iv p0, rv b101, iv (11 : Int32), .unset, .unset, .unset] [(.ref k11)]))
    refine own_st (fun _ k => XS.astoreN X161.here hx rfl (hb hby at_116) rfl rfl (l' := #[iv p0, rv b101, iv (11 : Int32), rv k11, .unset, .unset]) rfl k) ?_
    show own_Goes p e below s _ _ (T161.setTop (mkF m 117 #[iv p0, rv b101, iv (11 : Int32), rv k11, .unset, .unset] []))
    have nek11 := own_one Ok11 Ok14 (by decide)
    refine own_st (fun _ k => XS.aloadN X161.here hx rfl (hb hby at_117) rfl rfl  k) ?_
    show own_Goes p e below s _ _ (T161.setTop (mkF m 118 #[iv p0, rv b101, iv (11 : Int32), rv k11, .unset, .unset] [(.ref k11)]))
    have f228 := (f158.wr W161)
    obtain ⟨T229, X229, e229, st229⟩ := getS2 X161 hx hZ hown (host := "") (Or.inl (hw _ (List.mem_of_getElem? (i := 32) rfl))) Via.refl e161 f228 (g := (mkF m 118 #[iv p0, rv b101, iv (11 : Int32), rv k11, .unset, .unset] [(.ref k11)])) rfl (hb hby at_118)
    refine own_st st229 ?_
    show own_Goes p e below s _ _ (T229.setTop (mkF m 121 #[iv p0, rv b101, iv (11 : Int32), rv k11, .unset, .unset] [(.ref k14), (.ref k11)]))
    refine own_st (fun _ k => Jvm.RoadKit.acmp (g := (mkF m 121 #[iv p0, rv b101, iv (11 : Int32), rv k11, .unset, .unset] [(.ref k14), (.ref k11)])) X229 hx rfl rfl rfl (pc0 := 121) (pc' := 124) (same := false) rfl (hb hby at_121) rfl (decide_eq_false fun q => nek11 (Value.ref.inj q)) (by decide) (by decide) k) ?_
    show own_Goes p e below s _ _ (T229.setTop (mkF m 124 #[iv p0, rv b101, iv (11 : Int32), rv k11, .unset, .unset] []))
    refine own_st (fun _ k => XS.iconst X229.here hx rfl (hb hby at_124) k) ?_
    show own_Goes p e below s _ _ (T229.setTop (mkF m 125 #[iv p0, rv b101, iv (11 : Int32), rv k11, .unset, .unset] [(.int (1 : Int32))]))
    refine own_st (fun _ k => XS.goto X229.here hx rfl (pc0 := 125) (pc' := 129) rfl (hb hby at_125) (by decide) (by decide) k) ?_
    show own_Goes p e below s _ _ (T229.setTop (mkF m 129 #[iv p0, rv b101, iv (11 : Int32), rv k11, .unset, .unset] [(.int (1 : Int32))]))
    refine own_st (fun _ k => XS.istore X229.here hx rfl (hb hby at_129) rfl (l' := #[iv p0, rv b101, iv (11 : Int32), rv k11, iv (1 : Int32), .unset]) rfl k) ?_
    show own_Goes p e below s _ _ (T229.setTop (mkF m 131 #[iv p0, rv b101, iv (11 : Int32), rv k11, iv (1 : Int32), .unset] []))
    refine own_st (fun _ k => XS.aloadN X229.here hx rfl (hb hby at_131) rfl rfl  k) ?_
    show own_Goes p e below s _ _ (T229.setTop (mkF m 132 #[iv p0, rv b101, iv (11 : Int32), rv k11, iv (1 : Int32), .unset] [(.ref k11)]))
    have f230 := ((((((((((((((((Fk11.ext E101).other W105 (Or.inl (own_ne (by omega)))).other W109 (Or.inl (own_ne (by omega)))).other W113 (Or.inl (own_ne (by omega)))).other W117 (Or.inl (own_ne (by omega)))).other W121 (Or.inl (own_ne (by omega)))).other W125 (Or.inl (own_ne (by omega)))).other W129 (Or.inl (own_ne (by omega)))).other W133 (Or.inl (own_ne (by omega)))).other W137 (Or.inl (own_ne (by omega)))).other W141 (Or.inl (own_ne (by omega)))).other W145 (Or.inl (own_ne (by omega)))).other W149 (Or.inl (own_ne (by omega)))).other W153 (Or.inl (own_ne (by omega)))).other W157 (Or.inl (own_ne (by omega)))).other W161 (Or.inl (own_ne (by omega))))
    have f232 := ((((f148.wr W149).wr W153).wr W157).wr W161)
    obtain ⟨v231, T231, L231, X231, Q231, st231⟩ := own_callV X229 hx hZ (C := "com/example/footprint_to_feed/footprinttofeed/SearchKey") (y := (⟨"com/example/footprint_to_feed/footprinttofeed/SearchKey", "bound", "()Z"⟩ : MethodName)) hown (hw _ (List.mem_of_getElem? (i := 35) rfl)) (hw _ (List.mem_of_getElem? (i := 36) rfl)) (hw _ (List.mem_of_getElem? (i := 38) rfl)) (hw _ (List.mem_of_getElem? (i := 37) rfl)) (hw _ (List.mem_of_getElem? (i := 3) rfl)) (hw _ (List.mem_of_getElem? (i := 39) rfl)) (by decide) (W := 0) (rest := []) (argsL := []) (a := k11) (rmB0 l Z a0 hw [] k11 _ h161 n0 (by omega) f230) (by decide) (by decide) (by decide) (by decide) e229 f232 own_pd0 rfl (g := (mkF m 132 #[iv p0, rv b101, iv (11 : Int32), rv k11, iv (1 : Int32), .unset] [(.ref k11)])) rfl (by rw [hml]; rfl) rfl (by show 2 * 0 + _ ≤ _; exact Nat.le_of_eq rfl) (hb hby at_132)
    obtain ⟨rfl, N231q, e231⟩ := Q231
    have N231 := Fr.app N161 N231q
    refine own_st st231 ?_
    show own_Goes p e below s _ _ (T231.setTop (mkF m 135 #[iv p0, rv b101, iv (11 : Int32), rv k11, iv (1 : Int32), .unset] [(.int (1 : Int32))]))
    refine own_st (fun _ k => XS.istore X231.here hx rfl (hb hby at_135) rfl (l' := #[iv p0, rv b101, iv (11 : Int32), rv k11, iv (1 : Int32), iv (1 : Int32)]) rfl k) ?_
    show own_Goes p e below s _ _ (T231.setTop (mkF m 137 #[iv p0, rv b101, iv (11 : Int32), rv k11, iv (1 : Int32), iv (1 : Int32)] []))
    refine own_st (fun _ k => XS.iload X231.here hx rfl (hb hby at_137) rfl  k) ?_
    show own_Goes p e below s _ _ (T231.setTop (mkF m 139 #[iv p0, rv b101, iv (11 : Int32), rv k11, iv (1 : Int32), iv (1 : Int32)] [(.int (1 : Int32))]))
    refine own_st (fun _ k => XS.iload X231.here hx rfl (hb hby at_139) rfl  k) ?_
    show own_Goes p e below s _ _ (T231.setTop (mkF m 141 #[iv p0, rv b101, iv (11 : Int32), rv k11, iv (1 : Int32), iv (1 : Int32)] [(.int (1 : Int32)), (.int (1 : Int32))]))
    refine own_st (fun _ k => XS.icmpNo X231.here hx rfl (hb hby at_141) rfl (teq (by decide : (1 : Int32) = (1 : Int32))).2 k) ?_
    show own_Goes p e below s _ _ (T231.setTop (mkF m 144 #[iv p0, rv b101, iv (11 : Int32), rv k11, iv (1 : Int32), iv (1 : Int32)] []))
    refine own_st (fun _ k => XS.iload X231.here hx rfl (hb hby at_144) rfl  k) ?_
    show own_Goes p e below s _ _ (T231.setTop (mkF m 146 #[iv p0, rv b101, iv (11 : Int32), rv k11, iv (1 : Int32), iv (1 : Int32)] [(.int (1 : Int32))]))
    refine own_st (fun _ k => XS.aloadN X231.here hx rfl (hb hby at_146) rfl rfl  k) ?_
    show own_Goes p e below s _ _ (T231.setTop (mkF m 147 #[iv p0, rv b101, iv (11 : Int32), rv k11, iv (1 : Int32), iv (1 : Int32)] [(.ref k11), (.int (1 : Int32))]))
    obtain ⟨v233, T233, L233, X233, Q233, st233⟩ := own_callV X231 hx hZ (C := "com/example/footprint_to_feed/footprinttofeed/SearchKey") (y := (⟨"com/example/footprint_to_feed/footprinttofeed/SearchKey", "parameter", "()Ljava/lang/String;"⟩ : MethodName)) hown (hw _ (List.mem_of_getElem? (i := 42) rfl)) (hw _ (List.mem_of_getElem? (i := 43) rfl)) (hw _ (List.mem_of_getElem? (i := 45) rfl)) (hw _ (List.mem_of_getElem? (i := 44) rfl)) (hw _ (List.mem_of_getElem? (i := 3) rfl)) (hw _ (List.mem_of_getElem? (i := 46) rfl)) (by decide) (W := 1) (rest := [(.int (1 : Int32))]) (argsL := []) (a := k11) (rmP0 l Z a0 hw [] k11 _ h161 n0 (by omega) f230) (by decide) (by decide) (by decide) (by decide) e231 f232 own_pd1 rfl (g := (mkF m 147 #[iv p0, rv b101, iv (11 : Int32), rv k11, iv (1 : Int32), iv (1 : Int32)] [(.ref k11), (.int (1 : Int32))])) rfl (by rw [hml]; rfl) rfl (by show 2 * 0 + _ ≤ _; exact Nat.le_of_eq rfl) (hb hby at_147)
    obtain ⟨rfl, N233q, e233⟩ := Q233
    have N233 := Fr.app N231 N233q
    refine own_st st233 ?_
    show own_Goes p e below s _ _ (T233.setTop (mkF m 150 #[iv p0, rv b101, iv (11 : Int32), rv k11, iv (1 : Int32), iv (1 : Int32)] [(.ref t11), (.int (1 : Int32))]))
    refine own_st (fun _ k => XS.ifnullNo X233.here hx rfl (hb hby at_150) rfl k) ?_
    show own_Goes p e below s _ _ (T233.setTop (mkF m 153 #[iv p0, rv b101, iv (11 : Int32), rv k11, iv (1 : Int32), iv (1 : Int32)] [(.int (1 : Int32))]))
    refine own_st (fun _ k => XS.iconst X233.here hx rfl (hb hby at_153) k) ?_
    show own_Goes p e below s _ _ (T233.setTop (mkF m 154 #[iv p0, rv b101, iv (11 : Int32), rv k11, iv (1 : Int32), iv (1 : Int32)] [(.int (1 : Int32)), (.int (1 : Int32))]))
    refine own_st (fun _ k => XS.goto X233.here hx rfl (pc0 := 154) (pc' := 158) rfl (hb hby at_154) (by decide) (by decide) k) ?_
    show own_Goes p e below s _ _ (T233.setTop (mkF m 158 #[iv p0, rv b101, iv (11 : Int32), rv k11, iv (1 : Int32), iv (1 : Int32)] [(.int (1 : Int32)), (.int (1 : Int32))]))
    refine own_st (fun _ k => XS.icmpNo X233.here hx rfl (hb hby at_158) rfl (teq (by decide : (1 : Int32) = (1 : Int32))).2 k) ?_
    show own_Goes p e below s _ _ (T233.setTop (mkF m 161 #[iv p0, rv b101, iv (11 : Int32), rv k11, iv (1 : Int32), iv (1 : Int32)] []))
    refine own_st (fun _ k => XS.iconst X233.here hx rfl (hb hby at_161) k) ?_
    show own_Goes p e below s _ _ (T233.setTop (mkF m 162 #[iv p0, rv b101, iv (11 : Int32), rv k11, iv (1 : Int32), iv (1 : Int32)] [(.int (1 : Int32))]))
    refine own_st (fun _ k => XS.goto X233.here hx rfl (pc0 := 162) (pc' := 166) rfl (hb hby at_162) (by decide) (by decide) k) ?_
    show own_Goes p e below s _ _ (T233.setTop (mkF m 166 #[iv p0, rv b101, iv (11 : Int32), rv k11, iv (1 : Int32), iv (1 : Int32)] [(.int (1 : Int32))]))
    exact own_retN X233 hx hlk (1 : Int32) hret (Or.inl rfl) rfl (hb hby at_166) (by decide) (by decide) ⟨rfl, N233⟩
  · show own_Goes p e below s _ _ (T161.setTop (mkF m 112 #[iv p0, rv b101, .unset, .unset, .unset, .unset] [(.int (12 : Int32))]))
    refine own_st (fun _ k => XS.istoreN X161.here hx rfl (hb hby at_112) rfl (l' := #[iv p0, rv b101, iv (12 : Int32), .unset, .unset, .unset]) rfl k) ?_
    show own_Goes p e below s _ _ (T161.setTop (mkF m 113 #[iv p0, rv b101, iv (12 : Int32), .unset, .unset, .unset] []))
    refine own_st (fun _ k => XS.aloadN X161.here hx rfl (hb hby at_113) rfl rfl  k) ?_
    show own_Goes p e below s _ _ (T161.setTop (mkF m 114 #[iv p0, rv b101, iv (12 : Int32), .unset, .unset, .unset] [(.ref b101)]))
    refine own_st (fun _ k => XS.iloadN X161.here hx rfl (hb hby at_114) rfl  k) ?_
    show own_Goes p e below s _ _ (T161.setTop (mkF m 115 #[iv p0, rv b101, iv (12 : Int32), .unset, .unset, .unset] [(.int (12 : Int32)), (.ref b101)]))
    refine own_st (fun _ k => own_ldR X161 hx hZ e161 rfl V161 (j := (12 : Int32)) (by decide) (g := (mkF m 115 #[iv p0, rv b101, iv (12 : Int32), .unset, .unset, .unset] [(.int (12 : Int32)), (.ref b101)])) rfl rfl (hb hby at_115) _ k) ?_
    show own_Goes p e below s _ _ (T161.setTop (mkF m 116 #[iv p0, rv b101, iv (12 : Int32), .unset, .unset, .unset] [(.ref k12)]))
    refine own_st (fun _ k => XS.astoreN X161.here hx rfl (hb hby at_116) rfl rfl (l' := #[iv p0, rv b101, iv (12 : Int32), rv k12, .unset, .unset]) rfl k) ?_
    show own_Goes p e below s _ _ (T161.setTop (mkF m 117 #[iv p0, rv b101, iv (12 : Int32), rv k12, .unset, .unset] []))
    have nek12 := own_one Ok12 Ok14 (by decide)
    refine own_st (fun _ k => XS.aloadN X161.here hx rfl (hb hby at_117) rfl rfl  k) ?_
    show own_Goes p e below s _ _ (T161.setTop (mkF m 118 #[iv p0, rv b101, iv (12 : Int32), rv k12, .unset, .unset] [(.ref k12)]))
    have f234 := (f158.wr W161)
    obtain ⟨T235, X235, e235, st235⟩ := getS2 X161 hx hZ hown (host := "") (Or.inl (hw _ (List.mem_of_getElem? (i := 32) rfl))) Via.refl e161 f234 (g := (mkF m 118 #[iv p0, rv b101, iv (12 : Int32), rv k12, .unset, .unset] [(.ref k12)])) rfl (hb hby at_118)
    refine own_st st235 ?_
    show own_Goes p e below s _ _ (T235.setTop (mkF m 121 #[iv p0, rv b101, iv (12 : Int32), rv k12, .unset, .unset] [(.ref k14), (.ref k12)]))
    refine own_st (fun _ k => Jvm.RoadKit.acmp (g := (mkF m 121 #[iv p0, rv b101, iv (12 : Int32), rv k12, .unset, .unset] [(.ref k14), (.ref k12)])) X235 hx rfl rfl rfl (pc0 := 121) (pc' := 124) (same := false) rfl (hb hby at_121) rfl (decide_eq_false fun q => nek12 (Value.ref.inj q)) (by decide) (by decide) k) ?_
    show own_Goes p e below s _ _ (T235.setTop (mkF m 124 #[iv p0, rv b101, iv (12 : Int32), rv k12, .unset, .unset] []))
    refine own_st (fun _ k => XS.iconst X235.here hx rfl (hb hby at_124) k) ?_
    show own_Goes p e below s _ _ (T235.setTop (mkF m 125 #[iv p0, rv b101, iv (12 : Int32), rv k12, .unset, .unset] [(.int (1 : Int32))]))
    refine own_st (fun _ k => XS.goto X235.here hx rfl (pc0 := 125) (pc' := 129) rfl (hb hby at_125) (by decide) (by decide) k) ?_
    show own_Goes p e below s _ _ (T235.setTop (mkF m 129 #[iv p0, rv b101, iv (12 : Int32), rv k12, .unset, .unset] [(.int (1 : Int32))]))
    refine own_st (fun _ k => XS.istore X235.here hx rfl (hb hby at_129) rfl (l' := #[iv p0, rv b101, iv (12 : Int32), rv k12, iv (1 : Int32), .unset]) rfl k) ?_
    show own_Goes p e below s _ _ (T235.setTop (mkF m 131 #[iv p0, rv b101, iv (12 : Int32), rv k12, iv (1 : Int32), .unset] []))
    refine own_st (fun _ k => XS.aloadN X235.here hx rfl (hb hby at_131) rfl rfl  k) ?_
    show own_Goes p e below s _ _ (T235.setTop (mkF m 132 #[iv p0, rv b101, iv (12 : Int32), rv k12, iv (1 : Int32), .unset] [(.ref k12)]))
    have f236 := ((((((((((((((((Fk12.ext E101).other W105 (Or.inl (own_ne (by omega)))).other W109 (Or.inl (own_ne (by omega)))).other W113 (Or.inl (own_ne (by omega)))).other W117 (Or.inl (own_ne (by omega)))).other W121 (Or.inl (own_ne (by omega)))).other W125 (Or.inl (own_ne (by omega)))).other W129 (Or.inl (own_ne (by omega)))).other W133 (Or.inl (own_ne (by omega)))).other W137 (Or.inl (own_ne (by omega)))).other W141 (Or.inl (own_ne (by omega)))).other W145 (Or.inl (own_ne (by omega)))).other W149 (Or.inl (own_ne (by omega)))).other W153 (Or.inl (own_ne (by omega)))).other W157 (Or.inl (own_ne (by omega)))).other W161 (Or.inl (own_ne (by omega))))
    have f238 := (((f152.wr W153).wr W157).wr W161)
    obtain ⟨v237, T237, L237, X237, Q237, st237⟩ := own_callV X235 hx hZ (C := "com/example/footprint_to_feed/footprinttofeed/SearchKey") (y := (⟨"com/example/footprint_to_feed/footprinttofeed/SearchKey", "bound", "()Z"⟩ : MethodName)) hown (hw _ (List.mem_of_getElem? (i := 35) rfl)) (hw _ (List.mem_of_getElem? (i := 36) rfl)) (hw _ (List.mem_of_getElem? (i := 38) rfl)) (hw _ (List.mem_of_getElem? (i := 37) rfl)) (hw _ (List.mem_of_getElem? (i := 3) rfl)) (hw _ (List.mem_of_getElem? (i := 39) rfl)) (by decide) (W := 0) (rest := []) (argsL := []) (a := k12) (rmB0 l Z a0 hw [] k12 _ h161 n0 (by omega) f236) (by decide) (by decide) (by decide) (by decide) e235 f238 own_pd0 rfl (g := (mkF m 132 #[iv p0, rv b101, iv (12 : Int32), rv k12, iv (1 : Int32), .unset] [(.ref k12)])) rfl (by rw [hml]; rfl) rfl (by show 2 * 0 + _ ≤ _; exact Nat.le_of_eq rfl) (hb hby at_132)
    obtain ⟨rfl, N237q, e237⟩ := Q237
    have N237 := Fr.app N161 N237q
    refine own_st st237 ?_
    show own_Goes p e below s _ _ (T237.setTop (mkF m 135 #[iv p0, rv b101, iv (12 : Int32), rv k12, iv (1 : Int32), .unset] [(.int (1 : Int32))]))
    refine own_st (fun _ k => XS.istore X237.here hx rfl (hb hby at_135) rfl (l' := #[iv p0, rv b101, iv (12 : Int32), rv k12, iv (1 : Int32), iv (1 : Int32)]) rfl k) ?_
    show own_Goes p e below s _ _ (T237.setTop (mkF m 137 #[iv p0, rv b101, iv (12 : Int32), rv k12, iv (1 : Int32), iv (1 : Int32)] []))
    refine own_st (fun _ k => XS.iload X237.here hx rfl (hb hby at_137) rfl  k) ?_
    show own_Goes p e below s _ _ (T237.setTop (mkF m 139 #[iv p0, rv b101, iv (12 : Int32), rv k12, iv (1 : Int32), iv (1 : Int32)] [(.int (1 : Int32))]))
    refine own_st (fun _ k => XS.iload X237.here hx rfl (hb hby at_139) rfl  k) ?_
    show own_Goes p e below s _ _ (T237.setTop (mkF m 141 #[iv p0, rv b101, iv (12 : Int32), rv k12, iv (1 : Int32), iv (1 : Int32)] [(.int (1 : Int32)), (.int (1 : Int32))]))
    refine own_st (fun _ k => XS.icmpNo X237.here hx rfl (hb hby at_141) rfl (teq (by decide : (1 : Int32) = (1 : Int32))).2 k) ?_
    show own_Goes p e below s _ _ (T237.setTop (mkF m 144 #[iv p0, rv b101, iv (12 : Int32), rv k12, iv (1 : Int32), iv (1 : Int32)] []))
    refine own_st (fun _ k => XS.iload X237.here hx rfl (hb hby at_144) rfl  k) ?_
    show own_Goes p e below s _ _ (T237.setTop (mkF m 146 #[iv p0, rv b101, iv (12 : Int32), rv k12, iv (1 : Int32), iv (1 : Int32)] [(.int (1 : Int32))]))
    refine own_st (fun _ k => XS.aloadN X237.here hx rfl (hb hby at_146) rfl rfl  k) ?_
    show own_Goes p e below s _ _ (T237.setTop (mkF m 147 #[iv p0, rv b101, iv (12 : Int32), rv k12, iv (1 : Int32), iv (1 : Int32)] [(.ref k12), (.int (1 : Int32))]))
    obtain ⟨v239, T239, L239, X239, Q239, st239⟩ := own_callV X237 hx hZ (C := "com/example/footprint_to_feed/footprinttofeed/SearchKey") (y := (⟨"com/example/footprint_to_feed/footprinttofeed/SearchKey", "parameter", "()Ljava/lang/String;"⟩ : MethodName)) hown (hw _ (List.mem_of_getElem? (i := 42) rfl)) (hw _ (List.mem_of_getElem? (i := 43) rfl)) (hw _ (List.mem_of_getElem? (i := 45) rfl)) (hw _ (List.mem_of_getElem? (i := 44) rfl)) (hw _ (List.mem_of_getElem? (i := 3) rfl)) (hw _ (List.mem_of_getElem? (i := 46) rfl)) (by decide) (W := 1) (rest := [(.int (1 : Int32))]) (argsL := []) (a := k12) (rmP0 l Z a0 hw [] k12 _ h161 n0 (by omega) f236) (by decide) (by decide) (by decide) (by decide) e237 f238 own_pd1 rfl (g := (mkF m 147 #[iv p0, rv b101, iv (12 : Int32), rv k12, iv (1 : Int32), iv (1 : Int32)] [(.ref k12), (.int (1 : Int32))])) rfl (by rw [hml]; rfl) rfl (by show 2 * 0 + _ ≤ _; exact Nat.le_of_eq rfl) (hb hby at_147)
    obtain ⟨rfl, N239q, e239⟩ := Q239
    have N239 := Fr.app N237 N239q
    refine own_st st239 ?_
    show own_Goes p e below s _ _ (T239.setTop (mkF m 150 #[iv p0, rv b101, iv (12 : Int32), rv k12, iv (1 : Int32), iv (1 : Int32)] [(.ref t12), (.int (1 : Int32))]))
    refine own_st (fun _ k => XS.ifnullNo X239.here hx rfl (hb hby at_150) rfl k) ?_
    show own_Goes p e below s _ _ (T239.setTop (mkF m 153 #[iv p0, rv b101, iv (12 : Int32), rv k12, iv (1 : Int32), iv (1 : Int32)] [(.int (1 : Int32))]))
    refine own_st (fun _ k => XS.iconst X239.here hx rfl (hb hby at_153) k) ?_
    show own_Goes p e below s _ _ (T239.setTop (mkF m 154 #[iv p0, rv b101, iv (12 : Int32), rv k12, iv (1 : Int32), iv (1 : Int32)] [(.int (1 : Int32)), (.int (1 : Int32))]))
    refine own_st (fun _ k => XS.goto X239.here hx rfl (pc0 := 154) (pc' := 158) rfl (hb hby at_154) (by decide) (by decide) k) ?_
    show own_Goes p e below s _ _ (T239.setTop (mkF m 158 #[iv p0, rv b101, iv (12 : Int32), rv k12, iv (1 : Int32), iv (1 : Int32)] [(.int (1 : Int32)), (.int (1 : Int32))]))
    refine own_st (fun _ k => XS.icmpNo X239.here hx rfl (hb hby at_158) rfl (teq (by decide : (1 : Int32) = (1 : Int32))).2 k) ?_
    show own_Goes p e below s _ _ (T239.setTop (mkF m 161 #[iv p0, rv b101, iv (12 : Int32), rv k12, iv (1 : Int32), iv (1 : Int32)] []))
    refine own_st (fun _ k => XS.iconst X239.here hx rfl (hb hby at_161) k) ?_
    show own_Goes p e below s _ _ (T239.setTop (mkF m 162 #[iv p0, rv b101, iv (12 : Int32), rv k12, iv (1 : Int32), iv (1 : Int32)] [(.int (1 : Int32))]))
    refine own_st (fun _ k => XS.goto X239.here hx rfl (pc0 := 162) (pc' := 166) rfl (hb hby at_162) (by decide) (by decide) k) ?_
    show own_Goes p e below s _ _ (T239.setTop (mkF m 166 #[iv p0, rv b101, iv (12 : Int32), rv k12, iv (1 : Int32), iv (1 : Int32)] [(.int (1 : Int32))]))
    exact own_retN X239 hx hlk (1 : Int32) hret (Or.inl rfl) rfl (hb hby at_166) (by decide) (by decide) ⟨rfl, N239⟩
  · show own_Goes p e below s _ _ (T161.setTop (mkF m 112 #[iv p0, rv b101, .unset, .unset, .unset, .unset] [(.int (13 : Int32))]))
    refine own_st (fun _ k => XS.istoreN X161.here hx rfl (hb hby at_112) rfl (l' := #[iv p0, rv b101, iv (13 : Int32), .unset, .unset, .unset]) rfl k) ?_
    show own_Goes p e below s _ _ (T161.setTop (mkF m 113 #[iv p0, rv b101, iv (13 : Int32), .unset, .unset, .unset] []))
    refine own_st (fun _ k => XS.aloadN X161.here hx rfl (hb hby at_113) rfl rfl  k) ?_
    show own_Goes p e below s _ _ (T161.setTop (mkF m 114 #[iv p0, rv b101, iv (13 : Int32), .unset, .unset, .unset] [(.ref b101)]))
    refine own_st (fun _ k => XS.iloadN X161.here hx rfl (hb hby at_114) rfl  k) ?_
    show own_Goes p e below s _ _ (T161.setTop (mkF m 115 #[iv p0, rv b101, iv (13 : Int32), .unset, .unset, .unset] [(.int (13 : Int32)), (.ref b101)]))
    refine own_st (fun _ k => own_ldR X161 hx hZ e161 rfl V161 (j := (13 : Int32)) (by decide) (g := (mkF m 115 #[iv p0, rv b101, iv (13 : Int32), .unset, .unset, .unset] [(.int (13 : Int32)), (.ref b101)])) rfl rfl (hb hby at_115) _ k) ?_
    show own_Goes p e below s _ _ (T161.setTop (mkF m 116 #[iv p0, rv b101, iv (13 : Int32), .unset, .unset, .unset] [(.ref k13)]))
    refine own_st (fun _ k => XS.astoreN X161.here hx rfl (hb hby at_116) rfl rfl (l' := #[iv p0, rv b101, iv (13 : Int32), rv k13, .unset, .unset]) rfl k) ?_
    show own_Goes p e below s _ _ (T161.setTop (mkF m 117 #[iv p0, rv b101, iv (13 : Int32), rv k13, .unset, .unset] []))
    have nek13 := own_one Ok13 Ok14 (by decide)
    refine own_st (fun _ k => XS.aloadN X161.here hx rfl (hb hby at_117) rfl rfl  k) ?_
    show own_Goes p e below s _ _ (T161.setTop (mkF m 118 #[iv p0, rv b101, iv (13 : Int32), rv k13, .unset, .unset] [(.ref k13)]))
    have f240 := (f158.wr W161)
    obtain ⟨T241, X241, e241, st241⟩ := getS2 X161 hx hZ hown (host := "") (Or.inl (hw _ (List.mem_of_getElem? (i := 32) rfl))) Via.refl e161 f240 (g := (mkF m 118 #[iv p0, rv b101, iv (13 : Int32), rv k13, .unset, .unset] [(.ref k13)])) rfl (hb hby at_118)
    refine own_st st241 ?_
    show own_Goes p e below s _ _ (T241.setTop (mkF m 121 #[iv p0, rv b101, iv (13 : Int32), rv k13, .unset, .unset] [(.ref k14), (.ref k13)]))
    refine own_st (fun _ k => Jvm.RoadKit.acmp (g := (mkF m 121 #[iv p0, rv b101, iv (13 : Int32), rv k13, .unset, .unset] [(.ref k14), (.ref k13)])) X241 hx rfl rfl rfl (pc0 := 121) (pc' := 124) (same := false) rfl (hb hby at_121) rfl (decide_eq_false fun q => nek13 (Value.ref.inj q)) (by decide) (by decide) k) ?_
    show own_Goes p e below s _ _ (T241.setTop (mkF m 124 #[iv p0, rv b101, iv (13 : Int32), rv k13, .unset, .unset] []))
    refine own_st (fun _ k => XS.iconst X241.here hx rfl (hb hby at_124) k) ?_
    show own_Goes p e below s _ _ (T241.setTop (mkF m 125 #[iv p0, rv b101, iv (13 : Int32), rv k13, .unset, .unset] [(.int (1 : Int32))]))
    refine own_st (fun _ k => XS.goto X241.here hx rfl (pc0 := 125) (pc' := 129) rfl (hb hby at_125) (by decide) (by decide) k) ?_
    show own_Goes p e below s _ _ (T241.setTop (mkF m 129 #[iv p0, rv b101, iv (13 : Int32), rv k13, .unset, .unset] [(.int (1 : Int32))]))
    refine own_st (fun _ k => XS.istore X241.here hx rfl (hb hby at_129) rfl (l' := #[iv p0, rv b101, iv (13 : Int32), rv k13, iv (1 : Int32), .unset]) rfl k) ?_
    show own_Goes p e below s _ _ (T241.setTop (mkF m 131 #[iv p0, rv b101, iv (13 : Int32), rv k13, iv (1 : Int32), .unset] []))
    refine own_st (fun _ k => XS.aloadN X241.here hx rfl (hb hby at_131) rfl rfl  k) ?_
    show own_Goes p e below s _ _ (T241.setTop (mkF m 132 #[iv p0, rv b101, iv (13 : Int32), rv k13, iv (1 : Int32), .unset] [(.ref k13)]))
    have f242 := ((((((((((((((((Fk13.ext E101).other W105 (Or.inl (own_ne (by omega)))).other W109 (Or.inl (own_ne (by omega)))).other W113 (Or.inl (own_ne (by omega)))).other W117 (Or.inl (own_ne (by omega)))).other W121 (Or.inl (own_ne (by omega)))).other W125 (Or.inl (own_ne (by omega)))).other W129 (Or.inl (own_ne (by omega)))).other W133 (Or.inl (own_ne (by omega)))).other W137 (Or.inl (own_ne (by omega)))).other W141 (Or.inl (own_ne (by omega)))).other W145 (Or.inl (own_ne (by omega)))).other W149 (Or.inl (own_ne (by omega)))).other W153 (Or.inl (own_ne (by omega)))).other W157 (Or.inl (own_ne (by omega)))).other W161 (Or.inl (own_ne (by omega))))
    have f244 := ((f156.wr W157).wr W161)
    obtain ⟨v243, T243, L243, X243, Q243, st243⟩ := own_callV X241 hx hZ (C := "com/example/footprint_to_feed/footprinttofeed/SearchKey") (y := (⟨"com/example/footprint_to_feed/footprinttofeed/SearchKey", "bound", "()Z"⟩ : MethodName)) hown (hw _ (List.mem_of_getElem? (i := 35) rfl)) (hw _ (List.mem_of_getElem? (i := 36) rfl)) (hw _ (List.mem_of_getElem? (i := 38) rfl)) (hw _ (List.mem_of_getElem? (i := 37) rfl)) (hw _ (List.mem_of_getElem? (i := 3) rfl)) (hw _ (List.mem_of_getElem? (i := 39) rfl)) (by decide) (W := 0) (rest := []) (argsL := []) (a := k13) (rmB0 l Z a0 hw [] k13 _ h161 n0 (by omega) f242) (by decide) (by decide) (by decide) (by decide) e241 f244 own_pd0 rfl (g := (mkF m 132 #[iv p0, rv b101, iv (13 : Int32), rv k13, iv (1 : Int32), .unset] [(.ref k13)])) rfl (by rw [hml]; rfl) rfl (by show 2 * 0 + _ ≤ _; exact Nat.le_of_eq rfl) (hb hby at_132)
    obtain ⟨rfl, N243q, e243⟩ := Q243
    have N243 := Fr.app N161 N243q
    refine own_st st243 ?_
    show own_Goes p e below s _ _ (T243.setTop (mkF m 135 #[iv p0, rv b101, iv (13 : Int32), rv k13, iv (1 : Int32), .unset] [(.int (1 : Int32))]))
    refine own_st (fun _ k => XS.istore X243.here hx rfl (hb hby at_135) rfl (l' := #[iv p0, rv b101, iv (13 : Int32), rv k13, iv (1 : Int32), iv (1 : Int32)]) rfl k) ?_
    show own_Goes p e below s _ _ (T243.setTop (mkF m 137 #[iv p0, rv b101, iv (13 : Int32), rv k13, iv (1 : Int32), iv (1 : Int32)] []))
    refine own_st (fun _ k => XS.iload X243.here hx rfl (hb hby at_137) rfl  k) ?_
    show own_Goes p e below s _ _ (T243.setTop (mkF m 139 #[iv p0, rv b101, iv (13 : Int32), rv k13, iv (1 : Int32), iv (1 : Int32)] [(.int (1 : Int32))]))
    refine own_st (fun _ k => XS.iload X243.here hx rfl (hb hby at_139) rfl  k) ?_
    show own_Goes p e below s _ _ (T243.setTop (mkF m 141 #[iv p0, rv b101, iv (13 : Int32), rv k13, iv (1 : Int32), iv (1 : Int32)] [(.int (1 : Int32)), (.int (1 : Int32))]))
    refine own_st (fun _ k => XS.icmpNo X243.here hx rfl (hb hby at_141) rfl (teq (by decide : (1 : Int32) = (1 : Int32))).2 k) ?_
    show own_Goes p e below s _ _ (T243.setTop (mkF m 144 #[iv p0, rv b101, iv (13 : Int32), rv k13, iv (1 : Int32), iv (1 : Int32)] []))
    refine own_st (fun _ k => XS.iload X243.here hx rfl (hb hby at_144) rfl  k) ?_
    show own_Goes p e below s _ _ (T243.setTop (mkF m 146 #[iv p0, rv b101, iv (13 : Int32), rv k13, iv (1 : Int32), iv (1 : Int32)] [(.int (1 : Int32))]))
    refine own_st (fun _ k => XS.aloadN X243.here hx rfl (hb hby at_146) rfl rfl  k) ?_
    show own_Goes p e below s _ _ (T243.setTop (mkF m 147 #[iv p0, rv b101, iv (13 : Int32), rv k13, iv (1 : Int32), iv (1 : Int32)] [(.ref k13), (.int (1 : Int32))]))
    obtain ⟨v245, T245, L245, X245, Q245, st245⟩ := own_callV X243 hx hZ (C := "com/example/footprint_to_feed/footprinttofeed/SearchKey") (y := (⟨"com/example/footprint_to_feed/footprinttofeed/SearchKey", "parameter", "()Ljava/lang/String;"⟩ : MethodName)) hown (hw _ (List.mem_of_getElem? (i := 42) rfl)) (hw _ (List.mem_of_getElem? (i := 43) rfl)) (hw _ (List.mem_of_getElem? (i := 45) rfl)) (hw _ (List.mem_of_getElem? (i := 44) rfl)) (hw _ (List.mem_of_getElem? (i := 3) rfl)) (hw _ (List.mem_of_getElem? (i := 46) rfl)) (by decide) (W := 1) (rest := [(.int (1 : Int32))]) (argsL := []) (a := k13) (rmP0 l Z a0 hw [] k13 _ h161 n0 (by omega) f242) (by decide) (by decide) (by decide) (by decide) e243 f244 own_pd1 rfl (g := (mkF m 147 #[iv p0, rv b101, iv (13 : Int32), rv k13, iv (1 : Int32), iv (1 : Int32)] [(.ref k13), (.int (1 : Int32))])) rfl (by rw [hml]; rfl) rfl (by show 2 * 0 + _ ≤ _; exact Nat.le_of_eq rfl) (hb hby at_147)
    obtain ⟨rfl, N245q, e245⟩ := Q245
    have N245 := Fr.app N243 N245q
    refine own_st st245 ?_
    show own_Goes p e below s _ _ (T245.setTop (mkF m 150 #[iv p0, rv b101, iv (13 : Int32), rv k13, iv (1 : Int32), iv (1 : Int32)] [(.ref t13), (.int (1 : Int32))]))
    refine own_st (fun _ k => XS.ifnullNo X245.here hx rfl (hb hby at_150) rfl k) ?_
    show own_Goes p e below s _ _ (T245.setTop (mkF m 153 #[iv p0, rv b101, iv (13 : Int32), rv k13, iv (1 : Int32), iv (1 : Int32)] [(.int (1 : Int32))]))
    refine own_st (fun _ k => XS.iconst X245.here hx rfl (hb hby at_153) k) ?_
    show own_Goes p e below s _ _ (T245.setTop (mkF m 154 #[iv p0, rv b101, iv (13 : Int32), rv k13, iv (1 : Int32), iv (1 : Int32)] [(.int (1 : Int32)), (.int (1 : Int32))]))
    refine own_st (fun _ k => XS.goto X245.here hx rfl (pc0 := 154) (pc' := 158) rfl (hb hby at_154) (by decide) (by decide) k) ?_
    show own_Goes p e below s _ _ (T245.setTop (mkF m 158 #[iv p0, rv b101, iv (13 : Int32), rv k13, iv (1 : Int32), iv (1 : Int32)] [(.int (1 : Int32)), (.int (1 : Int32))]))
    refine own_st (fun _ k => XS.icmpNo X245.here hx rfl (hb hby at_158) rfl (teq (by decide : (1 : Int32) = (1 : Int32))).2 k) ?_
    show own_Goes p e below s _ _ (T245.setTop (mkF m 161 #[iv p0, rv b101, iv (13 : Int32), rv k13, iv (1 : Int32), iv (1 : Int32)] []))
    refine own_st (fun _ k => XS.iconst X245.here hx rfl (hb hby at_161) k) ?_
    show own_Goes p e below s _ _ (T245.setTop (mkF m 162 #[iv p0, rv b101, iv (13 : Int32), rv k13, iv (1 : Int32), iv (1 : Int32)] [(.int (1 : Int32))]))
    refine own_st (fun _ k => XS.goto X245.here hx rfl (pc0 := 162) (pc' := 166) rfl (hb hby at_162) (by decide) (by decide) k) ?_
    show own_Goes p e below s _ _ (T245.setTop (mkF m 166 #[iv p0, rv b101, iv (13 : Int32), rv k13, iv (1 : Int32), iv (1 : Int32)] [(.int (1 : Int32))]))
    exact own_retN X245 hx hlk (1 : Int32) hret (Or.inl rfl) rfl (hb hby at_166) (by decide) (by decide) ⟨rfl, N245⟩
  · show own_Goes p e below s _ _ (T161.setTop (mkF m 112 #[iv p0, rv b101, .unset, .unset, .unset, .unset] [(.int (14 : Int32))]))
    refine own_st (fun _ k => XS.istoreN X161.here hx rfl (hb hby at_112) rfl (l' := #[iv p0, rv b101, iv (14 : Int32), .unset, .unset, .unset]) rfl k) ?_
    show own_Goes p e below s _ _ (T161.setTop (mkF m 113 #[iv p0, rv b101, iv (14 : Int32), .unset, .unset, .unset] []))
    refine own_st (fun _ k => XS.aloadN X161.here hx rfl (hb hby at_113) rfl rfl  k) ?_
    show own_Goes p e below s _ _ (T161.setTop (mkF m 114 #[iv p0, rv b101, iv (14 : Int32), .unset, .unset, .unset] [(.ref b101)]))
    refine own_st (fun _ k => XS.iloadN X161.here hx rfl (hb hby at_114) rfl  k) ?_
    show own_Goes p e below s _ _ (T161.setTop (mkF m 115 #[iv p0, rv b101, iv (14 : Int32), .unset, .unset, .unset] [(.int (14 : Int32)), (.ref b101)]))
    refine own_st (fun _ k => own_ldR X161 hx hZ e161 rfl V161 (j := (14 : Int32)) (by decide) (g := (mkF m 115 #[iv p0, rv b101, iv (14 : Int32), .unset, .unset, .unset] [(.int (14 : Int32)), (.ref b101)])) rfl rfl (hb hby at_115) _ k) ?_
    show own_Goes p e below s _ _ (T161.setTop (mkF m 116 #[iv p0, rv b101, iv (14 : Int32), .unset, .unset, .unset] [(.ref k14)]))
    refine own_st (fun _ k => XS.astoreN X161.here hx rfl (hb hby at_116) rfl rfl (l' := #[iv p0, rv b101, iv (14 : Int32), rv k14, .unset, .unset]) rfl k) ?_
    show own_Goes p e below s _ _ (T161.setTop (mkF m 117 #[iv p0, rv b101, iv (14 : Int32), rv k14, .unset, .unset] []))
    refine own_st (fun _ k => XS.aloadN X161.here hx rfl (hb hby at_117) rfl rfl  k) ?_
    show own_Goes p e below s _ _ (T161.setTop (mkF m 118 #[iv p0, rv b101, iv (14 : Int32), rv k14, .unset, .unset] [(.ref k14)]))
    have f246 := (f158.wr W161)
    obtain ⟨T247, X247, e247, st247⟩ := getS2 X161 hx hZ hown (host := "") (Or.inl (hw _ (List.mem_of_getElem? (i := 32) rfl))) Via.refl e161 f246 (g := (mkF m 118 #[iv p0, rv b101, iv (14 : Int32), rv k14, .unset, .unset] [(.ref k14)])) rfl (hb hby at_118)
    refine own_st st247 ?_
    show own_Goes p e below s _ _ (T247.setTop (mkF m 121 #[iv p0, rv b101, iv (14 : Int32), rv k14, .unset, .unset] [(.ref k14), (.ref k14)]))
    refine own_st (fun _ k => Jvm.RoadKit.acmp (g := (mkF m 121 #[iv p0, rv b101, iv (14 : Int32), rv k14, .unset, .unset] [(.ref k14), (.ref k14)])) X247 hx rfl rfl rfl (pc0 := 121) (pc' := 128) (same := true) rfl (hb hby at_121) rfl (decide_eq_true rfl) (by decide) (by decide) k) ?_
    show own_Goes p e below s _ _ (T247.setTop (mkF m 128 #[iv p0, rv b101, iv (14 : Int32), rv k14, .unset, .unset] []))
    refine own_st (fun _ k => XS.iconst X247.here hx rfl (hb hby at_128) k) ?_
    show own_Goes p e below s _ _ (T247.setTop (mkF m 129 #[iv p0, rv b101, iv (14 : Int32), rv k14, .unset, .unset] [(.int (0 : Int32))]))
    refine own_st (fun _ k => XS.istore X247.here hx rfl (hb hby at_129) rfl (l' := #[iv p0, rv b101, iv (14 : Int32), rv k14, iv (0 : Int32), .unset]) rfl k) ?_
    show own_Goes p e below s _ _ (T247.setTop (mkF m 131 #[iv p0, rv b101, iv (14 : Int32), rv k14, iv (0 : Int32), .unset] []))
    refine own_st (fun _ k => XS.aloadN X247.here hx rfl (hb hby at_131) rfl rfl  k) ?_
    show own_Goes p e below s _ _ (T247.setTop (mkF m 132 #[iv p0, rv b101, iv (14 : Int32), rv k14, iv (0 : Int32), .unset] [(.ref k14)]))
    have f248 := ((((((((((((((((Fk14.ext E101).other W105 (Or.inl (own_ne (by omega)))).other W109 (Or.inl (own_ne (by omega)))).other W113 (Or.inl (own_ne (by omega)))).other W117 (Or.inl (own_ne (by omega)))).other W121 (Or.inl (own_ne (by omega)))).other W125 (Or.inl (own_ne (by omega)))).other W129 (Or.inl (own_ne (by omega)))).other W133 (Or.inl (own_ne (by omega)))).other W137 (Or.inl (own_ne (by omega)))).other W141 (Or.inl (own_ne (by omega)))).other W145 (Or.inl (own_ne (by omega)))).other W149 (Or.inl (own_ne (by omega)))).other W153 (Or.inl (own_ne (by omega)))).other W157 (Or.inl (own_ne (by omega)))).other W161 (Or.inl (own_ne (by omega))))
    have f250 := (f160.wr W161)
    obtain ⟨v249, T249, L249, X249, Q249, st249⟩ := own_callV X247 hx hZ (C := "com/example/footprint_to_feed/footprinttofeed/SearchKey") (y := (⟨"com/example/footprint_to_feed/footprinttofeed/SearchKey", "bound", "()Z"⟩ : MethodName)) hown (hw _ (List.mem_of_getElem? (i := 35) rfl)) (hw _ (List.mem_of_getElem? (i := 36) rfl)) (hw _ (List.mem_of_getElem? (i := 38) rfl)) (hw _ (List.mem_of_getElem? (i := 37) rfl)) (hw _ (List.mem_of_getElem? (i := 3) rfl)) (hw _ (List.mem_of_getElem? (i := 39) rfl)) (by decide) (W := 0) (rest := []) (argsL := []) (a := k14) (rmB1 l Z a0 hw [] k14 h161 n0 (by omega) f248) (by decide) (by decide) (by decide) (by decide) e247 f250 own_pd0 rfl (g := (mkF m 132 #[iv p0, rv b101, iv (14 : Int32), rv k14, iv (0 : Int32), .unset] [(.ref k14)])) rfl (by rw [hml]; rfl) rfl (by show 2 * 0 + _ ≤ _; exact Nat.le_of_eq rfl) (hb hby at_132)
    obtain ⟨rfl, N249q, e249⟩ := Q249
    have N249 := Fr.app N161 N249q
    refine own_st st249 ?_
    show own_Goes p e below s _ _ (T249.setTop (mkF m 135 #[iv p0, rv b101, iv (14 : Int32), rv k14, iv (0 : Int32), .unset] [(.int (0 : Int32))]))
    refine own_st (fun _ k => XS.istore X249.here hx rfl (hb hby at_135) rfl (l' := #[iv p0, rv b101, iv (14 : Int32), rv k14, iv (0 : Int32), iv (0 : Int32)]) rfl k) ?_
    show own_Goes p e below s _ _ (T249.setTop (mkF m 137 #[iv p0, rv b101, iv (14 : Int32), rv k14, iv (0 : Int32), iv (0 : Int32)] []))
    refine own_st (fun _ k => XS.iload X249.here hx rfl (hb hby at_137) rfl  k) ?_
    show own_Goes p e below s _ _ (T249.setTop (mkF m 139 #[iv p0, rv b101, iv (14 : Int32), rv k14, iv (0 : Int32), iv (0 : Int32)] [(.int (0 : Int32))]))
    refine own_st (fun _ k => XS.iload X249.here hx rfl (hb hby at_139) rfl  k) ?_
    show own_Goes p e below s _ _ (T249.setTop (mkF m 141 #[iv p0, rv b101, iv (14 : Int32), rv k14, iv (0 : Int32), iv (0 : Int32)] [(.int (0 : Int32)), (.int (0 : Int32))]))
    refine own_st (fun _ k => XS.icmpNo X249.here hx rfl (hb hby at_141) rfl (teq (by decide : (0 : Int32) = (0 : Int32))).2 k) ?_
    show own_Goes p e below s _ _ (T249.setTop (mkF m 144 #[iv p0, rv b101, iv (14 : Int32), rv k14, iv (0 : Int32), iv (0 : Int32)] []))
    refine own_st (fun _ k => XS.iload X249.here hx rfl (hb hby at_144) rfl  k) ?_
    show own_Goes p e below s _ _ (T249.setTop (mkF m 146 #[iv p0, rv b101, iv (14 : Int32), rv k14, iv (0 : Int32), iv (0 : Int32)] [(.int (0 : Int32))]))
    refine own_st (fun _ k => XS.aloadN X249.here hx rfl (hb hby at_146) rfl rfl  k) ?_
    show own_Goes p e below s _ _ (T249.setTop (mkF m 147 #[iv p0, rv b101, iv (14 : Int32), rv k14, iv (0 : Int32), iv (0 : Int32)] [(.ref k14), (.int (0 : Int32))]))
    obtain ⟨v251, T251, L251, X251, Q251, st251⟩ := own_callV X249 hx hZ (C := "com/example/footprint_to_feed/footprinttofeed/SearchKey") (y := (⟨"com/example/footprint_to_feed/footprinttofeed/SearchKey", "parameter", "()Ljava/lang/String;"⟩ : MethodName)) hown (hw _ (List.mem_of_getElem? (i := 42) rfl)) (hw _ (List.mem_of_getElem? (i := 43) rfl)) (hw _ (List.mem_of_getElem? (i := 45) rfl)) (hw _ (List.mem_of_getElem? (i := 44) rfl)) (hw _ (List.mem_of_getElem? (i := 3) rfl)) (hw _ (List.mem_of_getElem? (i := 46) rfl)) (by decide) (W := 1) (rest := [(.int (0 : Int32))]) (argsL := []) (a := k14) (rmP1 l Z a0 hw [] k14 h161 n0 (by omega) f248) (by decide) (by decide) (by decide) (by decide) e249 f250 own_pd1 rfl (g := (mkF m 147 #[iv p0, rv b101, iv (14 : Int32), rv k14, iv (0 : Int32), iv (0 : Int32)] [(.ref k14), (.int (0 : Int32))])) rfl (by rw [hml]; rfl) rfl (by show 2 * 0 + _ ≤ _; exact Nat.le_of_eq rfl) (hb hby at_147)
    obtain ⟨rfl, N251q, e251⟩ := Q251
    have N251 := Fr.app N249 N251q
    refine own_st st251 ?_
    show own_Goes p e below s _ _ (T251.setTop (mkF m 150 #[iv p0, rv b101, iv (14 : Int32), rv k14, iv (0 : Int32), iv (0 : Int32)] [.null, (.int (0 : Int32))]))
    refine own_st (fun _ k => XS.ifnullYes X251.here hx rfl (pc0 := 150) (pc' := 157) rfl (hb hby at_150) rfl (by decide) (by decide) k) ?_
    show own_Goes p e below s _ _ (T251.setTop (mkF m 157 #[iv p0, rv b101, iv (14 : Int32), rv k14, iv (0 : Int32), iv (0 : Int32)] [(.int (0 : Int32))]))
    refine own_st (fun _ k => XS.iconst X251.here hx rfl (hb hby at_157) k) ?_
    show own_Goes p e below s _ _ (T251.setTop (mkF m 158 #[iv p0, rv b101, iv (14 : Int32), rv k14, iv (0 : Int32), iv (0 : Int32)] [(.int (0 : Int32)), (.int (0 : Int32))]))
    refine own_st (fun _ k => XS.icmpNo X251.here hx rfl (hb hby at_158) rfl (teq (by decide : (0 : Int32) = (0 : Int32))).2 k) ?_
    show own_Goes p e below s _ _ (T251.setTop (mkF m 161 #[iv p0, rv b101, iv (14 : Int32), rv k14, iv (0 : Int32), iv (0 : Int32)] []))
    refine own_st (fun _ k => XS.iconst X251.here hx rfl (hb hby at_161) k) ?_
    show own_Goes p e below s _ _ (T251.setTop (mkF m 162 #[iv p0, rv b101, iv (14 : Int32), rv k14, iv (0 : Int32), iv (0 : Int32)] [(.int (1 : Int32))]))
    refine own_st (fun _ k => XS.goto X251.here hx rfl (pc0 := 162) (pc' := 166) rfl (hb hby at_162) (by decide) (by decide) k) ?_
    show own_Goes p e below s _ _ (T251.setTop (mkF m 166 #[iv p0, rv b101, iv (14 : Int32), rv k14, iv (0 : Int32), iv (0 : Int32)] [(.int (1 : Int32))]))
    exact own_retN X251 hx hlk (1 : Int32) hret (Or.inl rfl) rfl (hb hby at_166) (by decide) (by decide) ⟨rfl, N251⟩
set_option maxRecDepth 65536 in
set_option maxHeartbeats 40000000 in
theorem comes_1 {Post : Tables → Env → Array Value → State → Outcome → State → Prop} (hpost : ∀ tb e args s v u, (limb_1_1.after args s (.returned v) u = true ∧ limb_1_2.after args s (.returned v) u = true ∧ True) → FrameEnd s (.returned v) u (Jvm.fieldLocs frame_1_writes args s ++ Jvm.arrayLocs frame_1_arrays args s ++ Jvm.staticLocs frame_1_statics s) 16 128 → Post tb e args s (.returned v) u) :
    ArmFor flags0 classFile x code maxLocals ret World_1 tables_1 room_1 Calls_1 rest_1 Pre_1 Post := by
  intro l hfl _ _ p e ha hc hk s m args below hf hA hF happ hP
  obtain ⟨hcalls, hrest, hpre⟩ := hP
  obtain ⟨-, -, -, hnamed, -, -, -, hat⟩ := (Spec.applies_iff hf).mp happ
  obtain ⟨hg, hn⟩ := and_e (Cond.before_iff.mp (show (Jvm.Cond.and given_1 narrow_1).before args s = true from hpre))
  obtain ⟨hcnt, q0⟩ := and_e hg
  obtain ⟨w0, rfl⟩ : ∃ w0 : Value, args = #[w0] := by
    have hs : args.size = 1 := by simpa [Cond.value, given_1] using hcnt
    obtain ⟨L⟩ := args
    match L, hs with
    | [w0], _ => exact ⟨w0, rfl⟩
  have hw := fun d (hd : d ∈ tables_1) => atoms_spec (ws := Jvm.Cond.code x code maxLocals ret :: tables_1) hat d (List.mem_cons_of_mem _ hd)
  have hfit : Fit s := fun {y c} hc i hi => by
    obtain ⟨ha, rfl⟩ := Array.getElem?_eq_some_iff.mp hc
    have q := List.all_eq_true.mp ((Array.all_eq_true_iff_forall_mem.mp hF) _ (Array.getElem_mem ha)) i (List.mem_range.mpr hi)
    simpa [Array.getElem?_eq_getElem hi] using q
  obtain ⟨i0, ei0⟩ := is_v q0
  obtain rfl : w0 = (.int i0) := Option.some.inj ei0
  obtain ⟨j0, j_1⟩ := and_e hn
  obtain ⟨j1, j_2⟩ := and_e j_1
  obtain ⟨j2, j_3⟩ := and_e j_2
  obtain ⟨j3, j_4⟩ := and_e j_3
  obtain ⟨j4, j_5⟩ := and_e j_4
  obtain ⟨j5, j_6⟩ := and_e j_5
  obtain ⟨j6, j_7⟩ := and_e j_6
  obtain ⟨j7, j_8⟩ := and_e j_7
  obtain ⟨j8, j_9⟩ := and_e j_8
  obtain ⟨j9, j_10⟩ := and_e j_9
  obtain ⟨j10, j_11⟩ := and_e j_10
  obtain ⟨j11, j_12⟩ := and_e j_11
  obtain ⟨j12, j_13⟩ := and_e j_12
  obtain ⟨j13, j_14⟩ := and_e j_13
  obtain ⟨j14, j_15⟩ := and_e j_14
  obtain ⟨j15, j_16⟩ := and_e j_15
  obtain ⟨j16, j_17⟩ := and_e j_16
  obtain ⟨j17, j_18⟩ := and_e j_17
  obtain ⟨j18, j_19⟩ := and_e j_18
  obtain ⟨j19, j_20⟩ := and_e j_19
  obtain ⟨j20, j_21⟩ := and_e j_20
  obtain ⟨j21, j_22⟩ := and_e j_21
  obtain ⟨j22, j_23⟩ := and_e j_22
  obtain ⟨j23, j_24⟩ := and_e j_23
  obtain ⟨j24, j_25⟩ := and_e j_24
  obtain ⟨j25, j_26⟩ := and_e j_25
  obtain ⟨j26, j_27⟩ := and_e j_26
  obtain ⟨j27, j_28⟩ := and_e j_27
  obtain ⟨j28, j_29⟩ := and_e j_28
  obtain ⟨j29, j_30⟩ := and_e j_29
  obtain ⟨j30, j_31⟩ := and_e j_30
  obtain ⟨j31, j_32⟩ := and_e j_31
  obtain ⟨j32, j_33⟩ := and_e j_32
  obtain ⟨j33, j_34⟩ := and_e j_33
  obtain ⟨j34, j_35⟩ := and_e j_34
  obtain ⟨j35, j_36⟩ := and_e j_35
  obtain ⟨j36, j_37⟩ := and_e j_36
  obtain ⟨j37, j_38⟩ := and_e j_37
  obtain ⟨j38, j_39⟩ := and_e j_38
  obtain ⟨j39, j_40⟩ := and_e j_39
  obtain ⟨j40, j_41⟩ := and_e j_40
  obtain ⟨j41, j_42⟩ := and_e j_41
  obtain ⟨j42, j_43⟩ := and_e j_42
  obtain ⟨j43, j44⟩ := and_e j_43
  obtain ⟨k0, evk0, Sk0, Ek0⟩ := own_static j0 (hw _ (List.mem_of_getElem? (i := 3) rfl)) (hw _ (List.mem_of_getElem? (i := 4) rfl))
  obtain ⟨k1, evk1, Sk1, Ek1⟩ := own_static j1 (hw _ (List.mem_of_getElem? (i := 3) rfl)) (hw _ (List.mem_of_getElem? (i := 7) rfl))
  obtain ⟨k2, evk2, Sk2, Ek2⟩ := own_static j2 (hw _ (List.mem_of_getElem? (i := 3) rfl)) (hw _ (List.mem_of_getElem? (i := 9) rfl))
  obtain ⟨k3, evk3, Sk3, Ek3⟩ := own_static j3 (hw _ (List.mem_of_getElem? (i := 3) rfl)) (hw _ (List.mem_of_getElem? (i := 11) rfl))
  obtain ⟨k4, evk4, Sk4, Ek4⟩ := own_static j4 (hw _ (List.mem_of_getElem? (i := 3) rfl)) (hw _ (List.mem_of_getElem? (i := 13) rfl))
  obtain ⟨k5, evk5, Sk5, Ek5⟩ := own_static j5 (hw _ (List.mem_of_getElem? (i := 3) rfl)) (hw _ (List.mem_of_getElem? (i := 15) rfl))
  obtain ⟨k6, evk6, Sk6, Ek6⟩ := own_static j6 (hw _ (List.mem_of_getElem? (i := 3) rfl)) (hw _ (List.mem_of_getElem? (i := 17) rfl))
  obtain ⟨k7, evk7, Sk7, Ek7⟩ := own_static j7 (hw _ (List.mem_of_getElem? (i := 3) rfl)) (hw _ (List.mem_of_getElem? (i := 19) rfl))
  obtain ⟨k8, evk8, Sk8, Ek8⟩ := own_static j8 (hw _ (List.mem_of_getElem? (i := 3) rfl)) (hw _ (List.mem_of_getElem? (i := 21) rfl))
  obtain ⟨k9, evk9, Sk9, Ek9⟩ := own_static j9 (hw _ (List.mem_of_getElem? (i := 3) rfl)) (hw _ (List.mem_of_getElem? (i := 23) rfl))
  obtain ⟨k10, evk10, Sk10, Ek10⟩ := own_static j10 (hw _ (List.mem_of_getElem? (i := 3) rfl)) (hw _ (List.mem_of_getElem? (i := 25) rfl))
  obtain ⟨k11, evk11, Sk11, Ek11⟩ := own_static j11 (hw _ (List.mem_of_getElem? (i := 3) rfl)) (hw _ (List.mem_of_getElem? (i := 27) rfl))
  obtain ⟨k12, evk12, Sk12, Ek12⟩ := own_static j12 (hw _ (List.mem_of_getElem? (i := 3) rfl)) (hw _ (List.mem_of_getElem? (i := 29) rfl))
  obtain ⟨k13, evk13, Sk13, Ek13⟩ := own_static j13 (hw _ (List.mem_of_getElem? (i := 3) rfl)) (hw _ (List.mem_of_getElem? (i := 31) rfl))
  obtain ⟨k14, evk14, Sk14, Ek14⟩ := own_static j14 (hw _ (List.mem_of_getElem? (i := 3) rfl)) (hw _ (List.mem_of_getElem? (i := 33) rfl))
  have Ok0 : own_O s k0 0 := own_fint j15 evk0
  obtain ⟨t0, Fk0⟩ := own_fldR j17 evk0
  have Ok1 : own_O s k1 1 := own_fint j37 evk1
  obtain ⟨t1, Fk1⟩ := own_fldR j38 evk1
  have Ok2 : own_O s k2 2 := own_fint j29 evk2
  obtain ⟨t2, Fk2⟩ := own_fldR j30 evk2
  have Ok3 : own_O s k3 3 := own_fint j18 evk3
  obtain ⟨t3, Fk3⟩ := own_fldR j19 evk3
  have Ok4 : own_O s k4 4 := own_fint j41 evk4
  obtain ⟨t4, Fk4⟩ := own_fldR j42 evk4
  have Ok5 : own_O s k5 5 := own_fint j20 evk5
  obtain ⟨t5, Fk5⟩ := own_fldR j21 evk5
  have Ok6 : own_O s k6 6 := own_fint j24 evk6
  obtain ⟨t6, Fk6⟩ := own_fldR j25 evk6
  have Ok7 : own_O s k7 7 := own_fint j27 evk7
  obtain ⟨t7, Fk7⟩ := own_fldR j28 evk7
  have Ok8 : own_O s k8 8 := own_fint j35 evk8
  obtain ⟨t8, Fk8⟩ := own_fldR j36 evk8
  have Ok9 : own_O s k9 9 := own_fint j43 evk9
  obtain ⟨t9, Fk9⟩ := own_fldR j44 evk9
  have Ok10 : own_O s k10 10 := own_fint j33 evk10
  obtain ⟨t10, Fk10⟩ := own_fldR j34 evk10
  have Ok11 : own_O s k11 11 := own_fint j31 evk11
  obtain ⟨t11, Fk11⟩ := own_fldR j32 evk11
  have Ok12 : own_O s k12 12 := own_fint j39 evk12
  obtain ⟨t12, Fk12⟩ := own_fldR j40 evk12
  have Ok13 : own_O s k13 13 := own_fint j22 evk13
  obtain ⟨t13, Fk13⟩ := own_fldR j23 evk13
  have Ok14 : own_O s k14 14 := own_fint j16 evk14
  have Fk14 := own_fldN j26 evk14
  obtain ⟨n, o, h1, h2, h3, _, L, rfl, ⟨rfl, N⟩, hq⟩ := rm0 l s _ hw tables_1 i0 k0 k1 k2 k3 k4 k5 k6 k7 k8 k9 k10 k11 k12 k13 k14 t0 t1 t2 t3 t4 t5 t6 t7 t8 t9 t10 t11 t12 t13 s.heap s.heap.size (Nat.le_refl _) Sk0 Sk1 Sk2 Sk3 Sk4 Sk5 Sk6 Sk7 Sk8 Sk9 Sk10 Sk11 Sk12 Sk13 Sk14 Ek0 Ek1 Ek2 Ek3 Ek4 Ek5 Ek6 Ek7 Ek8 Ek9 Ek10 Ek11 Ek12 Ek13 Ek14 Ok0 Ok1 Ok2 Ok3 Ok4 Ok5 Ok6 Ok7 Ok8 Ok9 Ok10 Ok11 Ok12 Ok13 Ok14 Fk0 Fk1 Fk2 Fk3 Fk4 Fk5 Fk6 Fk7 Fk8 Fk9 Fk10 Fk11 Fk12 Fk13 Fk14 p e ha hc hk s m _ below hf ((Spec.applies_iff_loose hf).mp happ).1 ⟨rfl, State.Warmed39.refl s, rfl⟩ trivial
  refine ⟨n, _, h1, h2, h3, hpost _ _ _ _ _ _ ⟨Cond.after_iff.mpr rfl, Cond.after_iff.mpr (eq_i res_at (Term.int_eval (1)) rfl), trivial⟩ ⟨hq.1, hq.2.1, (hq.2.2.sift fun y hy => Or.inr (N y hy)).mono (by decide) (by decide)⟩⟩
theorem main_1_1 : Claimed_1_1 := comes_1 fun _ _ _ _ _ _ h hF => ⟨h.1, hF⟩
theorem main_1_2 : Claimed_1_2 := comes_1 fun _ _ _ _ _ _ h hF => ⟨h.2.1, hF⟩
end Jvm.Pilot.@@N@@
namespace Jvm.Pilot.@@N@@
open Jvm Jvm.ClassFile Sem Op Lib Jvm.Free Jvm.Stand Jvm.Pilot.@@N@@.Jvm.D
/-! MADE BY PROGRAM (witnessworld.py) out of the Statement's table words and the real class files: 16 classes; the members and pool entries that the words name. The judged class is class 1, her method 1. -/
namespace start1
open Jvm.ClassFile
def u (s : String) : CpInfo := .utf8 (stringToUtf16 s)
/-- a pool by its gaps: so many unusable entries, then the entry; so many at the end -/
def gap : Nat → List CpInfo → List CpInfo
  | 0, r => r
  | n + 1, r => .unusable :: gap n r
def poolList (es : List (Nat × CpInfo)) (last : Nat) : List CpInfo := es.foldr (fun e r => gap e.1 (e.2 :: r)) (gap last [])
def pool (es : List (Nat × CpInfo)) (last : Nat) : Array CpInfo := ⟨poolList es last⟩
def fileOf (pool : Array CpInfo) (this : Nat) (attrs : Array Attribute := #[]) (ms : Array MethodInfo := #[]) (fl : Nat := 33) (sup : Nat := 0) (ifs : Array Nat := #[]) (fds : Array FieldInfo := #[]) : ClassFile where
  minorVersion := 0
  majorVersion := 65
  constantPool := pool
  accessFlags := fl
  thisClass := this
  superClass := sup
  interfaces := ifs
  fields := fds
  methods := ms
  attributes := attrs
def plain (name : String) (sup : Option ClassId) : Class where
  name := name
  kind := .ordinary
  loader := none
  accessFlags := 33
  super := sup
  interfaces := #[]
  cf := none
  fields := #[]
  methods := #[]
  instanceTypes := #[]
  staticTypes := #[]
  resolved := #[]
  callSites := []
  init := .initialized
  statics := none
  mirror := none

def pool0 : Array CpInfo := pool [(5, u "<init>"), (0, u "()V"), (1, .class_ 10), (1, u "java/lang/Object")] 113

def k0m0 : Method := { name := "<init>", desc := "()V", sig := { parameters := [], returnType := none }, accessFlags := 1, code := none }
/-- java/lang/Object -/
def k0 : Class := { plain "java/lang/Object" none with
  accessFlags := 33
  interfaces := #[]
  cf := some (fileOf pool0 8 #[] #[{ accessFlags := 1, nameIndex := 5, descriptorIndex := 6, attributes := #[] }] 33 0 #[] #[])
  fields := #[]
  methods := #[k0m0]
  instanceTypes := #[]
  staticTypes := #[]
  resolved := Array.replicate 124 none
  statics := none }

def pool1 : Array CpInfo := pool [(2, .class_ 4), (1, u "java/lang/Object"), (0, u "<init>"), (0, u "()V"), (0, .class_ 8), (0, u "com/example/footprint_to_feed/footprinttofeed/SearchKey"), (0, .fieldref 7 10), (0, .nameAndType 11 12), (0, u "Q"), (0, u "Lcom/example/footprint_to_feed/footprinttofeed/SearchKey;"), (0, .fieldref 7 14), (0, .nameAndType 15 12), (0, u "COUNT"), (0, .fieldref 7 17), (0, .nameAndType 18 12), (0, u "START_INDEX"), (0, .fieldref 7 20), (0, .nameAndType 21 12), (0, u "START_PAGE"), (0, .fieldref 7 23), (0, .nameAndType 24 12), (0, u "BBOX"), (0, .fieldref 7 26), (0, .nameAndType 27 12), (0, u "GEOM"), (0, .fieldref 7 29), (0, .nameAndType 30 12), (0, u "LOC"), (0, .fieldref 7 32), (0, .nameAndType 33 12), (0, u "REL"), (0, .fieldref 7 35), (0, .nameAndType 36 12), (0, u "LAT"), (0, .fieldref 7 38), (0, .nameAndType 39 12), (0, u "LON"), (0, .fieldref 7 41), (0, .nameAndType 42 12), (0, u "RADIUS"), (0, .fieldref 7 44), (0, .nameAndType 45 12), (0, u "ID"), (0, .fieldref 7 47), (0, .nameAndType 48 12), (0, u "START_DATE"), (0, .fieldref 7 50), (0, .nameAndType 51 12), (0, u "STOP_DATE"), (0, .fieldref 7 53), (0, .nameAndType 54 12), (0, u "CLIENT_ID"), (0, .integer 2147483647), (0, .methodref 7 57), (0, .nameAndType 58 59), (0, u "bound"), (0, u "()Z"), (0, .methodref 7 61), (0, .nameAndType 62 63), (0, u "parameter"), (0, u "()Ljava/lang/String;"), (0, .class_ 65), (0, u "com/example/footprint_to_feed/footprinttofeed/SearchKeyBoundPinLaw"), (2, u "law"), (0, u "(I)Z")] 5

def k1m0 : Method := { name := "<init>", desc := "()V", sig := { parameters := [], returnType := none }, accessFlags := 1, code := none }
def k1c1 : Code := { maxStack := 4, maxLocals := 6, code := code, exceptionTable := #[], attributes := #[] }
def k1m1 : Method := { name := "law", desc := "(I)Z", sig := { parameters := [.int], returnType := some .boolean }, accessFlags := 9, code := some k1c1 }
/-- com/example/footprint_to_feed/footprinttofeed/SearchKeyBoundPinLaw -/
def k1 : Class := { plain "com/example/footprint_to_feed/footprinttofeed/SearchKeyBoundPinLaw" (some 0) with
  accessFlags := 49
  interfaces := #[]
  cf := some (fileOf pool1 64 #[] #[{ accessFlags := 1, nameIndex := 5, descriptorIndex := 6, attributes := #[] }, { accessFlags := 9, nameIndex := 68, descriptorIndex := 69, attributes := #[] }] 49 2 #[] #[])
  fields := #[]
  methods := #[k1m0, k1m1]
  instanceTypes := #[]
  staticTypes := #[]
  resolved := Array.replicate 75 none
  statics := none }

def pool2 : Array CpInfo := pool [(1, .class_ 2), (0, u "java/lang/constant/Constable"), (0, .class_ 4), (0, u "java/lang/Object")] 6

/-- java/lang/constant/Constable -/
def k2 : Class := { plain "java/lang/constant/Constable" (some 0) with
  accessFlags := 1537
  interfaces := #[]
  cf := some (fileOf pool2 1 #[] #[] 1537 3 #[] #[])
  fields := #[]
  methods := #[]
  instanceTypes := #[]
  staticTypes := #[]
  resolved := Array.replicate 11 none
  statics := none }

def pool3 : Array CpInfo := pool [(1, .class_ 2), (0, u "java/lang/Comparable"), (0, .class_ 4), (0, u "java/lang/Object")] 7

/-- java/lang/Comparable -/
def k3 : Class := { plain "java/lang/Comparable" (some 0) with
  accessFlags := 1537
  interfaces := #[]
  cf := some (fileOf pool3 1 #[] #[] 1537 3 #[] #[])
  fields := #[]
  methods := #[]
  instanceTypes := #[]
  staticTypes := #[]
  resolved := Array.replicate 12 none
  statics := none }

def pool4 : Array CpInfo := pool [(1, .class_ 2), (0, u "java/io/Serializable"), (0, .class_ 4), (0, u "java/lang/Object")] 2

/-- java/io/Serializable -/
def k4 : Class := { plain "java/io/Serializable" (some 0) with
  accessFlags := 1537
  interfaces := #[]
  cf := some (fileOf pool4 1 #[] #[] 1537 3 #[] #[])
  fields := #[]
  methods := #[]
  instanceTypes := #[]
  staticTypes := #[]
  resolved := Array.replicate 7 none
  statics := none }

def pool5 : Array CpInfo := pool [(2, .class_ 4), (1, u "java/lang/Enum"), (0, u "name"), (0, u "Ljava/lang/String;"), (2, u "ordinal"), (0, u "I"), (1, .class_ 14), (1, u "java/lang/Object"), (4, u "hash"), (86, .class_ 108), (1, u "java/lang/Enum$EnumDesc"), (2, .class_ 112), (0, u "java/lang/constant/Constable"), (0, .class_ 114), (0, u "java/lang/Comparable"), (0, .class_ 116), (0, u "java/io/Serializable")] 87

/-- java/lang/Enum -/
def k5 : Class := { plain "java/lang/Enum" (some 0) with
  accessFlags := 1057
  interfaces := #[2, 3, 4]
  cf := some (fileOf pool5 2 #[.nestMembers #[106]] #[] 1057 12 #[111, 113, 115] #[{ accessFlags := 18, nameIndex := 5, descriptorIndex := 6, attributes := #[] }, { accessFlags := 18, nameIndex := 9, descriptorIndex := 10, attributes := #[] }, { accessFlags := 2, nameIndex := 19, descriptorIndex := 10, attributes := #[] }])
  fields := #[{ name := "name", type := (.object "java/lang/String"), accessFlags := 18, slot := 0, constantValue := 0 }, { name := "ordinal", type := .int, accessFlags := 18, slot := 1, constantValue := 0 }, { name := "hash", type := .int, accessFlags := 2, slot := 2, constantValue := 0 }]
  methods := #[]
  instanceTypes := #[(.object "java/lang/String"), .int, .int]
  staticTypes := #[]
  resolved := Array.replicate 204 none
  statics := none }

def pool6 : Array CpInfo := pool [(1, .class_ 2), (0, u "com/example/footprint_to_feed/footprinttofeed/SearchKey"), (2, u "Q"), (0, u "Lcom/example/footprint_to_feed/footprinttofeed/SearchKey;"), (2, u "COUNT"), (2, u "START_INDEX"), (2, u "START_PAGE"), (2, u "BBOX"), (2, u "GEOM"), (2, u "LOC"), (2, u "REL"), (2, u "LAT"), (2, u "LON"), (2, u "RADIUS"), (2, u "ID"), (2, u "START_DATE"), (2, u "STOP_DATE"), (2, u "CLIENT_ID"), (2, u "$VALUES"), (0, u "[Lcom/example/footprint_to_feed/footprinttofeed/SearchKey;"), (6, .class_ 61), (1, u "java/lang/Enum"), (11, u "key"), (0, u "Ljava/lang/String;"), (2, u "namespace"), (0, u "Lcom/example/footprint_to_feed/footprinttofeed/Namespace;"), (0, .fieldref 1 80), (0, .nameAndType 81 74), (0, u "parameter"), (2, u "label"), (2, u "title"), (2, u "minimum"), (0, u "Ljava/lang/Integer;"), (2, u "maximum"), (38, u "bound"), (0, u "()Z"), (27, u "()Ljava/lang/String;")] 191

def k6c0 : Code := { maxStack := 1, maxLocals := 1, code := prog_16_method_7_code, exceptionTable := #[], attributes := #[] }
def k6m0 : Method := { name := "bound", desc := "()Z", sig := { parameters := [], returnType := some .boolean }, accessFlags := 0, code := some k6c0 }
def k6c1 : Code := { maxStack := 1, maxLocals := 1, code := prog_16_method_9_code, exceptionTable := #[], attributes := #[] }
def k6m1 : Method := { name := "parameter", desc := "()Ljava/lang/String;", sig := { parameters := [], returnType := some (.object "java/lang/String") }, accessFlags := 0, code := some k6c1 }
/-- com/example/footprint_to_feed/footprinttofeed/SearchKey -/
def k6 : Class := { plain "com/example/footprint_to_feed/footprinttofeed/SearchKey" (some 5) with
  accessFlags := 16432
  interfaces := #[]
  cf := some (fileOf pool6 1 #[] #[{ accessFlags := 0, nameIndex := 133, descriptorIndex := 134, attributes := #[] }, { accessFlags := 0, nameIndex := 81, descriptorIndex := 162, attributes := #[] }] 16432 59 #[] #[{ accessFlags := 16409, nameIndex := 5, descriptorIndex := 6, attributes := #[] }, { accessFlags := 16409, nameIndex := 9, descriptorIndex := 6, attributes := #[] }, { accessFlags := 16409, nameIndex := 12, descriptorIndex := 6, attributes := #[] }, { accessFlags := 16409, nameIndex := 15, descriptorIndex := 6, attributes := #[] }, { accessFlags := 16409, nameIndex := 18, descriptorIndex := 6, attributes := #[] }, { accessFlags := 16409, nameIndex := 21, descriptorIndex := 6, attributes := #[] }, { accessFlags := 16409, nameIndex := 24, descriptorIndex := 6, attributes := #[] }, { accessFlags := 16409, nameIndex := 27, descriptorIndex := 6, attributes := #[] }, { accessFlags := 16409, nameIndex := 30, descriptorIndex := 6, attributes := #[] }, { accessFlags := 16409, nameIndex := 33, descriptorIndex := 6, attributes := #[] }, { accessFlags := 16409, nameIndex := 36, descriptorIndex := 6, attributes := #[] }, { accessFlags := 16409, nameIndex := 39, descriptorIndex := 6, attributes := #[] }, { accessFlags := 16409, nameIndex := 42, descriptorIndex := 6, attributes := #[] }, { accessFlags := 16409, nameIndex := 45, descriptorIndex := 6, attributes := #[] }, { accessFlags := 16409, nameIndex := 48, descriptorIndex := 6, attributes := #[] }, { accessFlags := 18, nameIndex := 73, descriptorIndex := 74, attributes := #[] }, { accessFlags := 18, nameIndex := 77, descriptorIndex := 78, attributes := #[] }, { accessFlags := 18, nameIndex := 81, descriptorIndex := 74, attributes := #[] }, { accessFlags := 18, nameIndex := 84, descriptorIndex := 74, attributes := #[] }, { accessFlags := 18, nameIndex := 87, descriptorIndex := 74, attributes := #[] }, { accessFlags := 18, nameIndex := 90, descriptorIndex := 91, attributes := #[] }, { accessFlags := 18, nameIndex := 94, descriptorIndex := 91, attributes := #[] }, { accessFlags := 4122, nameIndex := 51, descriptorIndex := 52, attributes := #[] }])
  fields := #[{ name := "Q", type := (.object "com/example/footprint_to_feed/footprinttofeed/SearchKey"), accessFlags := 16409, slot := 0, constantValue := 0 }, { name := "COUNT", type := (.object "com/example/footprint_to_feed/footprinttofeed/SearchKey"), accessFlags := 16409, slot := 1, constantValue := 0 }, { name := "START_INDEX", type := (.object "com/example/footprint_to_feed/footprinttofeed/SearchKey"), accessFlags := 16409, slot := 2, constantValue := 0 }, { name := "START_PAGE", type := (.object "com/example/footprint_to_feed/footprinttofeed/SearchKey"), accessFlags := 16409, slot := 3, constantValue := 0 }, { name := "BBOX", type := (.object "com/example/footprint_to_feed/footprinttofeed/SearchKey"), accessFlags := 16409, slot := 4, constantValue := 0 }, { name := "GEOM", type := (.object "com/example/footprint_to_feed/footprinttofeed/SearchKey"), accessFlags := 16409, slot := 5, constantValue := 0 }, { name := "LOC", type := (.object "com/example/footprint_to_feed/footprinttofeed/SearchKey"), accessFlags := 16409, slot := 6, constantValue := 0 }, { name := "REL", type := (.object "com/example/footprint_to_feed/footprinttofeed/SearchKey"), accessFlags := 16409, slot := 7, constantValue := 0 }, { name := "LAT", type := (.object "com/example/footprint_to_feed/footprinttofeed/SearchKey"), accessFlags := 16409, slot := 8, constantValue := 0 }, { name := "LON", type := (.object "com/example/footprint_to_feed/footprinttofeed/SearchKey"), accessFlags := 16409, slot := 9, constantValue := 0 }, { name := "RADIUS", type := (.object "com/example/footprint_to_feed/footprinttofeed/SearchKey"), accessFlags := 16409, slot := 10, constantValue := 0 }, { name := "ID", type := (.object "com/example/footprint_to_feed/footprinttofeed/SearchKey"), accessFlags := 16409, slot := 11, constantValue := 0 }, { name := "START_DATE", type := (.object "com/example/footprint_to_feed/footprinttofeed/SearchKey"), accessFlags := 16409, slot := 12, constantValue := 0 }, { name := "STOP_DATE", type := (.object "com/example/footprint_to_feed/footprinttofeed/SearchKey"), accessFlags := 16409, slot := 13, constantValue := 0 }, { name := "CLIENT_ID", type := (.object "com/example/footprint_to_feed/footprinttofeed/SearchKey"), accessFlags := 16409, slot := 14, constantValue := 0 }, { name := "key", type := (.object "java/lang/String"), accessFlags := 18, slot := 3, constantValue := 0 }, { name := "namespace", type := (.object "com/example/footprint_to_feed/footprinttofeed/Namespace"), accessFlags := 18, slot := 4, constantValue := 0 }, { name := "parameter", type := (.object "java/lang/String"), accessFlags := 18, slot := 5, constantValue := 0 }, { name := "label", type := (.object "java/lang/String"), accessFlags := 18, slot := 6, constantValue := 0 }, { name := "title", type := (.object "java/lang/String"), accessFlags := 18, slot := 7, constantValue := 0 }, { name := "minimum", type := (.object "java/lang/Integer"), accessFlags := 18, slot := 8, constantValue := 0 }, { name := "maximum", type := (.object "java/lang/Integer"), accessFlags := 18, slot := 9, constantValue := 0 }, { name := "$VALUES", type := (.array (.object "com/example/footprint_to_feed/footprinttofeed/SearchKey")), accessFlags := 4122, slot := 15, constantValue := 0 }]
  methods := #[k6m0, k6m1]
  instanceTypes := #[(.object "java/lang/String"), .int, .int, (.object "java/lang/String"), (.object "com/example/footprint_to_feed/footprinttofeed/Namespace"), (.object "java/lang/String"), (.object "java/lang/String"), (.object "java/lang/String"), (.object "java/lang/Integer"), (.object "java/lang/Integer")]
  staticTypes := #[(.object "com/example/footprint_to_feed/footprinttofeed/SearchKey"), (.object "com/example/footprint_to_feed/footprinttofeed/SearchKey"), (.object "com/example/footprint_to_feed/footprinttofeed/SearchKey"), (.object "com/example/footprint_to_feed/footprinttofeed/SearchKey"), (.object "com/example/footprint_to_feed/footprinttofeed/SearchKey"), (.object "com/example/footprint_to_feed/footprinttofeed/SearchKey"), (.object "com/example/footprint_to_feed/footprinttofeed/SearchKey"), (.object "com/example/footprint_to_feed/footprinttofeed/SearchKey"), (.object "com/example/footprint_to_feed/footprinttofeed/SearchKey"), (.object "com/example/footprint_to_feed/footprinttofeed/SearchKey"), (.object "com/example/footprint_to_feed/footprinttofeed/SearchKey"), (.object "com/example/footprint_to_feed/footprinttofeed/SearchKey"), (.object "com/example/footprint_to_feed/footprinttofeed/SearchKey"), (.object "com/example/footprint_to_feed/footprinttofeed/SearchKey"), (.object "com/example/footprint_to_feed/footprinttofeed/SearchKey"), (.array (.object "com/example/footprint_to_feed/footprinttofeed/SearchKey"))]
  resolved := Array.replicate 354 none
  statics := some 0 }

def pool7 : Array CpInfo := pool [(2, .class_ 4), (1, u "java/lang/CharSequence"), (42, .class_ 48), (0, u "java/lang/CharSequence$1CodePointIterator"), (10, .class_ 60), (0, u "java/lang/CharSequence$1CharIterator"), (5, .class_ 67), (0, u "java/lang/Object")] 63

/-- java/lang/CharSequence -/
def k7 : Class := { plain "java/lang/CharSequence" (some 0) with
  accessFlags := 1537
  interfaces := #[]
  cf := some (fileOf pool7 2 #[.nestMembers #[47, 59]] #[] 1537 66 #[] #[])
  fields := #[]
  methods := #[]
  instanceTypes := #[]
  staticTypes := #[]
  resolved := Array.replicate 131 none
  statics := none }

def pool8 : Array CpInfo := pool [(1, .class_ 2), (0, u "java/lang/constant/ConstantDesc"), (0, .class_ 4), (0, u "java/lang/Object")] 32

/-- java/lang/constant/ConstantDesc -/
def k8 : Class := { plain "java/lang/constant/ConstantDesc" (some 0) with
  accessFlags := 1537
  interfaces := #[]
  cf := some (fileOf pool8 1 #[] #[] 1537 3 #[] #[])
  fields := #[]
  methods := #[]
  instanceTypes := #[]
  staticTypes := #[]
  resolved := Array.replicate 37 none
  statics := none }

def pool9 : Array CpInfo := pool [(2, .class_ 4), (1, u "java/lang/Object"), (0, u "<init>"), (0, u "()V"), (3, .class_ 12), (1, u "java/lang/String"), (0, u "value"), (0, u "[B"), (2, u "coder"), (0, u "B"), (2, u "hash"), (0, u "I"), (2, u "hashIsZero"), (0, u "Z"), (13, u "COMPACT_STRINGS"), (534, .class_ 576), (0, u "java/lang/CharSequence"), (22, u "CASE_INSENSITIVE_ORDER"), (0, u "Ljava/util/Comparator;"), (500, u "serialPersistentFields"), (0, u "[Ljava/io/ObjectStreamField;"), (0, .class_ 1104), (0, u "java/lang/String$CaseInsensitiveComparator"), (1, .class_ 1107), (0, u "java/io/Serializable"), (0, .class_ 1109), (0, u "java/lang/Comparable"), (0, .class_ 1111), (0, u "java/lang/constant/Constable"), (0, .class_ 1113), (0, u "java/lang/constant/ConstantDesc"), (2, u "serialVersionUID"), (0, u "J"), (3, u "REPL"), (0, u "C"), (2, u "LATIN1"), (1, u "UTF16")] 323

def k9m0 : Method := { name := "<init>", desc := "()V", sig := { parameters := [], returnType := none }, accessFlags := 1, code := none }
/-- java/lang/String -/
def k9 : Class := { plain "java/lang/String" (some 0) with
  accessFlags := 49
  interfaces := #[4, 3, 7, 2, 8]
  cf := some (fileOf pool9 10 #[.nestMembers #[1103]] #[{ accessFlags := 1, nameIndex := 5, descriptorIndex := 6, attributes := #[] }] 49 2 #[1106, 1108, 575, 1110, 1112] #[{ accessFlags := 18, nameIndex := 13, descriptorIndex := 14, attributes := #[] }, { accessFlags := 18, nameIndex := 17, descriptorIndex := 18, attributes := #[] }, { accessFlags := 2, nameIndex := 21, descriptorIndex := 22, attributes := #[] }, { accessFlags := 2, nameIndex := 25, descriptorIndex := 26, attributes := #[] }, { accessFlags := 26, nameIndex := 1116, descriptorIndex := 1117, attributes := #[] }, { accessFlags := 24, nameIndex := 40, descriptorIndex := 26, attributes := #[] }, { accessFlags := 26, nameIndex := 1101, descriptorIndex := 1102, attributes := #[] }, { accessFlags := 26, nameIndex := 1121, descriptorIndex := 1122, attributes := #[] }, { accessFlags := 25, nameIndex := 599, descriptorIndex := 600, attributes := #[] }, { accessFlags := 24, nameIndex := 1125, descriptorIndex := 18, attributes := #[] }, { accessFlags := 24, nameIndex := 1127, descriptorIndex := 18, attributes := #[] }])
  fields := #[{ name := "value", type := (.array .byte), accessFlags := 18, slot := 0, constantValue := 0 }, { name := "coder", type := .byte, accessFlags := 18, slot := 1, constantValue := 0 }, { name := "hash", type := .int, accessFlags := 2, slot := 2, constantValue := 0 }, { name := "hashIsZero", type := .boolean, accessFlags := 2, slot := 3, constantValue := 0 }, { name := "serialVersionUID", type := .long, accessFlags := 26, slot := 0, constantValue := 0 }, { name := "COMPACT_STRINGS", type := .boolean, accessFlags := 24, slot := 1, constantValue := 0 }, { name := "serialPersistentFields", type := (.array (.object "java/io/ObjectStreamField")), accessFlags := 26, slot := 2, constantValue := 0 }, { name := "REPL", type := .char, accessFlags := 26, slot := 3, constantValue := 0 }, { name := "CASE_INSENSITIVE_ORDER", type := (.object "java/util/Comparator"), accessFlags := 25, slot := 4, constantValue := 0 }, { name := "LATIN1", type := .byte, accessFlags := 24, slot := 5, constantValue := 0 }, { name := "UTF16", type := .byte, accessFlags := 24, slot := 6, constantValue := 0 }]
  methods := #[k9m0]
  instanceTypes := #[(.array .byte), .byte, .int, .boolean]
  staticTypes := #[.long, .boolean, (.array (.object "java/io/ObjectStreamField")), .char, (.object "java/util/Comparator"), .byte, .byte]
  resolved := Array.replicate 1451 none
  statics := none }

def pool10 : Array CpInfo := pool [(1, u "java/lang/Cloneable"), (0, .class_ 1), (0, u "java/lang/Object"), (0, .class_ 3)] 3

/-- java/lang/Cloneable -/
def k10 : Class := { plain "java/lang/Cloneable" (some 0) with
  accessFlags := 1537
  interfaces := #[]
  cf := some (fileOf pool10 2 #[] #[] 1537 4 #[] #[])
  fields := #[]
  methods := #[]
  instanceTypes := #[]
  staticTypes := #[]
  resolved := Array.replicate 8 none
  statics := none }

/-- the primitive byte -/
def k11 : Class := { plain "byte" none with kind := .primitive 'B', accessFlags := 0x411 }
/-- [B -/
def k12 : Class := { plain "[B" (some 0) with kind := .array 11 .byte, interfaces := #[10, 4], accessFlags := 1041 }

/-- the primitive int -/
def k13 : Class := { plain "int" none with kind := .primitive 'I', accessFlags := 0x411 }
/-- [I -/
def k14 : Class := { plain "[I" (some 0) with kind := .array 13 .int, interfaces := #[10, 4], accessFlags := 1041 }

/-- [Lcom/example/footprint_to_feed/footprinttofeed/SearchKey; -/
def k15 : Class := { plain "[Lcom/example/footprint_to_feed/footprinttofeed/SearchKey;" (some 0) with kind := .array 6 (.object "com/example/footprint_to_feed/footprinttofeed/SearchKey"), interfaces := #[10, 4], accessFlags := 1041 }

def heap : Heap := #[{ cls := 6, slots := #[.ref 1, .ref 2, .ref 3, .ref 4, .ref 5, .ref 6, .ref 7, .ref 8, .ref 9, .ref 10, .ref 11, .ref 12, .ref 13, .ref 14, .ref 15, .null], vm := .statics 6 },
  { cls := 6, slots := #[.null, .int 0, .int 0, .null, .null, .ref 16, .null, .null, .null, .null], vm := .none },
  { cls := 6, slots := #[.null, .int 1, .int 0, .null, .null, .ref 17, .null, .null, .null, .null], vm := .none },
  { cls := 6, slots := #[.null, .int 2, .int 0, .null, .null, .ref 18, .null, .null, .null, .null], vm := .none },
  { cls := 6, slots := #[.null, .int 3, .int 0, .null, .null, .ref 19, .null, .null, .null, .null], vm := .none },
  { cls := 6, slots := #[.null, .int 4, .int 0, .null, .null, .ref 20, .null, .null, .null, .null], vm := .none },
  { cls := 6, slots := #[.null, .int 5, .int 0, .null, .null, .ref 21, .null, .null, .null, .null], vm := .none },
  { cls := 6, slots := #[.null, .int 6, .int 0, .null, .null, .ref 22, .null, .null, .null, .null], vm := .none },
  { cls := 6, slots := #[.null, .int 7, .int 0, .null, .null, .ref 23, .null, .null, .null, .null], vm := .none },
  { cls := 6, slots := #[.null, .int 8, .int 0, .null, .null, .ref 24, .null, .null, .null, .null], vm := .none },
  { cls := 6, slots := #[.null, .int 9, .int 0, .null, .null, .ref 25, .null, .null, .null, .null], vm := .none },
  { cls := 6, slots := #[.null, .int 10, .int 0, .null, .null, .ref 26, .null, .null, .null, .null], vm := .none },
  { cls := 6, slots := #[.null, .int 11, .int 0, .null, .null, .ref 27, .null, .null, .null, .null], vm := .none },
  { cls := 6, slots := #[.null, .int 12, .int 0, .null, .null, .ref 28, .null, .null, .null, .null], vm := .none },
  { cls := 6, slots := #[.null, .int 13, .int 0, .null, .null, .ref 29, .null, .null, .null, .null], vm := .none },
  { cls := 6, slots := #[.null, .int 14, .int 0, .null, .null, .null, .null, .null, .null, .null], vm := .none },
  { cls := 9, slots := #[.null, .int 0, .int 0, .int 0], vm := .none },
  { cls := 9, slots := #[.null, .int 0, .int 0, .int 0], vm := .none },
  { cls := 9, slots := #[.null, .int 0, .int 0, .int 0], vm := .none },
  { cls := 9, slots := #[.null, .int 0, .int 0, .int 0], vm := .none },
  { cls := 9, slots := #[.null, .int 0, .int 0, .int 0], vm := .none },
  { cls := 9, slots := #[.null, .int 0, .int 0, .int 0], vm := .none },
  { cls := 9, slots := #[.null, .int 0, .int 0, .int 0], vm := .none },
  { cls := 9, slots := #[.null, .int 0, .int 0, .int 0], vm := .none },
  { cls := 9, slots := #[.null, .int 0, .int 0, .int 0], vm := .none },
  { cls := 9, slots := #[.null, .int 0, .int 0, .int 0], vm := .none },
  { cls := 9, slots := #[.null, .int 0, .int 0, .int 0], vm := .none },
  { cls := 9, slots := #[.null, .int 0, .int 0, .int 0], vm := .none },
  { cls := 9, slots := #[.null, .int 0, .int 0, .int 0], vm := .none },
  { cls := 9, slots := #[.null, .int 0, .int 0, .int 0], vm := .none }]
def classes : Array Class := #[k0, k1, k2, k3, k4, k5, k6, k7, k8, k9, k10, k11, k12, k13, k14, k15]
def interned : List (Array UInt16 × Addr) := []
def slotsUsed : Nat := 222
def theMethod : MethodId := ⟨1, 1⟩
def args0 : Array Value := #[.int 5]
def aboutOver (below : List Frame) : State where
  vm := { classes := classes, interned := interned.toArray }
  heap := heap
  slotsUsed := slotsUsed
  threads := #[{ frames := .invoking theMethod args0 :: below }]
def below0 : List Frame := [.native { method := ⟨0, 0⟩, args := #[] }]
def about1 : State := aboutOver below0
def p0 : Program := .bare "" "" ""
def e0 : Env := launch0.env 0 0 0
theorem w_frames : about1.frames = Frame.invoking theMethod args0 :: below0 := rfl
set_option maxRecDepth 65536 in
theorem w_args : argsFit about1.vm theMethod args0 = true := by decide +kernel
set_option maxRecDepth 65536 in
theorem w_heap : heapFits about1 = true := by decide +kernel
set_option maxRecDepth 65536 in
theorem w_runnable : about1.curStatus? = some .runnable := by decide +kernel
set_option maxRecDepth 65536 in
theorem w_alone : about1.alone = true := by decide +kernel
set_option maxRecDepth 65536 in
theorem w_named : about1.methodNamed? x = some theMethod := by decide +kernel
set_option maxRecDepth 65536 in
theorem w_hears : about1.hears theMethod below0 = true := by decide +kernel
set_option maxRecDepth 65536 in
theorem w_ripe : about1.ripe theMethod args0 below0 = true := by decide +kernel
theorem w_running : about1.status = .running := rfl
set_option maxRecDepth 65536 in
theorem w_room : about1.hasRoom e0.platform room_1 = true :=
  launch0.hasRoom_least _ room_1 (by decide +kernel) (by decide +kernel) (by decide +kernel) (by decide +kernel) (by decide +kernel) (by decide +kernel)
theorem allAtoms_all (ts : List Jvm.Cond) (a : Array Jvm.Value) (st : Jvm.State) : (allAtoms ts).before a st = ts.all (fun c => c.before a st) := by
  induction ts with
  | nil => rfl
  | cons c t ih =>
    show (Jvm.Cond.and c (allAtoms t)).before a st = _
    rw [Jvm.Cond.before_and, ih, List.all_cons]
def words1 : List Jvm.Cond := Jvm.Cond.code x code maxLocals ret :: tables_1
/-- a 'code' word, met by the world's own term for the bytes: nothing is compared byte by byte -/
theorem code_word {y : MethodName} {bytes : ByteArray} {mx : Nat} {rt : Option FieldType} {a : Array Value} {s : State} {m : MethodId} {meth : Method} {c : Code} (h1 : s.methodNamed? y = some m) (h2 : s.vm.method? m = some meth) (h3 : meth.code = some c) (h4 : c.code = bytes)
    (h5 : (c.maxLocals == mx && c.exceptionTable.isEmpty && decide (c.maxStack ≤ mostOperands) && decide (meth.sig.returnType = rt) && !meth.locks && decide (parseMethodDescriptor y.desc = some meth.sig)) = true) : (Jvm.Cond.code y bytes mx rt).before a s = true := by
  simp only [Bool.and_eq_true, beq_iff_eq, Bool.not_eq_true', decide_eq_true_eq] at h5
  obtain ⟨⟨⟨⟨⟨g1, g2⟩, g3⟩, g4⟩, g5⟩, g6⟩ := h5
  simp [Cond.before, Cond.holds, Cond.value, h1, h2, h3, h4, g1, g2, g3, g4, g5, g6]
def isCode : Jvm.Cond → Bool
  | .code _ _ _ _ => true
  | _ => false
theorem all_split {L : List Jvm.Cond} {P : Jvm.Cond → Bool} (h1 : L.all (fun c => isCode c || P c) = true) (h2 : ∀ c ∈ L.filter isCode, P c = true) : L.all P = true := by
  refine List.all_eq_true.mpr fun c hc => ?_
  have h := List.all_eq_true.mp h1 c hc
  rcases Bool.eq_false_or_eq_true (isCode c) with hi | hi
  · exact h2 c (List.mem_filter.mpr ⟨hc, hi⟩)
  · simpa [hi] using h
set_option maxRecDepth 65536 in
theorem w_c0 : (Jvm.Cond.code x code maxLocals ret).before args0 about1 = true := code_word (m := ⟨1, 1⟩) (meth := k1m1) (c := k1c1) (by decide +kernel) rfl rfl rfl (by decide +kernel)
set_option maxRecDepth 65536 in
theorem w_c1 : (Jvm.Cond.code ({ cls := "com/example/footprint_to_feed/footprinttofeed/SearchKey", name := "bound", desc := "()Z" } : Jvm.MethodName) prog_16_method_7_code (1 : Nat) (Option.some Jvm.ClassFile.FieldType.boolean)).before args0 about1 = true := code_word (m := ⟨6, 0⟩) (meth := k6m0) (c := k6c0) (by decide +kernel) rfl rfl rfl (by decide +kernel)
set_option maxRecDepth 65536 in
theorem w_c2 : (Jvm.Cond.code ({ cls := "com/example/footprint_to_feed/footprinttofeed/SearchKey", name := "parameter", desc := "()Ljava/lang/String;" } : Jvm.MethodName) prog_16_method_9_code (1 : Nat) (Option.some (Jvm.ClassFile.FieldType.object "java/lang/String"))).before args0 about1 = true := code_word (m := ⟨6, 1⟩) (meth := k6m1) (c := k6c1) (by decide +kernel) rfl rfl rfl (by decide +kernel)
def codes1 : List Jvm.Cond := [Jvm.Cond.code x code maxLocals ret, Jvm.Cond.code ({ cls := "com/example/footprint_to_feed/footprinttofeed/SearchKey", name := "bound", desc := "()Z" } : Jvm.MethodName) prog_16_method_7_code (1 : Nat) (Option.some Jvm.ClassFile.FieldType.boolean), Jvm.Cond.code ({ cls := "com/example/footprint_to_feed/footprinttofeed/SearchKey", name := "parameter", desc := "()Ljava/lang/String;" } : Jvm.MethodName) prog_16_method_9_code (1 : Nat) (Option.some (Jvm.ClassFile.FieldType.object "java/lang/String"))]
set_option maxRecDepth 65536 in
theorem codes_eq : words1.filter isCode = codes1 := rfl
theorem w_codes : ∀ c ∈ words1.filter isCode, c.before args0 about1 = true := by
  rw [codes_eq]
  intro c hc
  simp only [codes1, List.mem_cons, List.not_mem_nil, or_false] at hc
  rcases hc with rfl | rfl | rfl
  · exact w_c0
  · exact w_c1
  · exact w_c2
set_option maxRecDepth 65536 in
theorem w_t1 : (words1.take 24).all (fun c => isCode c || c.before args0 about1) = true := by decide +kernel
set_option maxRecDepth 65536 in
theorem w_t2 : (words1.drop 24).all (fun c => isCode c || c.before args0 about1) = true := by decide +kernel
theorem w_tables : (allAtoms (Jvm.Cond.code x code maxLocals ret :: tables_1)).before args0 about1 = true := by
  rw [allAtoms_all]
  show words1.all (fun c => c.before args0 about1) = true
  refine all_split ?_ w_codes
  rw [← List.take_append_drop 24 words1, List.all_append, w_t1, w_t2]
  rfl
set_option maxRecDepth 65536 in
theorem w_case : (Jvm.Cond.and given_1 narrow_1).before args0 about1 = true := by decide +kernel
theorem w_applies : (headSpec (Jvm.Cond.code x code maxLocals ret :: tables_1) room_1).applies x e0.platform about1 = true :=
  (Spec.applies_iff w_frames).mpr ⟨w_running, w_runnable, w_alone, w_named, w_hears, w_ripe, w_room, w_tables⟩
theorem atStart : AtStart classFile x code maxLocals ret World_1 tables_1 room_1 Calls_1 rest_1 Pre_1 launch0 p0 e0 about1 theMethod args0 below0 :=
  ⟨lists_1, trivial, launch0.admits_env _ _ _, launch0.least_env, fairChoices_fair.cas, fairChoices_fair.clock, w_frames, w_args, w_heap, w_applies, trivial, trivial, w_case⟩
end start1
theorem witness_1 : WitnessClaimed_1 := ⟨start1.p0, start1.e0, start1.about1, start1.theMethod, start1.args0, start1.below0, start1.atStart⟩
end Jvm.Pilot.@@N@@
