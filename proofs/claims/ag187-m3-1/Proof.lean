import JvmDerived
import JvmDerived.Pilot.@@N@@Statement
import JvmDerived.Pilot.@@N@@Code
set_option linter.unusedVariables false
set_option linter.unusedSimpArgs false
namespace Jvm.Pilot.@@N@@
open Jvm Jvm.ClassFile Sem Op Lib Jvm.Free Jvm.Stand Jvm.LawKit Jvm.RoadKit Bundle Jvm.Pilot.@@N@@.Jvm.D
abbrev own_jv (x : Int64) : Slot := .val (.long x)
theorem own_i_lt {a b : Int32} (h : a < b) : a.toInt < b.toInt := Int32.lt_iff_toInt_lt.mp h
theorem own_i_nlt {a b : Int32} (h : ¬ a < b) : b.toInt ≤ a.toInt := Int.not_lt.mp fun q => h (Int32.lt_iff_toInt_lt.mpr q)
theorem own_i_eq {a b : Int32} (h : a = b) : a.toInt = b.toInt := congrArg Int32.toInt h
theorem own_i_ne {a b : Int32} (h : ¬ a = b) : ¬ a.toInt = b.toInt := fun q => h (Int32.toInt_inj.mp q)
theorem own_j_lt {a b : Int64} (h : a < b) : a.toInt < b.toInt := Int64.lt_iff_toInt_lt.mp h
theorem own_j_nlt {a b : Int64} (h : ¬ a < b) : b.toInt ≤ a.toInt := Int.not_lt.mp fun q => h (Int64.lt_iff_toInt_lt.mpr q)
theorem own_j_eq {a b : Int64} (h : a = b) : a.toInt = b.toInt := congrArg Int64.toInt h
theorem own_j_ne {a b : Int64} (h : ¬ a = b) : ¬ a.toInt = b.toInt := fun q => h (Int64.toInt_inj.mp q)
theorem own_b1 {P : Prop} (h : P) : ((1 : Int32).toInt = 1 ∧ P) ∨ ((1 : Int32).toInt = 0 ∧ ¬ P) := Or.inl ⟨by decide, h⟩
theorem own_b0 {P : Prop} (h : ¬ P) : ((0 : Int32).toInt = 1 ∧ P) ∨ ((0 : Int32).toInt = 0 ∧ ¬ P) := Or.inr ⟨by decide, h⟩
theorem own_cat {w : Value} (hw : w.isRef = true) : w.category = 1 := by rcases ref_cases hw with rfl | ⟨a, rfl⟩ <;> rfl
theorem own_fitR {t : FieldType} (ht : t.isReference = true) {w : Value} (hw : w.isRef = true) : fits t w = true := by
  rcases ref_cases hw with rfl | ⟨a, rfl⟩ <;> cases t <;> first | rfl | cases ht
theorem own_static {s : State} {args : Array Value} {C n d K : String} (h : (Jvm.Cond.exactly (Jvm.Term.static C n d) K).value args s none s [] = some true) (wi : (Jvm.Cond.initialized C).before args s = true) (wl : (Jvm.Cond.laysStatic C n d).before args s = true) : ∃ a, (Jvm.Term.static C n d).eval args s none [] s = some (.ref a) ∧ Sta s s.heap C n d (.ref a) ∧ Exa s s.heap a K := by
  obtain ⟨a, ev⟩ := exa_v h
  exact ⟨a, ev, Sta.start ev (Or.inr ⟨wi, wl⟩), Exa.start ev h⟩
theorem own_teq {s : State} {args : Array Value} {t : Jvm.Term} {x : Int32} (h : (Jvm.Cond.eq t (Jvm.Term.int x)).value args s none s [] = some true) : t.eval args s none [] s = some (.int x) := by
  simp only [Cond.value, Term.int_eval] at h
  cases hv : t.eval args s none [] s with
  | none => simp [hv] at h
  | some v => cases v <;> simp [hv] at h ⊢; exact h
theorem own_fint {s : State} {args : Array Value} {t : Jvm.Term} {C n d : String} {x : Int32} {a : Addr} (h : (Jvm.Cond.eq (Jvm.Term.field t C n d) (Jvm.Term.int x)).value args s none s [] = some true) (e : t.eval args s none [] s = some (.ref a)) : s.fieldOf? a C n d = some (.int x) := by
  have q := fld_at (C := C) (n := n) (dd := d) e
  simp only [Cond.value, q, Term.int_eval] at h
  cases hv : s.fieldOf? a C n d with
  | none => simp [hv] at h
  | some v => cases v <;> simp [hv] at h ⊢; exact h
theorem own_ord {s : State} {args : Array Value} {t t' : Jvm.Term} {C n d : String} {x y : Int32} {a b : Nat} (h : (Jvm.Cond.eq (Jvm.Term.field t C n d) (Jvm.Term.int x)).value args s none s [] = some true) (e : t.eval args s none [] s = some (.ref a)) (h' : (Jvm.Cond.eq (Jvm.Term.field t' C n d) (Jvm.Term.int y)).value args s none s [] = some true) (e' : t'.eval args s none [] s = some (.ref b)) (hn : x ≠ y) : ¬ a = b := fun q => by
  subst q
  have := (own_fint h e).symm.trans (own_fint h' e')
  cases this
  exact hn rfl
def own_O (Z : State) (a : Addr) (k : Int32) : Prop := Z.fieldOf? a "java/lang/Enum" "ordinal" "I" = some (.int k)
theorem own_one {Z : State} {a b : Nat} {i j : Int32} (h : own_O Z a i) (h' : own_O Z b j) (hn : i ≠ j) : ¬ a = b := fun q => by
  subst q
  have := Eq.symm h |>.trans h'
  cases this
  exact hn rfl
theorem own_fldR {s : State} {args : Array Value} {t : Jvm.Term} {C n d K : String} {a : Addr} (h : (Jvm.Cond.exactly (Jvm.Term.field t C n d) K).value args s none s [] = some true) (e : t.eval args s none [] s = some (.ref a)) : ∃ b, Fld s s.heap a C n d (.ref b) := by
  obtain ⟨b, ev⟩ := exa_v h
  rw [fld_at e] at ev
  exact ⟨b, Fld.start ev⟩
theorem own_fldN {s : State} {args : Array Value} {t : Jvm.Term} {C n d : String} {a : Addr} (h : (Jvm.Cond.eq (Jvm.Term.field t C n d) Jvm.Term.null).value args s none s [] = some true) (e : t.eval args s none [] s = some (.ref a)) : Fld s s.heap a C n d .null := by
  have ev := null_v h
  rw [fld_at e] at ev
  exact Fld.start ev
theorem own_ne {x y : Addr} (h : @Ne Nat x y) : x ≠ y := h
theorem own_lt {x : Addr} {y : Nat} (h : x < y) : @LT.lt Nat instLTNat x y := h
section OwnKit
variable {p : Program} {l : Launch} {e : Env} {R : Room} {s : State} {m : MethodId} {args : Array Value} {below : List Frame} {meth : Method} {c : Code} {T : State} {locs : List Loc} {cells slots : Nat} {Z : State} {a0 : Array Value} {h h' : Heap} {Q : Option Value → Heap → List Loc → Prop}
/-- from U the run comes to its end, and what it leaves is Q's -/
def own_Goes (p : Program) (e : Env) (below : List Frame) (s : State) (R : Room) (Q : Option Value → Heap → List Loc → Prop) (U : State) : Prop :=
  ∃ s₂ o, Steps p.tables e below U s₂ ∧ s₂.status = .running ∧ Ended s₂ below o ∧ ∃ v L, o = .returned v ∧ Q v s₂.heap L ∧ FrameEnd s o s₂ L R.cells R.slots
theorem own_st {U U' : State} (k : ∀ t, Steps p.tables e below U' t → Steps p.tables e below U t) (g : own_Goes p e below s R Q U') : own_Goes p e below s R Q U := by
  obtain ⟨s₂, o, h1, h2⟩ := g
  exact ⟨s₂, o, k _ h1, h2⟩
theorem own_fin (X : Stand p l e R s m args below meth c T locs cells slots) (hk : meth.locks = false) {v : Option Value} (hv : meth.sig.returnType = none → v = none) {U : State}
    (hs : ∀ fs, (∀ (f : JFrame) (acts : List Action), f.method = m → f.locked = none → f.entered = [] → (doReturn e (T.setTop f) acts v).1 = T.setFrames fs) → Steps p.tables e below U (T.setFrames fs))
    (hc : cells ≤ R.cells) (hl : slots ≤ R.slots) (q : Q v T.heap locs) : own_Goes p e below s R Q U := by
  obtain ⟨fs, hr, hrun, hended, hW, hsame⟩ := X.leave hv hk
  exact ⟨_, _, hs fs hr, hrun, hended, v, locs, rfl, q, ⟨v, rfl⟩, hW, hsame.mono hc hl⟩
theorem own_ret (X : Stand p l e R s m args below meth c T locs cells slots) (hx : p.tables.exec = Jvm.exec) (hk : meth.locks = false) {pc : Nat} {Ls : Array Slot} {w : Value} {t : FieldType} {i : Instr} {rest : List Value} (hret : meth.sig.returnType = some t) (hn : narrow t w = w)
    (hi : (i = .ireturn ∧ (t = .int ∨ t = .boolean ∨ t = .byte ∨ t = .char ∨ t = .short) ∧ ∃ z, w = .int z) ∨ (i = .lreturn ∧ t = .long ∧ ∃ z, w = .long z) ∨ (i = .dreturn ∧ t = .double ∧ ∃ z, w = .double z) ∨ (i = .freturn ∧ t = .float ∧ ∃ z, w = .float z) ∨ (i = .areturn ∧ t.isReference = true ∧ w.isRef = true))
    (hd : decode c.code pc = .ok (i, 1)) (hc : cells ≤ R.cells) (hl : slots ≤ R.slots) (q : Q (some w) T.heap locs) : own_Goes p e below s R Q (T.setTop (mkF m pc Ls (w :: rest))) :=
  own_fin X hk (fun h => by rw [hret] at h; cases h) (fun fs hr => retOut X hx hret hn hi hd hr) hc hl q
theorem own_retI (X : Stand p l e R s m args below meth c T locs cells slots) (hx : p.tables.exec = Jvm.exec) (hk : meth.locks = false) {pc : Nat} {Ls : Array Slot} {z : Int32} {rest : List Value} (hret : meth.sig.returnType = some .int)
    (hd : decode c.code pc = .ok (.ireturn, 1)) (hc : cells ≤ R.cells) (hl : slots ≤ R.slots) (q : Q (some (.int z)) T.heap locs) : own_Goes p e below s R Q (T.setTop (mkF m pc Ls (.int z :: rest))) :=
  own_ret X hx hk hret rfl (Or.inl ⟨rfl, Or.inl rfl, z, rfl⟩) hd hc hl q
theorem own_retJ (X : Stand p l e R s m args below meth c T locs cells slots) (hx : p.tables.exec = Jvm.exec) (hk : meth.locks = false) {pc : Nat} {Ls : Array Slot} {z : Int64} {rest : List Value} (hret : meth.sig.returnType = some .long)
    (hd : decode c.code pc = .ok (.lreturn, 1)) (hc : cells ≤ R.cells) (hl : slots ≤ R.slots) (q : Q (some (.long z)) T.heap locs) : own_Goes p e below s R Q (T.setTop (mkF m pc Ls (.long z :: rest))) :=
  own_ret X hx hk hret rfl (Or.inr (Or.inl ⟨rfl, rfl, z, rfl⟩)) hd hc hl q
theorem own_narR {t : FieldType} (ht : t.isReference = true) {w : Value} (hw : w.isRef = true) : narrow t w = w := by
  rcases ref_cases hw with rfl | ⟨a, rfl⟩ <;> cases t <;> first | rfl | cases ht
theorem own_retR (X : Stand p l e R s m args below meth c T locs cells slots) (hx : p.tables.exec = Jvm.exec) (hk : meth.locks = false) {pc : Nat} {Ls : Array Slot} {w : Value} {t : FieldType} {rest : List Value} (hret : meth.sig.returnType = some t) (ht : t.isReference = true) (hw : w.isRef = true)
    (hd : decode c.code pc = .ok (.areturn, 1)) (hc : cells ≤ R.cells) (hl : slots ≤ R.slots) (q : Q (some w) T.heap locs) : own_Goes p e below s R Q (T.setTop (mkF m pc Ls (w :: rest))) :=
  own_ret X hx hk hret (own_narR ht hw) (Or.inr (Or.inr (Or.inr (Or.inr ⟨rfl, ht, hw⟩)))) hd hc hl q
theorem own_retN (X : Stand p l e R s m args below meth c T locs cells slots) (hx : p.tables.exec = Jvm.exec) (hk : meth.locks = false) {pc : Nat} {Ls : Array Slot} {z : Int32} (z' : Int32) {t : FieldType} {rest : List Value} (hret : meth.sig.returnType = some t) (ht : t = .boolean ∨ t = .byte ∨ t = .char ∨ t = .short) (hz : nar t z = z')
    (hd : decode c.code pc = .ok (.ireturn, 1)) (hc : cells ≤ R.cells) (hl : slots ≤ R.slots) (q : Q (some (.int z')) T.heap locs) : own_Goes p e below s R Q (T.setTop (mkF m pc Ls (.int z :: rest))) := by
  subst hz
  exact own_fin X hk (fun h => by rw [hret] at h; cases h) (fun fs hr => retN X hx hret ht hd hr) hc hl q
theorem own_ret0 (X : Stand p l e R s m args below meth c T locs cells slots) (hx : p.tables.exec = Jvm.exec) (hk : meth.locks = false) {pc : Nat} {Ls : Array Slot} (hret : meth.sig.returnType = none)
    (hd : decode c.code pc = .ok (.return_, 1)) (hc : cells ≤ R.cells) (hl : slots ≤ R.slots) (q : Q none T.heap locs) : own_Goes p e below s R Q (T.setTop (mkF m pc Ls [])) :=
  own_fin X hk (fun _ => rfl) (fun fs hr => X.returnOut hx hret hd hr) hc hl q
theorem own_enter {y : MethodName} {bytes : ByteArray} {maxL : Nat} {ret : Option FieldType} {ws : List Jvm.Cond} {as' : Array Value} {h0 : Heap} {F : MethodId → JFrame}
    (hp : plainFor y = true) (hf : ∀ m, entryFrame m as' maxL = F m)
    (body : ∀ (p : Program) (e : Env) (s : State) (m : MethodId) (below : List Frame) (meth : Method) (c : Code) (T : State), Stand p l e R s m as' below meth c T [] 0 0 → p.tables.exec = Jvm.exec → c.code = bytes → c.maxLocals = maxL → meth.sig.returnType = ret → meth.locks = false → meth.name = y.name → s.vm.findClass y.cls = some m.cls → Z.Warmed39 s.vm → T.heap = h0 → own_Goes p e below s R Q (T.setTop (F m))) :
    MetFree l y (head1 (Jvm.Cond.code y bytes maxL ret :: ws) R) (fun a U => a = as' ∧ Z.Warmed39 U.vm ∧ U.heap = h0) (fun _ _ _ _ _ => True) (fun _ U o U' => ∃ v L, o = .returned v ∧ Q v U'.heap L ∧ FrameEnd U o U' L R.cells R.slots) := by
  refine MetFree.of_bodySF hp hisR ?_
  intro p e s m args below meth c s₁ Bd hml0 hP hK
  obtain ⟨rfl, hZ, hh⟩ := hP
  have e0 : s₁.heap = h0 := by rw [← hh, Bd.state]; rfl
  have g := body p e s m below meth c s₁ (Stand.of_body Bd) Bd.exec Bd.bytes hml0 Bd.returns Bd.notSynchronized (name_of_methodNamed Bd.named Bd.method).1 (findClass_of_methodNamed Bd.named) hZ e0
  rw [hf]
  exact g
theorem own_callS (X : Stand p l e R s m args below meth c T locs cells slots) (hx : p.tables.exec = Jvm.exec) (hZ : Z.Warmed39 s.vm) {own : String} {index : Nat} {y : MethodName} {bytes : ByteArray} {maxL : Nat} {ret : Option FieldType}
    (hown : s.vm.findClass own = some m.cls) (w1 : (Jvm.Cond.methodLink own index y).before a0 Z = true) (w2 : (Jvm.Cond.static y).before a0 Z = true) (w3 : (Jvm.Cond.initialized y.cls).before a0 Z = true) (w4 : (Jvm.Cond.code y bytes maxL ret).before a0 Z = true)
    (hy : y.cls ≠ "java/lang/invoke/MethodHandle" ∧ y.cls ≠ "java/lang/invoke/VarHandle") {W : Nat} {rm : Room} {argsL rest : List Value} {Qc : Option Value → Heap → List Loc → Prop}
    (hM : MetFree l y (head1 [Jvm.Cond.code y bytes maxL ret] rm) (fun a U => a = argsL.toArray ∧ Z.Warmed39 U.vm ∧ U.heap = h) (fun _ _ _ _ _ => True) (fun _ U o U' => ∃ v L, o = .returned v ∧ Qc v U'.heap L ∧ FrameEnd U o U' L rm.cells rm.slots))
    (hf : rm.frames + 1 ≤ R.frames) (hl : W + (maxL + 11) + rm.locals ≤ R.locals) (hc : cells + rm.cells ≤ R.cells) (hs : slots + rm.slots ≤ R.slots) (eT : T.heap = h)
    {ps : List FieldType} {r : Option FieldType} (hd : parseMethodDescriptor y.desc = some ⟨ps, r⟩) (hlen : argsL.length = ps.length)
    {g : JFrame} (hg : g.method = m) (hsize : g.locals.size = c.maxLocals) (hstack : g.stack = argsL.reverse ++ rest) (hW : 2 * g.monitorRoom + (rest.map fun v => v.category).sum ≤ W) (hdg : decode c.code g.pc = .ok (.invokestatic index, 3)) :
    ∃ (v : Option Value) (T' : State) (L : List Loc), Stand p l e R s m args below meth c T' (locs ++ L) (cells + rm.cells) (slots + rm.slots) ∧ Qc v T'.heap L ∧ ∀ t, Steps p.tables e below (T'.setTop { g with pc := g.pc + 3, stack := v.toList ++ rest }) t → Steps p.tables e below (T.setTop g) t := by
  obtain ⟨v, _, ⟨T', L', k', n'⟩, -, X', ⟨Lc, hQ, l', y', z'⟩, st⟩ := Jvm.LawKit.callS X hx (y := y) hown (mvT hZ w1) (mvT hZ w2) (mvT hZ w3) (mvT hZ w4) hy (backOf (W := W) hM hZ w4 w3 hf hl) hg hsize (argsL := argsL) (rest := rest) (lenOf hd hlen) hstack hW hdg (fun _ _ => ⟨rfl, eT, hc, hs⟩)
  dsimp only [Pt.U, Pt.locs, Pt.cells, Pt.slots] at X' l' y' z' st hQ
  subst l' y' z'
  exact ⟨v, T', Lc, X', hQ, st⟩
theorem own_callI (X : Stand p l e R s m args below meth c T locs cells slots) (hx : p.tables.exec = Jvm.exec) (hZ : Z.Warmed39 s.vm) {own : String} {index : Nat} {y : MethodName} {bytes : ByteArray} {maxL : Nat}
    (hown : s.vm.findClass own = some m.cls) (w1 : (Jvm.Cond.methodLink own index y).before a0 Z = true) (w2 : (Jvm.Cond.instanceMethod y).before a0 Z = true) (w3 : (Jvm.Cond.initialized y.cls).before a0 Z = true) (w4 : (Jvm.Cond.code y bytes maxL none).before a0 Z = true) (hy1 : y.name = "<init>")
    (hy : y.cls ≠ "java/lang/invoke/MethodHandle" ∧ y.cls ≠ "java/lang/invoke/VarHandle") {W : Nat} {rm : Room} {a : Addr} {argsL rest : List Value} {Qc : Option Value → Heap → List Loc → Prop}
    (hM : MetFree l y (head1 [Jvm.Cond.code y bytes maxL none] rm) (fun b U => b = (Value.ref a :: argsL).toArray ∧ Z.Warmed39 U.vm ∧ U.heap = h) (fun _ _ _ _ _ => True) (fun _ U o U' => ∃ v L, o = .returned v ∧ Qc v U'.heap L ∧ FrameEnd U o U' L rm.cells rm.slots))
    (hf : rm.frames + 1 ≤ R.frames) (hl : W + (maxL + 11) + rm.locals ≤ R.locals) (hc : cells + rm.cells ≤ R.cells) (hs : slots + rm.slots ≤ R.slots) (eT : T.heap = h)
    {ps : List FieldType} {r : Option FieldType} (hd : parseMethodDescriptor y.desc = some ⟨ps, r⟩) (hlen : argsL.length = ps.length)
    {g : JFrame} (hg : g.method = m) (hsize : g.locals.size = c.maxLocals) (hstack : g.stack = argsL.reverse ++ .ref a :: rest) (hW : 2 * g.monitorRoom + (rest.map fun v => v.category).sum ≤ W) (hdg : decode c.code g.pc = .ok (.invokespecial index, 3)) :
    ∃ (v : Option Value) (T' : State) (L : List Loc), Stand p l e R s m args below meth c T' (locs ++ L) (cells + rm.cells) (slots + rm.slots) ∧ Qc v T'.heap L ∧ ∀ t, Steps p.tables e below (T'.setTop { g with pc := g.pc + 3, stack := v.toList ++ rest }) t → Steps p.tables e below (T.setTop g) t := by
  obtain ⟨v, _, ⟨T', L', k', n'⟩, -, X', ⟨Lc, hQ, l', y', z'⟩, st⟩ := X.specialBack hx (y := y) hy1 hown (mvT hZ w1) (mvT hZ w2) (mvT hZ w4) hy (backOf (W := W) hM hZ w4 w3 hf hl) hg hsize (Steps.refl _) (a := a) (argsL := argsL) (rest := rest) (lenOf hd hlen) hstack hW hdg (fun _ _ => ⟨rfl, eT, hc, hs⟩)
  dsimp only [Pt.U, Pt.locs, Pt.cells, Pt.slots] at X' l' y' z' st hQ
  subst l' y' z'
  exact ⟨v, T', Lc, X', hQ, fun t k => st.trans k⟩
theorem own_callV (X : Stand p l e R s m args below meth c T locs cells slots) (hx : p.tables.exec = Jvm.exec) (hZ : Z.Warmed39 s.vm) {own C : String} {index : Nat} {y : MethodName} {bytes : ByteArray} {maxL : Nat} {ret : Option FieldType}
    (hown : s.vm.findClass own = some m.cls) (w1 : (Jvm.Cond.methodLink own index y).before a0 Z = true) (w5 : (Jvm.Cond.declares y).before a0 Z = true) (w6 : (Jvm.Cond.selects C y y).before a0 Z = true) (w2 : (Jvm.Cond.instanceMethod y).before a0 Z = true) (w3 : (Jvm.Cond.initialized y.cls).before a0 Z = true) (w4 : (Jvm.Cond.code y bytes maxL ret).before a0 Z = true)
    (hy : y.cls ≠ "java/lang/invoke/MethodHandle" ∧ y.cls ≠ "java/lang/invoke/VarHandle") {W : Nat} {rm : Room} {a : Addr} {argsL rest : List Value} {Qc : Option Value → Heap → List Loc → Prop}
    (hM : MetFree l y (head1 [Jvm.Cond.code y bytes maxL ret] rm) (fun b U => b = (Value.ref a :: argsL).toArray ∧ Z.Warmed39 U.vm ∧ U.heap = h) (fun _ _ _ _ _ => True) (fun _ U o U' => ∃ v L, o = .returned v ∧ Qc v U'.heap L ∧ FrameEnd U o U' L rm.cells rm.slots))
    (hf : rm.frames + 1 ≤ R.frames) (hl : W + (maxL + 11) + rm.locals ≤ R.locals) (hc : cells + rm.cells ≤ R.cells) (hs : slots + rm.slots ≤ R.slots) (eT : T.heap = h) (E : Exa Z h a C)
    {ps : List FieldType} {r : Option FieldType} (hd : parseMethodDescriptor y.desc = some ⟨ps, r⟩) (hlen : argsL.length = ps.length)
    {g : JFrame} (hg : g.method = m) (hsize : g.locals.size = c.maxLocals) (hstack : g.stack = argsL.reverse ++ .ref a :: rest) (hW : 2 * g.monitorRoom + (rest.map fun v => v.category).sum ≤ W) (hdg : decode c.code g.pc = .ok (.invokevirtual index, 3)) :
    ∃ (v : Option Value) (T' : State) (L : List Loc), Stand p l e R s m args below meth c T' (locs ++ L) (cells + rm.cells) (slots + rm.slots) ∧ Qc v T'.heap L ∧ ∀ t, Steps p.tables e below (T'.setTop { g with pc := g.pc + 3, stack := v.toList ++ rest }) t → Steps p.tables e below (T.setTop g) t := by
  obtain ⟨cq, kq, qa, qb, qc⟩ := isOf hZ eT E
  obtain ⟨v, _, ⟨T', L', k', n'⟩, -, X', ⟨Lc, hQ, l', y', z'⟩, st⟩ := X.virtualBack hx (y := y) (z := y) hown (mvT hZ w1) (mvT hZ w5) (notFace_of_selects (args := #[]) (mvT hZ w6)) (mvT hZ w6) (mvT hZ w2) hy (backOf (W := W) hM hZ w4 w3 hf hl) qa qc hg hsize (Steps.refl _) (argsL := argsL) (rest := rest) (lenOf hd hlen) hstack hW hdg (fun _ _ => ⟨rfl, eT, hc, hs⟩)
  dsimp only [Pt.U, Pt.locs, Pt.cells, Pt.slots] at X' l' y' z' st hQ
  subst l' y' z'
  exact ⟨v, T', Lc, X', hQ, fun t k => st.trans k⟩
theorem own_callP (X : Stand p l e R s m args below meth c T locs cells slots) (hx : p.tables.exec = Jvm.exec) (hZ : Z.Warmed39 s.vm) {own : String} {index : Nat} {y : MethodName} {bytes : ByteArray} {maxL : Nat} {ret : Option FieldType}
    (hown : s.vm.findClass own = some m.cls) (w1 : (Jvm.Cond.methodLink own index y).before a0 Z = true) (w5 : (Jvm.Cond.privateMethod y).before a0 Z = true) {ki : Nat} (w6 : (Jvm.Cond.instantiable y.cls ki).before a0 Z = true) (w2 : (Jvm.Cond.instanceMethod y).before a0 Z = true) (w3 : (Jvm.Cond.initialized y.cls).before a0 Z = true) (w4 : (Jvm.Cond.code y bytes maxL ret).before a0 Z = true)
    (hy : y.cls ≠ "java/lang/invoke/MethodHandle" ∧ y.cls ≠ "java/lang/invoke/VarHandle") {W : Nat} {rm : Room} {a : Addr} {argsL rest : List Value} {Qc : Option Value → Heap → List Loc → Prop} {C : String}
    (hM : MetFree l y (head1 [Jvm.Cond.code y bytes maxL ret] rm) (fun b U => b = (Value.ref a :: argsL).toArray ∧ Z.Warmed39 U.vm ∧ U.heap = h) (fun _ _ _ _ _ => True) (fun _ U o U' => ∃ v L, o = .returned v ∧ Qc v U'.heap L ∧ FrameEnd U o U' L rm.cells rm.slots))
    (hf : rm.frames + 1 ≤ R.frames) (hl : W + (maxL + 11) + rm.locals ≤ R.locals) (hc : cells + rm.cells ≤ R.cells) (hs : slots + rm.slots ≤ R.slots) (eT : T.heap = h) (E : Exa Z h a C)
    {ps : List FieldType} {r : Option FieldType} (hd : parseMethodDescriptor y.desc = some ⟨ps, r⟩) (hlen : argsL.length = ps.length)
    {g : JFrame} (hg : g.method = m) (hsize : g.locals.size = c.maxLocals) (hstack : g.stack = argsL.reverse ++ .ref a :: rest) (hW : 2 * g.monitorRoom + (rest.map fun v => v.category).sum ≤ W) (hdg : decode c.code g.pc = .ok (.invokevirtual index, 3)) :
    ∃ (v : Option Value) (T' : State) (L : List Loc), Stand p l e R s m args below meth c T' (locs ++ L) (cells + rm.cells) (slots + rm.slots) ∧ Qc v T'.heap L ∧ ∀ t, Steps p.tables e below (T'.setTop { g with pc := g.pc + 3, stack := v.toList ++ rest }) t → Steps p.tables e below (T.setTop g) t := by
  obtain ⟨cq, q1, q2⟩ := E.cell
  have hsel : (Jvm.Cond.selects y.cls y y).before args s = true := by
    obtain ⟨c2, k2, i1, i2, i3, i4, -⟩ := Cond.instantiable_spec (mv hZ w6 (args := args))
    exact selects_self_of_private i1 i2 (Bool.or_eq_false_iff.mp i4).1 (Cond.privateMethod_at (mvP hZ w5 (args := #[]))) (mvT hZ w2) hy
  obtain ⟨v, _, ⟨T', L', k', n'⟩, -, X', ⟨Lc, hQ, l', y', z'⟩, st⟩ := X.privateBack hx (y := y) hown (mvT hZ w1) (mvT hZ w2) hsel (Cond.privateMethod_at (mvP hZ w5 (args := #[]))) (mvT hZ w4) hy (backOf (W := W) hM hZ w4 w3 hf hl) hg hsize (Steps.refl _) (a := a) (by rw [eT]; exact q1) q2 (argsL := argsL) (rest := rest) (lenOf hd hlen) hstack hW hdg (fun _ _ => ⟨rfl, eT, hc, hs⟩)
  dsimp only [Pt.U, Pt.locs, Pt.cells, Pt.slots] at X' l' y' z' st hQ
  subst l' y' z'
  exact ⟨v, T', Lc, X', hQ, fun t k => st.trans k⟩
theorem own_sta_keep {C n d : String} {w : Value} {ws : List Addr} (F : Sta Z h C n d w) (K : Keep h h' ws) (q : ∀ x ∈ ws, ∀ c : Cell, h[x]? = some c → c.vm.isStatics = false) : Sta Z h' C n d w := by
  obtain ⟨cf, i, k, f, st, cell, h1, h2, h3, h4, h5, h6, h7⟩ := F
  exact ⟨cf, i, k, f, st, cell, h1, h2, h3, h4, K.2.1 _ _ h5 (fun hx => by have := q st hx cell h5; rw [this] at h6; cases h6), h6, h7⟩
theorem own_ext_keep (E : Ext h h') (ws : List Addr) : Keep h h' ws := (Keep.refl h ws).ext E
/-- an array at a: n places, the j-th holds f j -/
def own_Arf (Z : State) (h : Heap) (a : Addr) (ty : FieldType) (n : Nat) (f : Nat → Value) : Prop := ∃ c : Cell, Arr Z h a c ty ∧ c.slots.size = n ∧ ∀ j, j < n → c.slots[j]? = some (f j)
theorem own_Arf.lt {a : Nat} {ty : FieldType} {n : Nat} {f : Nat → Value} (F : own_Arf Z h a ty n f) : a < h.size := by obtain ⟨c, A, -⟩ := F; exact A.lt
theorem own_Arf.ext {a : Addr} {ty : FieldType} {n : Nat} {f : Nat → Value} (F : own_Arf Z h a ty n f) (E : Ext h h') : own_Arf Z h' a ty n f := by obtain ⟨c, A, r⟩ := F; exact ⟨c, A.ext E, r⟩
theorem own_Arf.other {a b : Addr} {ty : FieldType} {n : Nat} {f : Nat → Value} {sl : Nat} {v : Value} (F : own_Arf Z h b ty n f) (W : Wr h h' a sl v) (q : b ≠ a) : own_Arf Z h' b ty n f := by obtain ⟨c, A, r⟩ := F; exact ⟨c, A.other W q, r⟩
theorem own_Arf.keep {a : Addr} {ty : FieldType} {n : Nat} {f : Nat → Value} {ws : List Addr} (F : own_Arf Z h a ty n f) (K : Keep h h' ws) (q : a ∉ ws) : own_Arf Z h' a ty n f := by obtain ⟨c, A, r⟩ := F; exact ⟨c, ⟨K.2.1 a c A.1 q, A.2⟩, r⟩
theorem own_Arf.congr {a : Addr} {ty : FieldType} {n : Nat} {f f' : Nat → Value} (F : own_Arf Z h a ty n f) (q : ∀ j, j < n → f j = f' j) : own_Arf Z h a ty n f' := by obtain ⟨c, A, r1, r2⟩ := F; exact ⟨c, A, r1, fun j hj => by rw [← q j hj]; exact r2 j hj⟩
theorem own_Arf.set {a : Addr} {ty : FieldType} {n : Nat} {f : Nat → Value} {i : Nat} {v : Value} (F : own_Arf Z h a ty n f) (W : Wr h h' a i v) : own_Arf Z h' a ty n (fun k => if k = i then v else f k) := by
  obtain ⟨c, A, r1, r2⟩ := F
  refine ⟨c.setSlot i v, A.same W, by rw [sz_set]; exact r1, fun j hj => ?_⟩
  show (c.slots.setIfInBounds i v)[j]? = some (if j = i then v else f j)
  by_cases q : j = i
  · subst q
    simp [r1, hj]
  · rw [Array.getElem?_setIfInBounds_ne (Ne.symm q), if_neg q]
    exact r2 j hj
theorem own_Arf.setI {a : Addr} {ty : FieldType} {n : Nat} {f : Nat → Int32} {i : Nat} {x : Int32} (F : own_Arf Z h a ty n (fun k => .int (f k))) (W : Wr h h' a i (.int x)) : own_Arf Z h' a ty n (fun k => .int (if k = i then x else f k)) :=
  (own_Arf.set F W).congr fun k _ => by show (if k = i then Value.int x else .int (f k)) = .int (if k = i then x else f k); split <;> rfl
theorem own_Arf.setJ {a : Addr} {ty : FieldType} {n : Nat} {f : Nat → Int64} {i : Nat} {x : Int64} (F : own_Arf Z h a ty n (fun k => .long (f k))) (W : Wr h h' a i (.long x)) : own_Arf Z h' a ty n (fun k => .long (if k = i then x else f k)) :=
  (own_Arf.set F W).congr fun k _ => by show (if k = i then Value.long x else .long (f k)) = .long (if k = i then x else f k); split <;> rfl
theorem own_inb {c : Cell} {n : Nat} {j : Int32} (S : c.slots.size = n) (q : 0 ≤ j.toInt ∧ j.toInt < (n : Int)) : ¬ (j < 0 ∨ c.slots.size ≤ j.toNatClampNeg) := by
  rw [S]
  rintro (q1 | q1)
  · have := Int32.lt_iff_toInt_lt.mp q1
    simp at this
    omega
  · have h1 : j.toNatClampNeg = j.toInt.toNat := rfl
    omega
theorem own_idx {n : Nat} {j : Int32} (q : 0 ≤ j.toInt ∧ j.toInt < (n : Int)) : j.toNatClampNeg < n := by
  have h1 : j.toNatClampNeg = j.toInt.toNat := rfl
  omega
theorem own_newP (X : Stand p l e R s m args below meth c T locs cells slots) (hx : p.tables.exec = Jvm.exec) (hZ : Z.Warmed39 s.vm) {aty : ArrayType} (w : (Jvm.Cond.arrayClass (newarray.typeOf aty)).before a0 Z = true) (eT : T.heap = h) {g : JFrame} (hg : g.method = m) (hd : decode c.code g.pc = .ok (.newarray aty, 2)) {n : Int32} {rest : List Value} (hs : g.stack = .int n :: rest)
    (hn : ¬ n < 0) {cap : Nat} (hcap : n.toNatClampNeg ≤ cap) (hb : cap * 8 ≤ 536870912) (hc : cells + 1 ≤ R.cells) (hl : slots + cap ≤ R.slots) :
    ∃ T' h', Stand p l e R s m args below meth c T' locs (cells + 1) (slots + cap) ∧ T'.heap = h' ∧ Ext h h' ∧ own_Arf Z h' h.size (newarray.typeOf aty) n.toNatClampNeg (fun _ => defaultValue (newarray.typeOf aty)) ∧
      ∀ target, Steps p.tables e below (T'.setTop { g with pc := g.pc + 2, stack := .ref h.size :: rest }) target → Steps p.tables e below (T.setTop g) target := by
  obtain ⟨T', h', cA, X', e', E', A', st⟩ := newP X hx hZ w eT hg hd hs hn hcap hb hc hl
  refine ⟨T', h', X', e', E', ⟨_, A', sz_new _ _ _, fun j hj => ?_⟩, st⟩
  simp [newA, hj]
theorem own_newPE (X : Stand p l e R s m args below meth c T locs cells slots) (hx : p.tables.exec = Jvm.exec) (hZ : Z.Warmed39 s.vm) {aty : ArrayType} (w : (Jvm.Cond.arrayClass (newarray.typeOf aty)).before a0 Z = true) (eT : T.heap = h) {g : JFrame} (hg : g.method = m) (hd : decode c.code g.pc = .ok (.newarray aty, 2)) {n : Int32} {rest : List Value} (hs : g.stack = .int n :: rest)
    (hn : ¬ n < 0) {cap : Nat} (hcap : n.toNatClampNeg ≤ cap) (hb : cap * 8 ≤ 536870912) (hc : cells + 1 ≤ R.cells) (hl : slots + cap ≤ R.slots) {ad : String} (had : "[" ++ (newarray.typeOf aty).toString = ad) :
    ∃ T' h', Stand p l e R s m args below meth c T' locs (cells + 1) (slots + cap) ∧ T'.heap = h' ∧ Ext h h' ∧ own_Arf Z h' h.size (newarray.typeOf aty) n.toNatClampNeg (fun _ => defaultValue (newarray.typeOf aty)) ∧ Exa Z h' h.size ad ∧
      ∀ target, Steps p.tables e below (T'.setTop { g with pc := g.pc + 2, stack := .ref h.size :: rest }) target → Steps p.tables e below (T.setTop g) target := by
  obtain ⟨T', h', cA, X', e', E', A', Ex, st⟩ := newPE X hx hZ w eT hg hd hs hn hcap hb hc hl had
  refine ⟨T', h', X', e', E', ⟨_, A', sz_new _ _ _, fun j hj => ?_⟩, Ex, st⟩
  simp [newA, hj]
theorem own_cloneA (X : Stand p l e R s m args below meth c T locs cells slots) (hx : p.tables.exec = Jvm.exec) (hZ : Z.Warmed39 s.vm) {own ad : String} {index : Nat} (hown : s.vm.findClass own = some m.cls)
    (w1 : (Jvm.Cond.methodLink own index ⟨ad, "clone", "()Ljava/lang/Object;"⟩).before a0 Z = true) (w2 : (Jvm.Cond.sameMethod ad "java/lang/Object" "clone" "()Ljava/lang/Object;").before a0 Z = true) (w3 : (Jvm.Cond.native ⟨"java/lang/Object", "clone", "()Ljava/lang/Object;"⟩).before a0 Z = true)
    (w4 : (Jvm.Cond.instanceMethod ⟨"java/lang/Object", "clone", "()Ljava/lang/Object;"⟩).before a0 Z = true) (w5 : (Jvm.Cond.selects ad ⟨ad, "clone", "()Ljava/lang/Object;"⟩ ⟨"java/lang/Object", "clone", "()Ljava/lang/Object;"⟩).before a0 Z = true) (w6 : (Jvm.Cond.castable ad "java/lang/Cloneable").before a0 Z = true)
    (eT : T.heap = h) {a : Addr} {ty : FieldType} {n : Nat} {f : Nat → Value} (A : own_Arf Z h a ty n f) (E : Exa Z h a ad) (hfit : ∀ k, k < n → fits ty (f k) = true) {g : JFrame} (hg : g.method = m) (hsize : g.locals.size = c.maxLocals) {rest : List Value} (hs : g.stack = .ref a :: rest) (hd : decode c.code g.pc = .ok (.invokevirtual index, 3))
    (hf : 1 ≤ R.frames) {W : Nat} (hW : 2 * g.monitorRoom + (rest.map fun v => v.category).sum ≤ W) (hl : W + 14 ≤ R.locals) (hc : cells + 1 ≤ R.cells) (hsl : slots + n ≤ R.slots) :
    ∃ T' h', Stand p l e R s m args below meth c T' locs (cells + 1) (slots + n) ∧ T'.heap = h' ∧ Ext h h' ∧ own_Arf Z h' h.size ty n f ∧ Exa Z h' h.size ad ∧
      ∀ target, Steps p.tables e below (T'.setTop { g with pc := g.pc + 3, stack := .ref h.size :: rest }) target → Steps p.tables e below (T.setTop g) target := by
  obtain ⟨cl, A1, A2, A3⟩ := A
  have FC : FitC Z cl := fitC_of A1 fun i hi v hv => by
    rw [A3 i (by omega)] at hv
    cases hv
    exact hfit i (by omega)
  obtain ⟨T', h', X', e', ex, A', E', st⟩ := cloneA X hx hZ hown w1 w2 w3 w4 w5 w6 eT A1 E FC hg hsize hs hd hf hW hl (Nat.le_of_eq A2) hc hsl
  exact ⟨T', h', X', e', ex, ⟨cloneOf cl, A', A2, A3⟩, E', st⟩
theorem own_len (X : Stand p l e R s m args below meth c T locs cells slots) (hx : p.tables.exec = Jvm.exec) (hZ : Z.Warmed39 s.vm) (eT : T.heap = h) {a : Addr} {ty : FieldType} {n : Nat} {f : Nat → Value} (A : own_Arf Z h a ty n f) {g : JFrame} (hg : g.method = m) {rest : List Value} (hs : g.stack = .ref a :: rest) (hd : decode c.code g.pc = .ok (.arraylength, 1)) :
    ∀ t, Steps p.tables e below (T.setTop { g with pc := g.pc + 1, stack := .int n.toInt32 :: rest }) t → Steps p.tables e below (T.setTop g) t := by
  obtain ⟨cl, A1, A2, A3⟩ := A
  intro t k
  subst A2
  exact X.arraylength hx (by rw [eT]; exact A1.1) (State.isArrayOf_alike hZ.alike A1.2.1) hg hs hd _ k
theorem own_ldI (X : Stand p l e R s m args below meth c T locs cells slots) (hx : p.tables.exec = Jvm.exec) (hZ : Z.Warmed39 s.vm) (eT : T.heap = h) {a : Addr} {n : Nat} {f : Nat → Int32} (A : own_Arf Z h a .int n (fun k => .int (f k))) {j : Int32} (q : 0 ≤ j.toInt ∧ j.toInt < (n : Int)) {g : JFrame} (hg : g.method = m) {rest : List Value} (hs : g.stack = .int j :: .ref a :: rest) (hd : decode c.code g.pc = .ok (.iaload, 1)) :
    ∀ t, Steps p.tables e below (T.setTop { g with pc := g.pc + 1, stack := .int (f j.toNatClampNeg) :: rest }) t → Steps p.tables e below (T.setTop g) t := by
  obtain ⟨cl, A1, A2, A3⟩ := A
  exact fun t k => X.iaload hx (by rw [eT]; exact A1.1) (State.isArrayOf_alike hZ.alike A1.2.1) A1.2.2 (own_inb A2 q) (A3 _ (own_idx q)) hg hs hd _ k
theorem own_ldJ (X : Stand p l e R s m args below meth c T locs cells slots) (hx : p.tables.exec = Jvm.exec) (hZ : Z.Warmed39 s.vm) (eT : T.heap = h) {a : Addr} {n : Nat} {f : Nat → Int64} (A : own_Arf Z h a .long n (fun k => .long (f k))) {j : Int32} (q : 0 ≤ j.toInt ∧ j.toInt < (n : Int)) {g : JFrame} (hg : g.method = m) {rest : List Value} (hs : g.stack = .int j :: .ref a :: rest) (hd : decode c.code g.pc = .ok (.laload, 1)) :
    ∀ t, Steps p.tables e below (T.setTop { g with pc := g.pc + 1, stack := .long (f j.toNatClampNeg) :: rest }) t → Steps p.tables e below (T.setTop g) t := by
  obtain ⟨cl, A1, A2, A3⟩ := A
  exact fun t k => X.laload hx (by rw [eT]; exact A1.1) (State.isArrayOf_alike hZ.alike A1.2.1) A1.2.2 (own_inb A2 q) (A3 _ (own_idx q)) hg hs hd _ k
theorem own_ldC (X : Stand p l e R s m args below meth c T locs cells slots) (hx : p.tables.exec = Jvm.exec) (hZ : Z.Warmed39 s.vm) (eT : T.heap = h) {a : Addr} {n : Nat} {f : Nat → Int32} (A : own_Arf Z h a .char n (fun k => .int (f k))) {j : Int32} (q : 0 ≤ j.toInt ∧ j.toInt < (n : Int)) {g : JFrame} (hg : g.method = m) {rest : List Value} (hs : g.stack = .int j :: .ref a :: rest) (hd : decode c.code g.pc = .ok (.caload, 1)) :
    ∀ t, Steps p.tables e below (T.setTop { g with pc := g.pc + 1, stack := .int (f j.toNatClampNeg) :: rest }) t → Steps p.tables e below (T.setTop g) t := by
  obtain ⟨cl, A1, A2, A3⟩ := A
  exact fun t k => X.caload hx (by rw [eT]; exact A1.1) (State.isArrayOf_alike hZ.alike A1.2.1) A1.2.2 (own_inb A2 q) (A3 _ (own_idx q)) hg hs hd _ k
theorem own_ldS (X : Stand p l e R s m args below meth c T locs cells slots) (hx : p.tables.exec = Jvm.exec) (hZ : Z.Warmed39 s.vm) (eT : T.heap = h) {a : Addr} {n : Nat} {f : Nat → Int32} (A : own_Arf Z h a .short n (fun k => .int (f k))) {j : Int32} (q : 0 ≤ j.toInt ∧ j.toInt < (n : Int)) {g : JFrame} (hg : g.method = m) {rest : List Value} (hs : g.stack = .int j :: .ref a :: rest) (hd : decode c.code g.pc = .ok (.saload, 1)) :
    ∀ t, Steps p.tables e below (T.setTop { g with pc := g.pc + 1, stack := .int (f j.toNatClampNeg) :: rest }) t → Steps p.tables e below (T.setTop g) t := by
  obtain ⟨cl, A1, A2, A3⟩ := A
  exact fun t k => X.saload hx (by rw [eT]; exact A1.1) (State.isArrayOf_alike hZ.alike A1.2.1) A1.2.2 (own_inb A2 q) (A3 _ (own_idx q)) hg hs hd _ k
theorem own_ldB (X : Stand p l e R s m args below meth c T locs cells slots) (hx : p.tables.exec = Jvm.exec) (hZ : Z.Warmed39 s.vm) (eT : T.heap = h) {a : Addr} {n : Nat} {f : Nat → Int32} (A : own_Arf Z h a .byte n (fun k => .int (f k))) {j : Int32} (q : 0 ≤ j.toInt ∧ j.toInt < (n : Int)) {g : JFrame} (hg : g.method = m) {rest : List Value} (hs : g.stack = .int j :: .ref a :: rest) (hd : decode c.code g.pc = .ok (.baload, 1)) :
    ∀ t, Steps p.tables e below (T.setTop { g with pc := g.pc + 1, stack := .int (f j.toNatClampNeg) :: rest }) t → Steps p.tables e below (T.setTop g) t := by
  obtain ⟨cl, A1, A2, A3⟩ := A
  exact fun t k => X.baloadBytes hx (by rw [eT]; exact A1.1) (State.isArrayOf_alike hZ.alike A1.2.1) A1.2.2 (own_inb A2 q) (A3 _ (own_idx q)) hg hs hd _ k
theorem own_ldR (X : Stand p l e R s m args below meth c T locs cells slots) (hx : p.tables.exec = Jvm.exec) (hZ : Z.Warmed39 s.vm) (eT : T.heap = h) {a : Addr} {ty : FieldType} (hty : ty.isReference = true) {n : Nat} {f : Nat → Value} (A : own_Arf Z h a ty n f) {j : Int32} (q : 0 ≤ j.toInt ∧ j.toInt < (n : Int)) {g : JFrame} (hg : g.method = m) {rest : List Value} (hs : g.stack = .int j :: .ref a :: rest) (hd : decode c.code g.pc = .ok (.aaload, 1)) :
    ∀ t, Steps p.tables e below (T.setTop { g with pc := g.pc + 1, stack := f j.toNatClampNeg :: rest }) t → Steps p.tables e below (T.setTop g) t := by
  obtain ⟨cl, A1, A2, A3⟩ := A
  exact fun t k => X.aaload hx (by rw [eT]; exact A1.1) (State.isArrayOf_alike hZ.alike A1.2.1) hty A1.2.2 (own_inb A2 q) (A3 _ (own_idx q)) hg hs hd _ k
theorem own_stI (X : Stand p l e R s m args below meth c T locs cells slots) (hx : p.tables.exec = Jvm.exec) (hZ : Z.Warmed39 s.vm) (eT : T.heap = h) {a : Addr} {n : Nat} {f : Nat → Int32} (A : own_Arf Z h a .int n (fun k => .int (f k))) {j x : Int32} (q : 0 ≤ j.toInt ∧ j.toInt < (n : Int)) {g : JFrame} (hg : g.method = m) {rest : List Value} (hs : g.stack = .int x :: .int j :: .ref a :: rest) (hd : decode c.code g.pc = .ok (.iastore, 1)) :
    ∃ T' h', Stand p l e R s m args below meth c T' (locs ++ [⟨a, j.toNatClampNeg⟩]) cells slots ∧ T'.heap = h' ∧ Wr h h' a j.toNatClampNeg (.int x) ∧ own_Arf Z h' a .int n (fun k => .int (if k = j.toNatClampNeg then x else f k)) ∧ ∀ t, Steps p.tables e below (T'.setTop { g with pc := g.pc + 1, stack := rest }) t → Steps p.tables e below (T.setTop g) t := by
  obtain ⟨cl, A1, A2, A3⟩ := id A
  obtain ⟨T', h', X', e', W, st⟩ := stI X hx hZ eT A1 (own_inb A2 q) hg hs hd
  exact ⟨T', h', X', e', W, own_Arf.setI A W, st⟩
theorem own_stJ (X : Stand p l e R s m args below meth c T locs cells slots) (hx : p.tables.exec = Jvm.exec) (hZ : Z.Warmed39 s.vm) (eT : T.heap = h) {a : Addr} {n : Nat} {f : Nat → Int64} (A : own_Arf Z h a .long n (fun k => .long (f k))) {j : Int32} {x : Int64} (q : 0 ≤ j.toInt ∧ j.toInt < (n : Int)) {g : JFrame} (hg : g.method = m) {rest : List Value} (hs : g.stack = .long x :: .int j :: .ref a :: rest) (hd : decode c.code g.pc = .ok (.lastore, 1)) :
    ∃ T' h', Stand p l e R s m args below meth c T' (locs ++ [⟨a, j.toNatClampNeg⟩]) cells slots ∧ T'.heap = h' ∧ Wr h h' a j.toNatClampNeg (.long x) ∧ own_Arf Z h' a .long n (fun k => .long (if k = j.toNatClampNeg then x else f k)) ∧ ∀ t, Steps p.tables e below (T'.setTop { g with pc := g.pc + 1, stack := rest }) t → Steps p.tables e below (T.setTop g) t := by
  obtain ⟨cl, A1, A2, A3⟩ := id A
  obtain ⟨T', h', X', e', W, st⟩ := stJ X hx hZ eT A1 (own_inb A2 q) hg hs hd
  exact ⟨T', h', X', e', W, own_Arf.setJ A W, st⟩
theorem own_stC (X : Stand p l e R s m args below meth c T locs cells slots) (hx : p.tables.exec = Jvm.exec) (hZ : Z.Warmed39 s.vm) (eT : T.heap = h) {a : Addr} {n : Nat} {f : Nat → Int32} (A : own_Arf Z h a .char n (fun k => .int (f k))) {j x : Int32} (q : 0 ≤ j.toInt ∧ j.toInt < (n : Int)) {g : JFrame} (hg : g.method = m) {rest : List Value} (hs : g.stack = .int x :: .int j :: .ref a :: rest) (hd : decode c.code g.pc = .ok (.castore, 1)) :
    ∃ T' h', Stand p l e R s m args below meth c T' (locs ++ [⟨a, j.toNatClampNeg⟩]) cells slots ∧ T'.heap = h' ∧ Wr h h' a j.toNatClampNeg (.int (nar .char x)) ∧ own_Arf Z h' a .char n (fun k => .int (if k = j.toNatClampNeg then nar .char x else f k)) ∧ ∀ t, Steps p.tables e below (T'.setTop { g with pc := g.pc + 1, stack := rest }) t → Steps p.tables e below (T.setTop g) t := by
  obtain ⟨cl, A1, A2, A3⟩ := id A
  obtain ⟨T', h', X', e', W, st⟩ := stC X hx hZ eT A1 (own_inb A2 q) hg hs hd
  exact ⟨T', h', X', e', W, own_Arf.setI A W, st⟩
theorem own_stS (X : Stand p l e R s m args below meth c T locs cells slots) (hx : p.tables.exec = Jvm.exec) (hZ : Z.Warmed39 s.vm) (eT : T.heap = h) {a : Addr} {n : Nat} {f : Nat → Int32} (A : own_Arf Z h a .short n (fun k => .int (f k))) {j x : Int32} (q : 0 ≤ j.toInt ∧ j.toInt < (n : Int)) {g : JFrame} (hg : g.method = m) {rest : List Value} (hs : g.stack = .int x :: .int j :: .ref a :: rest) (hd : decode c.code g.pc = .ok (.sastore, 1)) :
    ∃ T' h', Stand p l e R s m args below meth c T' (locs ++ [⟨a, j.toNatClampNeg⟩]) cells slots ∧ T'.heap = h' ∧ Wr h h' a j.toNatClampNeg (.int (nar .short x)) ∧ own_Arf Z h' a .short n (fun k => .int (if k = j.toNatClampNeg then nar .short x else f k)) ∧ ∀ t, Steps p.tables e below (T'.setTop { g with pc := g.pc + 1, stack := rest }) t → Steps p.tables e below (T.setTop g) t := by
  obtain ⟨cl, A1, A2, A3⟩ := id A
  obtain ⟨T', h', X', e', W, st⟩ := stS X hx hZ eT A1 (own_inb A2 q) hg hs hd
  exact ⟨T', h', X', e', W, own_Arf.setI A W, st⟩
theorem own_stB (X : Stand p l e R s m args below meth c T locs cells slots) (hx : p.tables.exec = Jvm.exec) (hZ : Z.Warmed39 s.vm) (eT : T.heap = h) {a : Addr} {n : Nat} {f : Nat → Int32} (A : own_Arf Z h a .byte n (fun k => .int (f k))) {j x : Int32} (q : 0 ≤ j.toInt ∧ j.toInt < (n : Int)) {g : JFrame} (hg : g.method = m) {rest : List Value} (hs : g.stack = .int x :: .int j :: .ref a :: rest) (hd : decode c.code g.pc = .ok (.bastore, 1)) :
    ∃ T' h', Stand p l e R s m args below meth c T' (locs ++ [⟨a, j.toNatClampNeg⟩]) cells slots ∧ T'.heap = h' ∧ Wr h h' a j.toNatClampNeg (.int (nar .byte x)) ∧ own_Arf Z h' a .byte n (fun k => .int (if k = j.toNatClampNeg then nar .byte x else f k)) ∧ ∀ t, Steps p.tables e below (T'.setTop { g with pc := g.pc + 1, stack := rest }) t → Steps p.tables e below (T.setTop g) t := by
  obtain ⟨cl, A1, A2, A3⟩ := id A
  obtain ⟨T', h', X', e', W, st⟩ := stB X hx hZ eT A1 (own_inb A2 q) hg hs hd
  exact ⟨T', h', X', e', W, own_Arf.setI A W, st⟩
theorem own_newR (X : Stand p l e R s m args below meth c T locs cells slots) (hx : p.tables.exec = Jvm.exec) (hZ : Z.Warmed39 s.vm) {own C : String} {index : Nat} (hown : s.vm.findClass own = some m.cls) (w1 : (Jvm.Cond.classLink own index C).before a0 Z = true) (w2 : (Jvm.Cond.arrayOver (.object C)).before a0 Z = true)
    (eT : T.heap = h) {g : JFrame} (hg : g.method = m) (hd : decode c.code g.pc = .ok (.anewarray index, 3)) {n : Int32} {rest : List Value} (hs : g.stack = .int n :: rest) (hn : ¬ n < 0) {cap : Nat} (hcap : n.toNatClampNeg ≤ cap) (hb : cap * 8 ≤ 536870912) (hc : cells + 1 ≤ R.cells) (hl : slots + cap ≤ R.slots) :
    ∃ T' h', Stand p l e R s m args below meth c T' locs (cells + 1) (slots + cap) ∧ T'.heap = h' ∧ Ext h h' ∧ (∃ cl : Cell, h'[h.size]? = some cl ∧ Ovr Z cl.cls C) ∧ own_Arf Z h' h.size (.object C) n.toNatClampNeg (fun _ => .null) ∧
      ∀ target, Steps p.tables e below (T'.setTop { g with pc := g.pc + 3, stack := .ref h.size :: rest }) target → Steps p.tables e below (T.setTop g) target := by
  obtain ⟨T', h', cA, X', e', E', A', O', st⟩ := newR X hx hZ hown w1 w2 eT hg hd hs hn hcap hb hc hl
  refine ⟨T', h', X', e', E', ⟨_, A'.1, O'⟩, ⟨_, A', sz_new _ _ _, fun j hj => ?_⟩, st⟩
  simp [newA, hj, defaultValue]
/-- an array of objects of C: the class of the array is C's -/
def own_Ovr (Z : State) (h : Heap) (a : Addr) (C : String) : Prop := ∃ cl : Cell, h[a]? = some cl ∧ Ovr Z cl.cls C
theorem own_Ovr.ext {a : Addr} {C : String} (F : own_Ovr Z h a C) (E : Ext h h') : own_Ovr Z h' a C := by obtain ⟨cl, h1, h2⟩ := F; exact ⟨cl, E.2 _ _ h1, h2⟩
theorem own_Ovr.wr {a b : Addr} {C : String} {sl : Nat} {v : Value} (F : own_Ovr Z h a C) (W : Wr h h' b sl v) : own_Ovr Z h' a C := by
  obtain ⟨cl, h1, h2⟩ := F
  obtain ⟨c', e1, e2, -⟩ := wr_at W h1
  exact ⟨c', e1, by rw [e2]; exact h2⟩
theorem own_Ovr.keep {a : Addr} {C : String} {ws : List Addr} (F : own_Ovr Z h a C) (K : Keep h h' ws) : own_Ovr Z h' a C := by
  obtain ⟨cl, h1, h2⟩ := F
  obtain ⟨c', e1, e2, -⟩ := K.2.2 _ _ h1
  exact ⟨c', e1, by rw [e2]; exact h2⟩
theorem own_stR (X : Stand p l e R s m args below meth c T locs cells slots) (hx : p.tables.exec = Jvm.exec) (hZ : Z.Warmed39 s.vm) (eT : T.heap = h) {a : Addr} {C : String} {n : Nat} {f : Nat → Value} (A : own_Arf Z h a (.object C) n f) (O : own_Ovr Z h a C) {j : Int32} {v : Value} (I : v = .null ∨ ∃ y, v = .ref y ∧ Ins Z h y C true) (q : 0 ≤ j.toInt ∧ j.toInt < (n : Int)) {g : JFrame} (hg : g.method = m) {rest : List Value} (hs : g.stack = v :: .int j :: .ref a :: rest) (hd : decode c.code g.pc = .ok (.aastore, 1)) :
    ∃ T' h', Stand p l e R s m args below meth c T' (locs ++ [⟨a, j.toNatClampNeg⟩]) cells slots ∧ T'.heap = h' ∧ Wr h h' a j.toNatClampNeg v ∧ own_Arf Z h' a (.object C) n (fun k => if k = j.toNatClampNeg then v else f k) ∧ own_Ovr Z h' a C ∧ ∀ t, Steps p.tables e below (T'.setTop { g with pc := g.pc + 1, stack := rest }) t → Steps p.tables e below (T.setTop g) t := by
  obtain ⟨cl, A1, A2, A3⟩ := id A
  obtain ⟨cl2, o1, o2⟩ := id O
  cases A1.1.symm.trans o1
  have F : Sto Z h a v := by
    rcases I with rfl | ⟨y, rfl, I⟩
    · exact Or.inl rfl
    · exact Sto.of A1 o2 I
  obtain ⟨T', h', X', e', W, st⟩ := stR X hx hZ eT A1 (own_inb A2 q) rfl F hg hs hd
  exact ⟨T', h', X', e', W, own_Arf.set A W, O.wr W, st⟩
end OwnKit
section OwnKitW
variable {p : Program} {l : Launch} {e : Env} {R : Room} {s : State} {m : MethodId} {args : Array Value} {below : List Frame} {meth : Method} {c : Code} {T : State} {locs : List Loc} {cells slots : Nat} {Z : State} {a0 : Array Value} {h h' : Heap} {vm0 vm1 : Vm} {k0 : Nat} {Q : Option Value → Heap → Vm → List Loc → Prop}
/-- own_Goes for a walk that may load a String constant: the tables may have grown too -/
def own_GoesW (p : Program) (e : Env) (below : List Frame) (s : State) (R : Room) (Q : Option Value → Heap → Vm → List Loc → Prop) (U : State) : Prop :=
  ∃ s₂ o, Steps p.tables e below U s₂ ∧ s₂.status = .running ∧ Ended s₂ below o ∧ ∃ v L, o = .returned v ∧ Q v s₂.heap s₂.vm L ∧ ReturnedEndW s o s₂ L R.cells R.slots
theorem own_stW {U U' : State} (k : ∀ t, Steps p.tables e below U' t → Steps p.tables e below U t) (g : own_GoesW p e below s R Q U') : own_GoesW p e below s R Q U := by
  obtain ⟨s₂, o, h1, h2⟩ := g
  exact ⟨s₂, o, k _ h1, h2⟩
theorem own_finW (X : Stand p l e R (s.setVm vm0) m args below meth c T locs cells slots) (hS : s.Since vm0 k0) (hk0 : k0 ≤ T.heap.size) (hk : meth.locks = false) {v : Option Value} (hv : meth.sig.returnType = none → v = none) {U : State}
    (hs : ∀ fs, (∀ (f : JFrame) (acts : List Action), f.method = m → f.locked = none → f.entered = [] → (doReturn e (T.setTop f) acts v).1 = T.setFrames fs) → Steps p.tables e below U (T.setFrames fs))
    (hc : cells ≤ R.cells) (hl : slots ≤ R.slots) (q : Q v T.heap T.vm locs) : own_GoesW p e below s R Q U := by
  obtain ⟨fs, hr, hrun, hended, hE1, hE2, hE3, hE4⟩ := X.leaveW hS hk0 hv hk
  exact ⟨_, _, hs fs hr, hrun, hended, v, locs, rfl, q, hE1, hE2, hE3, hE4.mono hc hl⟩
theorem own_retRW (X : Stand p l e R (s.setVm vm0) m args below meth c T locs cells slots) (hx : p.tables.exec = Jvm.exec) (hS : s.Since vm0 k0) (hk0 : k0 ≤ T.heap.size) (hk : meth.locks = false) {pc : Nat} {Ls : Array Slot} {w : Value} {t : FieldType} {rest : List Value} (hret : meth.sig.returnType = some t) (ht : t.isReference = true) (hw : w.isRef = true)
    (hd : decode c.code pc = .ok (.areturn, 1)) (hc : cells ≤ R.cells) (hl : slots ≤ R.slots) (q : Q (some w) T.heap T.vm locs) : own_GoesW p e below s R Q (T.setTop (mkF m pc Ls (w :: rest))) :=
  own_finW X hS hk0 hk (fun h => by rw [hret] at h; cases h) (fun fs hr => retOut X hx hret (own_narR ht hw) (Or.inr (Or.inr (Or.inr (Or.inr ⟨rfl, ht, hw⟩)))) hd hr) hc hl q
theorem own_retNW (X : Stand p l e R (s.setVm vm0) m args below meth c T locs cells slots) (hx : p.tables.exec = Jvm.exec) (hS : s.Since vm0 k0) (hk0 : k0 ≤ T.heap.size) (hk : meth.locks = false) {pc : Nat} {Ls : Array Slot} {z : Int32} (z' : Int32) {t : FieldType} {rest : List Value} (hret : meth.sig.returnType = some t) (ht : t = .boolean ∨ t = .byte ∨ t = .char ∨ t = .short) (hz : nar t z = z')
    (hd : decode c.code pc = .ok (.ireturn, 1)) (hc : cells ≤ R.cells) (hl : slots ≤ R.slots) (q : Q (some (.int z')) T.heap T.vm locs) : own_GoesW p e below s R Q (T.setTop (mkF m pc Ls (.int z :: rest))) := by
  subst hz
  exact own_finW X hS hk0 hk (fun h => by rw [hret] at h; cases h) (fun fs hr => retN X hx hret ht hd hr) hc hl q
theorem own_ret0W (X : Stand p l e R (s.setVm vm0) m args below meth c T locs cells slots) (hx : p.tables.exec = Jvm.exec) (hS : s.Since vm0 k0) (hk0 : k0 ≤ T.heap.size) (hk : meth.locks = false) {pc : Nat} {Ls : Array Slot} (hret : meth.sig.returnType = none)
    (hd : decode c.code pc = .ok (.return_, 1)) (hc : cells ≤ R.cells) (hl : slots ≤ R.slots) (q : Q none T.heap T.vm locs) : own_GoesW p e below s R Q (T.setTop (mkF m pc Ls [])) :=
  own_finW X hS hk0 hk (fun _ => rfl) (fun fs hr => X.returnOut hx hret hd hr) hc hl q
theorem own_enterW {y : MethodName} {bytes : ByteArray} {maxL : Nat} {ret : Option FieldType} {ws : List Jvm.Cond} {as' : Array Value} {h0 : Heap} {F : MethodId → JFrame} {Pv : Vm → Prop}
    (hp : plainFor y = true) (hf : ∀ m, entryFrame m as' maxL = F m)
    (body : ∀ (p : Program) (e : Env) (s : State) (vm0 : Vm) (m : MethodId) (below : List Frame) (meth : Method) (c : Code) (T : State), Stand p l e R (s.setVm vm0) m as' below meth c T [] 0 0 → s.Since vm0 0 → p.tables.exec = Jvm.exec → c.code = bytes → c.maxLocals = maxL → meth.sig.returnType = ret → meth.locks = false → meth.name = y.name → vm0.findClass y.cls = some m.cls → Z.Warmed39 vm0 → T.heap = h0 → s.heap = h0 → Pv vm0 → own_GoesW p e below s R Q (T.setTop (F m))) :
    MetFree l y (head1 (Jvm.Cond.code y bytes maxL ret :: ws) R) (fun a U => a = as' ∧ Z.Warmed39 U.vm ∧ U.heap = h0 ∧ Pv U.vm) (fun _ _ _ _ _ => True) (fun _ U o U' => ∃ v L, o = .returned v ∧ Q v U'.heap U'.vm L ∧ ReturnedEndW U o U' L R.cells R.slots) := by
  refine MetFree.of_bodySF hp hisR ?_
  intro p e s m args below meth c s₁ Bd hml0 hP hK
  obtain ⟨rfl, hZ, hh, hv⟩ := hP
  have e0 : s₁.heap = h0 := by rw [← hh, Bd.state]; rfl
  have X0 : Stand p l e R (s.setVm s.vm) m args below meth c s₁ [] 0 0 := Stand.of_body Bd
  have g := body p e s s.vm m below meth c s₁ X0 ((State.WarmedH.refl s).since 0) Bd.exec Bd.bytes hml0 Bd.returns Bd.notSynchronized (name_of_methodNamed Bd.named Bd.method).1 (findClass_of_methodNamed Bd.named) hZ e0 hh hv
  rw [hf]
  exact g
theorem own_backW {y : MethodName} {bytes : ByteArray} {maxL : Nat} {ret : Option FieldType} {rm : Room} {len W : Nat} {as' : Array Value} {Pv : Vm → Prop}
    (hM : MetFree l y (head1 [Jvm.Cond.code y bytes maxL ret] rm) (fun a U => a = as' ∧ Z.Warmed39 U.vm ∧ U.heap = h ∧ Pv U.vm) (fun _ _ _ _ _ => True) (fun _ U o U' => ∃ v L, o = .returned v ∧ Q v U'.heap U'.vm L ∧ ReturnedEndW U o U' L rm.cells rm.slots))
    (hZ : Z.Warmed39 s.vm) (hPv : ∀ vm', s.WarmedH vm' → Pv vm') (wc : (Jvm.Cond.code y bytes maxL ret).before a0 Z = true) (wz : (Jvm.Cond.initialized y.cls).before a0 Z = true) (hf : rm.frames + 1 ≤ R.frames) (hl : W + (maxL + 11) + rm.locals ≤ R.locals) :
    BackS l R p e below s args y len W (fun A a => a = as' ∧ A.U.heap = h ∧ A.cells + rm.cells ≤ R.cells ∧ A.slots + rm.slots ≤ R.slots)
      (fun A _ v B => ∃ L, Q v B.U.heap B.U.vm L ∧ B.locs = A.locs ++ L ∧ B.cells = A.cells + rm.cells ∧ B.slots = A.slots + rm.slots) :=
  BackS.of_freeW (bytes := bytes) (maxL := maxL) (ret := ret) (E := fun _ _ o t L k n => k = rm.cells ∧ n = rm.slots ∧ ∃ v, o = .returned v ∧ Q v t.heap t.vm L) hM hf hl
    (fun m meth c A a Y hp => have hU : Z.Warmed39 A.U.vm := wtrans hZ Y.warmed
      ⟨by show (Jvm.Cond.and _ .tt).before a A.U = true; rw [Cond.before_and, mv hU wc]; rfl, mv hU wc, mv hU wz, hp.2.2.1, hp.2.2.2⟩)
    (fun m meth c A a g mk Y hp => ⟨hp.1, wtrans hZ Y.warmed, hp.2.1, hPv _ Y.warmed⟩) (fun _ _ _ _ _ _ _ _ _ => trivial)
    (fun _ _ _ _ ⟨v, L, h1, h2, h3⟩ => ⟨L, _, _, h3, rfl, rfl, v, h1, h2⟩)
    (fun m meth c A a g mk v t L k n Y hp _ _ ⟨e1, e2, v', e3, e4⟩ => by cases e3; subst e1 e2; exact ⟨L, e4, rfl, rfl, rfl⟩)
theorem own_callSW (X : Stand p l e R (s.setVm vm0) m args below meth c T locs cells slots) (hS : s.Since vm0 k0) (hk0 : k0 ≤ T.heap.size) (hx : p.tables.exec = Jvm.exec) (hZ : Z.Warmed39 vm0) {own : String} {index : Nat} {y : MethodName} {bytes : ByteArray} {maxL : Nat} {ret : Option FieldType}
    (hown : vm0.findClass own = some m.cls) (w1 : (Jvm.Cond.methodLink own index y).before a0 Z = true) (w2 : (Jvm.Cond.static y).before a0 Z = true) (w3 : (Jvm.Cond.initialized y.cls).before a0 Z = true) (w4 : (Jvm.Cond.code y bytes maxL ret).before a0 Z = true)
    (hy : y.cls ≠ "java/lang/invoke/MethodHandle" ∧ y.cls ≠ "java/lang/invoke/VarHandle") {W : Nat} {rm : Room} {argsL rest : List Value} {Pv : Vm → Prop}
    (hM : MetFree l y (head1 [Jvm.Cond.code y bytes maxL ret] rm) (fun a U => a = argsL.toArray ∧ Z.Warmed39 U.vm ∧ U.heap = h ∧ Pv U.vm) (fun _ _ _ _ _ => True) (fun _ U o U' => ∃ v L, o = .returned v ∧ Q v U'.heap U'.vm L ∧ ReturnedEndW U o U' L rm.cells rm.slots)) (hPv : ∀ vm', (s.setVm vm0).WarmedH vm' → Pv vm')
    (hf : rm.frames + 1 ≤ R.frames) (hl : W + (maxL + 11) + rm.locals ≤ R.locals) (hc : cells + rm.cells ≤ R.cells) (hs : slots + rm.slots ≤ R.slots) (eT : T.heap = h)
    {ps : List FieldType} {r : Option FieldType} (hd : parseMethodDescriptor y.desc = some ⟨ps, r⟩) (hlen : argsL.length = ps.length)
    {g : JFrame} (hg : g.method = m) (hsize : g.locals.size = c.maxLocals) (hstack : g.stack = argsL.reverse ++ rest) (hW : 2 * g.monitorRoom + (rest.map fun v => v.category).sum ≤ W) (hdg : decode c.code g.pc = .ok (.invokestatic index, 3)) :
    ∃ (v : Option Value) (T' : State) (L : List Loc) (vm1 : Vm) (k1 : Nat), Stand p l e R (s.setVm vm1) m args below meth c T' (locs ++ L) (cells + rm.cells) (slots + rm.slots) ∧ s.Since vm1 k1 ∧ k1 ≤ T'.heap.size ∧ Z.Warmed39 vm1 ∧ vm1.findClass own = some m.cls ∧ Q v T'.heap vm1 L ∧ ∀ t, Steps p.tables e below (T'.setTop { g with pc := g.pc + 3, stack := v.toList ++ rest }) t → Steps p.tables e below (T.setTop g) t := by
  obtain ⟨v, vm₁, ⟨T', L', k', n'⟩, -, X', hS', hgr, ⟨Lc, hQ, l', y', z'⟩, st⟩ := callSS X hx (y := y) hown (mvT (s := s.setVm vm0) hZ w1) (mvT (s := s.setVm vm0) hZ w2) (mvT (s := s.setVm vm0) hZ w3) (mvT (s := s.setVm vm0) hZ w4) hy (own_backW (W := W) (s := s.setVm vm0) hM hZ hPv w4 w3 hf hl) hg hsize (argsL := argsL) (rest := rest) (lenOf hd hlen) hstack hW hdg (fun _ _ => ⟨rfl, eT, hc, hs⟩)
  dsimp only [Pt.U, Pt.locs, Pt.cells, Pt.slots] at X' l' y' z' st hQ hS' hgr
  subst l' y' z'
  obtain ⟨X2, hS2, hZ2, ho2⟩ := rebS hS hk0 X' hS' hgr hZ hown
  exact ⟨v, T', Lc, T'.vm, _, X2, hS2, Nat.le_refl _, hZ2, ho2, hQ, fun t k => st.trans k⟩
theorem own_callIW (X : Stand p l e R (s.setVm vm0) m args below meth c T locs cells slots) (hS : s.Since vm0 k0) (hk0 : k0 ≤ T.heap.size) (hx : p.tables.exec = Jvm.exec) (hZ : Z.Warmed39 vm0) {own : String} {index : Nat} {y : MethodName} {bytes : ByteArray} {maxL : Nat}
    (hown : vm0.findClass own = some m.cls) (w1 : (Jvm.Cond.methodLink own index y).before a0 Z = true) (w2 : (Jvm.Cond.instanceMethod y).before a0 Z = true) (w3 : (Jvm.Cond.initialized y.cls).before a0 Z = true) (w4 : (Jvm.Cond.code y bytes maxL none).before a0 Z = true) (hy1 : y.name = "<init>")
    (hy : y.cls ≠ "java/lang/invoke/MethodHandle" ∧ y.cls ≠ "java/lang/invoke/VarHandle") {W : Nat} {rm : Room} {a : Addr} {argsL rest : List Value} {Pv : Vm → Prop}
    (hM : MetFree l y (head1 [Jvm.Cond.code y bytes maxL none] rm) (fun b U => b = (Value.ref a :: argsL).toArray ∧ Z.Warmed39 U.vm ∧ U.heap = h ∧ Pv U.vm) (fun _ _ _ _ _ => True) (fun _ U o U' => ∃ v L, o = .returned v ∧ Q v U'.heap U'.vm L ∧ ReturnedEndW U o U' L rm.cells rm.slots)) (hPv : ∀ vm', (s.setVm vm0).WarmedH vm' → Pv vm')
    (hf : rm.frames + 1 ≤ R.frames) (hl : W + (maxL + 11) + rm.locals ≤ R.locals) (hc : cells + rm.cells ≤ R.cells) (hs : slots + rm.slots ≤ R.slots) (eT : T.heap = h)
    {ps : List FieldType} {r : Option FieldType} (hd : parseMethodDescriptor y.desc = some ⟨ps, r⟩) (hlen : argsL.length = ps.length)
    {g : JFrame} (hg : g.method = m) (hsize : g.locals.size = c.maxLocals) (hstack : g.stack = argsL.reverse ++ .ref a :: rest) (hW : 2 * g.monitorRoom + (rest.map fun v => v.category).sum ≤ W) (hdg : decode c.code g.pc = .ok (.invokespecial index, 3)) :
    ∃ (v : Option Value) (T' : State) (L : List Loc) (vm1 : Vm) (k1 : Nat), Stand p l e R (s.setVm vm1) m args below meth c T' (locs ++ L) (cells + rm.cells) (slots + rm.slots) ∧ s.Since vm1 k1 ∧ k1 ≤ T'.heap.size ∧ Z.Warmed39 vm1 ∧ vm1.findClass own = some m.cls ∧ Q v T'.heap vm1 L ∧ ∀ t, Steps p.tables e below (T'.setTop { g with pc := g.pc + 3, stack := v.toList ++ rest }) t → Steps p.tables e below (T.setTop g) t := by
  obtain ⟨v, vm₁, ⟨T', L', k', n'⟩, -, X', hS', hgr, ⟨Lc, hQ, l', y', z'⟩, st⟩ := X.specialBackS hx (y := y) hy1 hown (mvT (s := s.setVm vm0) hZ w1) (mvT (s := s.setVm vm0) hZ w2) (mvT (s := s.setVm vm0) hZ w4) hy (own_backW (W := W) (s := s.setVm vm0) hM hZ hPv w4 w3 hf hl) hg hsize (Steps.refl _) (a := a) (argsL := argsL) (rest := rest) (lenOf hd hlen) hstack hW hdg (fun _ _ => ⟨rfl, eT, hc, hs⟩)
  dsimp only [Pt.U, Pt.locs, Pt.cells, Pt.slots] at X' l' y' z' st hQ hS' hgr
  subst l' y' z'
  obtain ⟨X2, hS2, hZ2, ho2⟩ := rebS hS hk0 X' hS' hgr hZ hown
  exact ⟨v, T', Lc, T'.vm, _, X2, hS2, Nat.le_refl _, hZ2, ho2, hQ, fun t k => st.trans k⟩
/-- the constant "" of String (its entry 7): not met by this run so far, or known -/
def own_E (Z : State) (h : Heap) (vm : Vm) : Prop := IB Z vm [] ∨ ∃ a b : Addr, Lit (Z.setVm vm) "java/lang/String" 7 a ∧ Exa Z h a "java/lang/String" ∧ Fld Z h a "java/lang/String" "coder" "B" (.int (0 : Int32)) ∧ Fld Z h a "java/lang/String" "value" "[B" (.ref b) ∧ own_Arf Z h b .byte 0 (fun k => .int ((fun _ => (0 : Int32)) k))
/-- what is written there is neither such a String nor such an array -/
def own_P (Z : State) (h : Heap) (x : Addr) : Prop := (∀ a b : Addr, Exa Z h a "java/lang/String" → Fld Z h a "java/lang/String" "value" "[B" (.ref b) → a ≠ x) ∧ ∀ (b : Addr) (c : Cell), Arr Z h b c .byte → b ≠ x
theorem own_E.ext (F : own_E Z h vm0) (E : Ext h h') : own_E Z h' vm0 := F.imp id fun ⟨a, b, h1, h2, h3, h4, h5⟩ => ⟨a, b, h1, h2.ext E, h3.ext E, h4.ext E, h5.ext E⟩
theorem own_E.keep {ws : List Addr} (F : own_E Z h vm0) (K : Keep h h' ws) (q : ∀ x ∈ ws, own_P Z h x) : own_E Z h' vm0 := F.imp id fun ⟨a, b, h1, h2, h3, h4, h5⟩ => by
  have n1 : a ∉ ws := fun hm => (q a hm).1 a b h2 h4 rfl
  have n2 : b ∉ ws := fun hm => by obtain ⟨cl, A, -⟩ := h5; exact (q b hm).2 b cl A rfl
  exact ⟨a, b, h1, h2.keep K, h3.keep K n1, h4.keep K n1, h5.keep K n2⟩
theorem own_E.wr {x : Addr} {sl : Nat} {v : Value} (F : own_E Z h vm0) (W : Wr h h' x sl v) (q : own_P Z h x) : own_E Z h' vm0 := F.keep (Keep.of_wr W) fun y hy => by cases List.mem_singleton.mp hy; exact q
theorem own_P_obj {x : Addr} {C : String} {k : Nat} (E : Exa Z h x C) (wi : (Jvm.Cond.instantiable C k).before a0 Z = true) (hn : C ≠ "java/lang/String") : own_P Z h x :=
  ⟨fun a b Ea _ => ne_exa Ea E (fun q => hn q.symm), fun b c A => (ne_arr E wi A).symm⟩
theorem own_P_new {x : Addr} {k : Nat} (E : Exa Z h x "java/lang/String") (F : Fld Z h x "java/lang/String" "value" "[B" .null) (wi : (Jvm.Cond.instantiable "java/lang/String" k).before a0 Z = true) : own_P Z h x :=
  ⟨fun a b _ Fa => Fld.ne Fa F (by simp), fun b c A => (ne_arr E wi A).symm⟩
theorem own_P_arr {x : Addr} {ty : FieldType} {n k : Nat} {f : Nat → Value} (A : own_Arf Z h x ty n f) (ht : ty ≠ .byte) (wi : (Jvm.Cond.instantiable "java/lang/String" k).before a0 Z = true) : own_P Z h x := by
  obtain ⟨cl, A1, -⟩ := A
  refine ⟨fun a b Ea _ => ne_arr Ea wi A1, fun b c B q => ?_⟩
  subst q
  cases A1.1.symm.trans B.1
  obtain ⟨-, k1, h1, c1, e1⟩ := A1.2.1
  obtain ⟨-, k2, h2, c2, e2⟩ := B.2.1
  cases h1.symm.trans h2
  rw [e1] at e2
  injection e2 with e3 e4
  exact ht e4
theorem own_E.top (F : own_E Z h vm0) (hW : (s.setVm vm0).WarmedH vm1) : own_E Z h vm1 := F.imp (fun ⟨more, h1, h2⟩ => ⟨more, by rw [show vm1.interned = vm0.interned from hW.interned_eq]; exact h1, h2⟩) fun ⟨a, b, h1, r⟩ => ⟨a, b, Lit.stays (s := s) (vm0 := vm0) h1 hW.wide, r⟩
theorem own_ldcE (X : Stand p l e R (s.setVm vm0) m args below meth c T locs cells slots) (hx : p.tables.exec = Jvm.exec) (hZ : Z.Warmed39 vm0) (hown : vm0.findClass "java/lang/String" = some m.cls) (w : (Jvm.Cond.stringLink "java/lang/String" 7 "").before a0 Z = true) (wS : ∀ a ∈ Bundle.stringAtoms, a.before a0 Z = true)
    (eT : T.heap = h) (hS : s.Since vm0 k0) (hk : k0 ≤ h.size) (N : Fr s.heap.size locs) (hkeep : ∀ (b : Addr) (cl : Cell), Z.heap[b]? = some cl → s.heap[b]? = some cl) (F : own_E Z h vm0) (hh : Jvm.Lit.constHeld Z "java/lang/String" 7) (hcw : Jvm.Lit.compactW.before a0 Z = true)
    {g : JFrame} (hg : g.method = m) (hd : decode c.code g.pc = .ok (.ldc 7, 2)) (hc : cells + 2 ≤ R.cells) (hl : slots + 4 ≤ R.slots) :
    ∃ (a b : Addr) (T' : State) (h' : Heap) (vm1 : Vm) (k1 : Nat), Stand p l e R (s.setVm vm1) m args below meth c T' locs (cells + 2) (slots + 4) ∧ T'.heap = h' ∧ Ext h h' ∧ s.Since vm1 k1 ∧ k1 ≤ h'.size ∧ Z.Warmed39 vm1 ∧ vm1.findClass "java/lang/String" = some m.cls ∧ Lit (Z.setVm vm1) "java/lang/String" 7 a ∧
      Exa Z h' a "java/lang/String" ∧ Fld Z h' a "java/lang/String" "coder" "B" (.int (0 : Int32)) ∧ Fld Z h' a "java/lang/String" "value" "[B" (.ref b) ∧ own_Arf Z h' b .byte 0 (fun k => .int ((fun _ => (0 : Int32)) k)) ∧
      ∀ t, Steps p.tables e below (T'.setTop { g with pc := g.pc + 2, stack := .ref a :: g.stack }) t → Steps p.tables e below (T.setTop g) t := by
  rcases F with I | ⟨a, b, h1, h2, h3, h4, h5⟩
  · obtain ⟨a, T', h', k1, b, k, r1, r2, r3, r4, r5, r6, r7, r8, r9, r10, r11, r12, r13, r14, r15, r16⟩ := ldcSVL X hx hZ hown w wS eT hS hk N hkeep I (by simp) hh hcw (vs := []) (z := (0 : Int32)) ⟨by simp, rfl⟩ (by decide) rfl hg hd (n := 0) (by simp) (by decide) hc hl
    refine ⟨a, b, T', h', T'.vm, k1, r1, r2, r3, r4, r5, r6, r7, r15, r8, r9, r10, ?_, r16⟩
    obtain ⟨cl, A, -, S, -⟩ := r11
    exact ⟨cl, A, S, fun j hj => absurd hj (Nat.not_lt_zero j)⟩
  · exact ⟨a, b, T, h, vm0, k0, X.more (by omega) (by omega), eT, ⟨Nat.le_refl _, fun _ _ q => q⟩, hS, hk, hZ, hown, h1, h2, h3, h4, h5, ldcAgain X hx hZ hown w h1 hg hd⟩
end OwnKitW
theorem own_pl1 {Z : State} {h : Heap} {a : Addr} {C : String} (E : Exa Z h a C) : ∀ x ∈ [a], ∀ c : Cell, h[x]? = some c → c.vm.isStatics = false := fun x hx c hc => by
  cases List.mem_singleton.mp hx
  obtain ⟨c', k, h1, -, -, h4, -⟩ := E
  cases h1.symm.trans hc
  exact h4
theorem own_pl0 {h : Heap} : ∀ x ∈ ([] : List Addr), ∀ c : Cell, h[x]? = some c → c.vm.isStatics = false := fun x hx => nomatch hx
theorem own_nb (x : Int32) (h : -128 ≤ x.toInt ∧ x.toInt < 128) : (nar .byte x).toInt = x.toInt := by
  have h2 := c_i2b x
  show x.toInt8.toInt32.toInt = x.toInt
  omega
theorem own_ch (x : Int32) (h : 0 ≤ x.toInt ∧ x.toInt ≤ 255) : 0 ≤ (nar .char (x.toUInt32.toUInt16.toUInt32.toInt32)).toInt ∧ (nar .char (x.toUInt32.toUInt16.toUInt32.toInt32)).toInt ≤ 255 := by
  have h1 := c_i2c x
  have h2 := c_i2c (x.toUInt32.toUInt16.toUInt32.toInt32)
  show 0 ≤ ((x.toUInt32.toUInt16.toUInt32.toInt32).toUInt32.toUInt16.toUInt32.toInt32).toInt ∧ ((x.toUInt32.toUInt16.toUInt32.toInt32).toUInt32.toUInt16.toUInt32.toInt32).toInt ≤ 255
  omega
theorem own_m255 (x : Int32) : 0 ≤ (x &&& (255 : Int32)).toInt ∧ (x &&& (255 : Int32)).toInt ≤ 255 := by
  have h3 : (x &&& (255 : Int32)).toInt = x.toInt % 256 := c_mask x 255 8 (by decide) (by decide)
  omega
theorem own_ch0 (x : Int32) : 0 ≤ (nar .char ((x &&& (255 : Int32)).toUInt32.toUInt16.toUInt32.toInt32)).toInt ∧ (nar .char ((x &&& (255 : Int32)).toUInt32.toUInt16.toUInt32.toInt32)).toInt ≤ 255 := own_ch _ (own_m255 x)
theorem own_ch1 (x : Int32) : 0 ≤ (nar .char ((((x.toUInt32 >>> ((8 : Int32) &&& 31).toUInt32).toInt32) &&& (255 : Int32)).toUInt32.toUInt16.toUInt32.toInt32)).toInt ∧ (nar .char ((((x.toUInt32 >>> ((8 : Int32) &&& 31).toUInt32).toInt32) &&& (255 : Int32)).toUInt32.toUInt16.toUInt32.toInt32)).toInt ≤ 255 := own_ch _ (own_m255 _)
theorem own_chB (x : Int32) : 0 ≤ ((x &&& (255 : Int32)).toUInt32.toUInt16.toUInt32.toInt32).toInt ∧ ((x &&& (255 : Int32)).toUInt32.toUInt16.toUInt32.toInt32).toInt ≤ 255 := by
  have h0 := own_m255 x
  have h1 := c_i2c (x &&& (255 : Int32))
  omega
theorem own_compact {s : State} {args : Array Value} {C n d : String} (h1 : (Jvm.Cond.isInt (Jvm.Term.static C n d)).value args s none s [] = some true) (h2 : (Jvm.Cond.not (Jvm.Cond.eq (Jvm.Term.static C n d) (Jvm.Term.int (0 : Int32)))).value args s none s [] = some true) (w : (Jvm.Cond.initializedFor C n d).before args s = true) : ∃ cs : Int32, Sta s s.heap C n d (.int cs) ∧ ¬ cs = (0 : Int32) := by
  obtain ⟨cs, ev⟩ := is_v h1
  refine ⟨cs, Sta.start ev (Or.inl w), fun q => ?_⟩
  subst q
  have h3 := not_v h2
  have h4 := eq_i ev (Term.int_eval (0 : Int32)) rfl
  rw [h4] at h3
  cases h3
theorem own_wS {Z : State} {a0 : Array Value} (hw : ∀ d ∈ tables_1, d.before a0 Z = true) : ∀ a ∈ Bundle.stringAtoms, a.before a0 Z = true := by
  intro a ha
  simp only [Bundle.stringAtoms, List.mem_cons, List.not_mem_nil, or_false] at ha
  rcases ha with rfl | rfl | rfl | rfl | rfl | rfl | rfl
  · exact (hw _ (List.mem_of_getElem? (i := 49) rfl))
  · exact (hw _ (List.mem_of_getElem? (i := 48) rfl))
  · exact (hw _ (List.mem_of_getElem? (i := 64) rfl))
  · exact (hw _ (List.mem_of_getElem? (i := 74) rfl))
  · exact (hw _ (List.mem_of_getElem? (i := 72) rfl))
  · exact (hw _ (List.mem_of_getElem? (i := 81) rfl))
  · exact (hw _ (List.mem_of_getElem? (i := 82) rfl))
theorem own_HK {Z : State} {h0 h : Heap} (HK : ∀ (b : Addr) (cl : Cell), Z.heap[b]? = some cl → h0[b]? = some cl) (K : Keep h0 h []) : ∀ (b : Addr) (cl : Cell), Z.heap[b]? = some cl → h[b]? = some cl := fun b cl q => K.2.1 b cl (HK b cl q) (by simp)
theorem own_pn0 : plainFor (⟨"java/lang/StringUTF16", "compress", "([CI[BII)I"⟩ : MethodName) = true := by first | exact plainFor_of_name (by simp [plainName, overriddenIn]; done) | decide +kernel
theorem own_d13_0 : decode jdk_52_method_21_code 0 = .ok (.iconst 0, 1) := by decide +kernel
theorem own_d13_1 : decode jdk_52_method_21_code 1 = .ok (.istore 5, 2) := by decide +kernel
theorem own_d13_3 : decode jdk_52_method_21_code 3 = .ok (.iload 5, 2) := by decide +kernel
theorem own_d13_5 : decode jdk_52_method_21_code 5 = .ok (.iload 4, 2) := by decide +kernel
theorem own_d13_7 : decode jdk_52_method_21_code 7 = .ok (.if_icmp .ge 37, 3) := by decide +kernel
theorem own_d13_10 : decode jdk_52_method_21_code 10 = .ok (.aload_n 0, 1) := by decide +kernel
theorem own_d13_11 : decode jdk_52_method_21_code 11 = .ok (.iload_n 1, 1) := by decide +kernel
theorem own_d13_12 : decode jdk_52_method_21_code 12 = .ok (.caload, 1) := by decide +kernel
theorem own_d13_13 : decode jdk_52_method_21_code 13 = .ok (.istore 6, 2) := by decide +kernel
theorem own_d13_15 : decode jdk_52_method_21_code 15 = .ok (.iload 6, 2) := by decide +kernel
theorem own_d13_17 : decode jdk_52_method_21_code 17 = .ok (.sipush 255, 3) := by decide +kernel
theorem own_d13_20 : decode jdk_52_method_21_code 20 = .ok (.if_icmp .le 6, 3) := by decide +kernel
theorem own_d13_26 : decode jdk_52_method_21_code 26 = .ok (.aload_n 2, 1) := by decide +kernel
theorem own_d13_27 : decode jdk_52_method_21_code 27 = .ok (.iload_n 3, 1) := by decide +kernel
theorem own_d13_28 : decode jdk_52_method_21_code 28 = .ok (.iload 6, 2) := by decide +kernel
theorem own_d13_30 : decode jdk_52_method_21_code 30 = .ok (.i2b, 1) := by decide +kernel
theorem own_d13_31 : decode jdk_52_method_21_code 31 = .ok (.bastore, 1) := by decide +kernel
theorem own_d13_32 : decode jdk_52_method_21_code 32 = .ok (.iinc 1 1, 3) := by decide +kernel
theorem own_d13_35 : decode jdk_52_method_21_code 35 = .ok (.iinc 3 1, 3) := by decide +kernel
theorem own_d13_38 : decode jdk_52_method_21_code 38 = .ok (.iinc 5 1, 3) := by decide +kernel
theorem own_d13_41 : decode jdk_52_method_21_code 41 = .ok (.goto (-38), 3) := by decide +kernel
theorem own_d13_44 : decode jdk_52_method_21_code 44 = .ok (.iload 4, 2) := by decide +kernel
theorem own_d13_46 : decode jdk_52_method_21_code 46 = .ok (.ireturn, 1) := by decide +kernel
theorem own_ef_rmCc1 (m : MethodId) (a1 : Nat) (a3 : Nat) : entryFrame m #[(.ref a1), (.int (0 : Int32)), (.ref a3), (.int (0 : Int32)), (.int (1 : Int32))] 7 = mkF m 0 #[rv a1, iv (0 : Int32), rv a3, iv (0 : Int32), iv (1 : Int32), .unset, .unset] [] := by first | (simp [entryFrame, mkF, argsToLocals, Value.category, maxLocals]; done) | rfl
abbrev own_Q_rmCc1 (Z : State) (a1 : Nat) (a3 : Nat) (f : Nat → Int32) (g : Nat → Int32) (h0 : Heap) (n0 : Nat) (v : Option Value) (h : Heap) (L : List Loc) : Prop := v = some (.int (1 : Int32)) ∧ Fr n0 L ∧ Keep h0 h [a3] ∧ own_Arf Z h a3 .byte 1 (fun k => .int ((fun j => nar .byte ((f j).toInt8.toInt32)) k))
set_option maxRecDepth 65536 in
set_option maxHeartbeats 40000000 in
theorem rmCc1 (l : Launch) (Z : State) (a0 : Array Value) (hw : ∀ d ∈ tables_1, d.before a0 Z = true) (ws : List Jvm.Cond) (a1 : Nat) (a3 : Nat) (f : Nat → Int32) (g : Nat → Int32) (h0 : Heap) (n0 : Nat) (Z0 : n0 ≤ h0.size) (V1 : own_Arf Z h0 a1 .char 1 (fun k => .int (f k))) (V3 : own_Arf Z h0 a3 .byte 1 (fun k => .int (g k))) (hc : ∀ j, j < 1 → 0 ≤ (f j).toInt ∧ (f j).toInt ≤ 255) (g3 : n0 ≤ a3) (x13 : a1 ≠ a3) :
    MetFree l (⟨"java/lang/StringUTF16", "compress", "([CI[BII)I"⟩ : MethodName) (head1 (Jvm.Cond.code (⟨"java/lang/StringUTF16", "compress", "([CI[BII)I"⟩ : MethodName) jdk_52_method_21_code 7 (some .int) :: ws) ({ frames := 0, cells := 0, slots := 0, locals := 0 } : Room)) (fun a U => a = #[(.ref a1), (.int (0 : Int32)), (.ref a3), (.int (0 : Int32)), (.int (1 : Int32))] ∧ Z.Warmed39 U.vm ∧ U.heap = h0) (fun _ _ _ _ _ => True) (fun _ U o U' => ∃ v L, o = .returned v ∧ own_Q_rmCc1 Z a1 a3 f g h0 n0 v U'.heap L ∧ FrameEnd U o U' L ({ frames := 0, cells := 0, slots := 0, locals := 0 } : Room).cells ({ frames := 0, cells := 0, slots := 0, locals := 0 } : Room).slots) := by
  refine own_enter (Q := fun v h L => own_Q_rmCc1 Z a1 a3 f g h0 n0 v h L) (F := fun m => mkF m 0 #[rv a1, iv (0 : Int32), rv a3, iv (0 : Int32), iv (1 : Int32), .unset, .unset] []) own_pn0 (fun m => own_ef_rmCc1 m a1 a3) ?_
  intro p e s m below meth c T X hx hby hml hret hlk hnm hown hZ e0
  show own_Goes p e below s _ _ (T.setTop (mkF m 0 #[rv a1, iv (0 : Int32), rv a3, iv (0 : Int32), iv (1 : Int32), .unset, .unset] []))
  have N0 := Fr.nil n0
  have hc0 := hc 0 (by decide)
  refine own_st (fun _ k => XS.iconst X.here hx rfl (hb hby own_d13_0) k) ?_
  show own_Goes p e below s _ _ (T.setTop (mkF m 1 #[rv a1, iv (0 : Int32), rv a3, iv (0 : Int32), iv (1 : Int32), .unset, .unset] [(.int (0 : Int32))]))
  refine own_st (fun _ k => XS.istore X.here hx rfl (hb hby own_d13_1) rfl (l' := #[rv a1, iv (0 : Int32), rv a3, iv (0 : Int32), iv (1 : Int32), iv (0 : Int32), .unset]) rfl k) ?_
  show own_Goes p e below s _ _ (T.setTop (mkF m 3 #[rv a1, iv (0 : Int32), rv a3, iv (0 : Int32), iv (1 : Int32), iv (0 : Int32), .unset] []))
  refine own_st (fun _ k => XS.iload X.here hx rfl (hb hby own_d13_3) rfl  k) ?_
  show own_Goes p e below s _ _ (T.setTop (mkF m 5 #[rv a1, iv (0 : Int32), rv a3, iv (0 : Int32), iv (1 : Int32), iv (0 : Int32), .unset] [(.int (0 : Int32))]))
  refine own_st (fun _ k => XS.iload X.here hx rfl (hb hby own_d13_5) rfl  k) ?_
  show own_Goes p e below s _ _ (T.setTop (mkF m 7 #[rv a1, iv (0 : Int32), rv a3, iv (0 : Int32), iv (1 : Int32), iv (0 : Int32), .unset] [(.int (1 : Int32)), (.int (0 : Int32))]))
  refine own_st (fun _ k => XS.icmpNo X.here hx rfl (hb hby own_d13_7) rfl (tlt (by decide : (0 : Int32) < (1 : Int32))).2.1 k) ?_
  show own_Goes p e below s _ _ (T.setTop (mkF m 10 #[rv a1, iv (0 : Int32), rv a3, iv (0 : Int32), iv (1 : Int32), iv (0 : Int32), .unset] []))
  refine own_st (fun _ k => XS.aloadN X.here hx rfl (hb hby own_d13_10) rfl rfl  k) ?_
  show own_Goes p e below s _ _ (T.setTop (mkF m 11 #[rv a1, iv (0 : Int32), rv a3, iv (0 : Int32), iv (1 : Int32), iv (0 : Int32), .unset] [(.ref a1)]))
  refine own_st (fun _ k => XS.iloadN X.here hx rfl (hb hby own_d13_11) rfl  k) ?_
  show own_Goes p e below s _ _ (T.setTop (mkF m 12 #[rv a1, iv (0 : Int32), rv a3, iv (0 : Int32), iv (1 : Int32), iv (0 : Int32), .unset] [(.int (0 : Int32)), (.ref a1)]))
  refine own_st (fun _ k => own_ldC X hx hZ e0 V1 (j := (0 : Int32)) (by decide) (g := (mkF m 12 #[rv a1, iv (0 : Int32), rv a3, iv (0 : Int32), iv (1 : Int32), iv (0 : Int32), .unset] [(.int (0 : Int32)), (.ref a1)])) rfl rfl (hb hby own_d13_12) _ k) ?_
  show own_Goes p e below s _ _ (T.setTop (mkF m 13 #[rv a1, iv (0 : Int32), rv a3, iv (0 : Int32), iv (1 : Int32), iv (0 : Int32), .unset] [(.int (f 0))]))
  refine own_st (fun _ k => XS.istore X.here hx rfl (hb hby own_d13_13) rfl (l' := #[rv a1, iv (0 : Int32), rv a3, iv (0 : Int32), iv (1 : Int32), iv (0 : Int32), iv (f 0)]) rfl k) ?_
  show own_Goes p e below s _ _ (T.setTop (mkF m 15 #[rv a1, iv (0 : Int32), rv a3, iv (0 : Int32), iv (1 : Int32), iv (0 : Int32), iv (f 0)] []))
  refine own_st (fun _ k => XS.iload X.here hx rfl (hb hby own_d13_15) rfl  k) ?_
  show own_Goes p e below s _ _ (T.setTop (mkF m 17 #[rv a1, iv (0 : Int32), rv a3, iv (0 : Int32), iv (1 : Int32), iv (0 : Int32), iv (f 0)] [(.int (f 0))]))
  refine own_st (fun _ k => XS.sipush X.here hx rfl (hb hby own_d13_17) k) ?_
  show own_Goes p e below s _ _ (T.setTop (mkF m 20 #[rv a1, iv (0 : Int32), rv a3, iv (0 : Int32), iv (1 : Int32), iv (0 : Int32), iv (f 0)] [(.int (255 : Int32)), (.int (f 0))]))
  by_cases c101 : (255 : Int32) < (f 0)
  · have c101i : 255 < (f 0).toInt := own_i_lt c101
    exfalso; omega
  · have c101i : (f 0).toInt ≤ 255 := own_i_nlt c101
    refine own_st (fun _ k => XS.icmpYes X.here hx rfl (pc0 := 20) (pc' := 26) rfl (hb hby own_d13_20) rfl (flt c101).2.2.2 (by decide) (by decide) k) ?_
    show own_Goes p e below s _ _ (T.setTop (mkF m 26 #[rv a1, iv (0 : Int32), rv a3, iv (0 : Int32), iv (1 : Int32), iv (0 : Int32), iv (f 0)] []))
    refine own_st (fun _ k => XS.aloadN X.here hx rfl (hb hby own_d13_26) rfl rfl  k) ?_
    show own_Goes p e below s _ _ (T.setTop (mkF m 27 #[rv a1, iv (0 : Int32), rv a3, iv (0 : Int32), iv (1 : Int32), iv (0 : Int32), iv (f 0)] [(.ref a3)]))
    refine own_st (fun _ k => XS.iloadN X.here hx rfl (hb hby own_d13_27) rfl  k) ?_
    show own_Goes p e below s _ _ (T.setTop (mkF m 28 #[rv a1, iv (0 : Int32), rv a3, iv (0 : Int32), iv (1 : Int32), iv (0 : Int32), iv (f 0)] [(.int (0 : Int32)), (.ref a3)]))
    refine own_st (fun _ k => XS.iload X.here hx rfl (hb hby own_d13_28) rfl  k) ?_
    show own_Goes p e below s _ _ (T.setTop (mkF m 30 #[rv a1, iv (0 : Int32), rv a3, iv (0 : Int32), iv (1 : Int32), iv (0 : Int32), iv (f 0)] [(.int (f 0)), (.int (0 : Int32)), (.ref a3)]))
    refine own_st (fun _ k => XS.i2b X.here hx rfl (hb hby own_d13_30) rfl k) ?_
    show own_Goes p e below s _ _ (T.setTop (mkF m 31 #[rv a1, iv (0 : Int32), rv a3, iv (0 : Int32), iv (1 : Int32), iv (0 : Int32), iv (f 0)] [(.int ((f 0).toInt8.toInt32)), (.int (0 : Int32)), (.ref a3)]))
    obtain ⟨T102, h102, X102, e102, W102, A102, st102⟩ := own_stB X hx hZ e0 V3 (j := (0 : Int32)) (by decide) (g := (mkF m 31 #[rv a1, iv (0 : Int32), rv a3, iv (0 : Int32), iv (1 : Int32), iv (0 : Int32), iv (f 0)] [(.int ((f 0).toInt8.toInt32)), (.int (0 : Int32)), (.ref a3)])) rfl rfl (hb hby own_d13_31)
    have V102 : own_Arf Z h102 a3 .byte 1 (fun k => .int ((fun k => if k = 0 then (nar .byte ((f 0).toInt8.toInt32)) else g k) k)) := A102
    have z102 := W102.size
    have N102 := Fr.snoc X102 N0 (by omega)
    refine own_st st102 ?_
    show own_Goes p e below s _ _ (T102.setTop (mkF m 32 #[rv a1, iv (0 : Int32), rv a3, iv (0 : Int32), iv (1 : Int32), iv (0 : Int32), iv (f 0)] []))
    refine own_st (fun _ k => XS.iinc X102.here hx rfl (hb hby own_d13_32) rfl (l' := #[rv a1, iv (1 : Int32), rv a3, iv (0 : Int32), iv (1 : Int32), iv (0 : Int32), iv (f 0)]) rfl k) ?_
    show own_Goes p e below s _ _ (T102.setTop (mkF m 35 #[rv a1, iv (1 : Int32), rv a3, iv (0 : Int32), iv (1 : Int32), iv (0 : Int32), iv (f 0)] []))
    refine own_st (fun _ k => XS.iinc X102.here hx rfl (hb hby own_d13_35) rfl (l' := #[rv a1, iv (1 : Int32), rv a3, iv (1 : Int32), iv (1 : Int32), iv (0 : Int32), iv (f 0)]) rfl k) ?_
    show own_Goes p e below s _ _ (T102.setTop (mkF m 38 #[rv a1, iv (1 : Int32), rv a3, iv (1 : Int32), iv (1 : Int32), iv (0 : Int32), iv (f 0)] []))
    refine own_st (fun _ k => XS.iinc X102.here hx rfl (hb hby own_d13_38) rfl (l' := #[rv a1, iv (1 : Int32), rv a3, iv (1 : Int32), iv (1 : Int32), iv (1 : Int32), iv (f 0)]) rfl k) ?_
    show own_Goes p e below s _ _ (T102.setTop (mkF m 41 #[rv a1, iv (1 : Int32), rv a3, iv (1 : Int32), iv (1 : Int32), iv (1 : Int32), iv (f 0)] []))
    refine own_st (fun _ k => XS.goto X102.here hx rfl (pc0 := 41) (pc' := 3) rfl (hb hby own_d13_41) (by decide) (by decide) k) ?_
    show own_Goes p e below s _ _ (T102.setTop (mkF m 3 #[rv a1, iv (1 : Int32), rv a3, iv (1 : Int32), iv (1 : Int32), iv (1 : Int32), iv (f 0)] []))
    refine own_st (fun _ k => XS.iload X102.here hx rfl (hb hby own_d13_3) rfl  k) ?_
    show own_Goes p e below s _ _ (T102.setTop (mkF m 5 #[rv a1, iv (1 : Int32), rv a3, iv (1 : Int32), iv (1 : Int32), iv (1 : Int32), iv (f 0)] [(.int (1 : Int32))]))
    refine own_st (fun _ k => XS.iload X102.here hx rfl (hb hby own_d13_5) rfl  k) ?_
    show own_Goes p e below s _ _ (T102.setTop (mkF m 7 #[rv a1, iv (1 : Int32), rv a3, iv (1 : Int32), iv (1 : Int32), iv (1 : Int32), iv (f 0)] [(.int (1 : Int32)), (.int (1 : Int32))]))
    refine own_st (fun _ k => XS.icmpYes X102.here hx rfl (pc0 := 7) (pc' := 44) rfl (hb hby own_d13_7) rfl (flt (by decide : ¬ ((1 : Int32) < (1 : Int32)))).2.1 (by decide) (by decide) k) ?_
    show own_Goes p e below s _ _ (T102.setTop (mkF m 44 #[rv a1, iv (1 : Int32), rv a3, iv (1 : Int32), iv (1 : Int32), iv (1 : Int32), iv (f 0)] []))
    refine own_st (fun _ k => XS.iload X102.here hx rfl (hb hby own_d13_44) rfl  k) ?_
    show own_Goes p e below s _ _ (T102.setTop (mkF m 46 #[rv a1, iv (1 : Int32), rv a3, iv (1 : Int32), iv (1 : Int32), iv (1 : Int32), iv (f 0)] [(.int (1 : Int32))]))
    exact own_retI X102 hx hlk hret (hb hby own_d13_46) (by decide) (by decide) ⟨rfl, N102, by rw [e102]; exact ((Keep.refl h0 [a3]).wr W102 (Or.inl (by simp))), by rw [e102]; exact (own_Arf.congr V102 (fun j hj => by have q : j = 0 := (by omega); subst q; rfl))⟩
theorem own_pn1 : plainFor (⟨"java/lang/StringUTF16", "compress", "([CII)[B"⟩ : MethodName) = true := by first | exact plainFor_of_name (by simp [plainName, overriddenIn]; done) | decide +kernel
theorem own_d12_0 : decode jdk_52_method_16_code 0 = .ok (.iload_n 2, 1) := by decide +kernel
theorem own_d12_1 : decode jdk_52_method_16_code 1 = .ok (.newarray .byte, 2) := by decide +kernel
theorem own_d12_3 : decode jdk_52_method_16_code 3 = .ok (.astore_n 3, 1) := by decide +kernel
theorem own_d12_4 : decode jdk_52_method_16_code 4 = .ok (.aload_n 0, 1) := by decide +kernel
theorem own_d12_5 : decode jdk_52_method_16_code 5 = .ok (.iload_n 1, 1) := by decide +kernel
theorem own_d12_6 : decode jdk_52_method_16_code 6 = .ok (.aload_n 3, 1) := by decide +kernel
theorem own_d12_7 : decode jdk_52_method_16_code 7 = .ok (.iconst 0, 1) := by decide +kernel
theorem own_d12_8 : decode jdk_52_method_16_code 8 = .ok (.iload_n 2, 1) := by decide +kernel
theorem own_d12_9 : decode jdk_52_method_16_code 9 = .ok (.invokestatic 115, 3) := by decide +kernel
theorem own_pd0 : parseMethodDescriptor "([CI[BII)I" = some ⟨[(.array .char), .int, (.array .byte), .int, .int], some .int⟩ := by decide +kernel
theorem own_d12_12 : decode jdk_52_method_16_code 12 = .ok (.istore 4, 2) := by decide +kernel
theorem own_d12_14 : decode jdk_52_method_16_code 14 = .ok (.iload 4, 2) := by decide +kernel
theorem own_d12_16 : decode jdk_52_method_16_code 16 = .ok (.iload_n 2, 1) := by decide +kernel
theorem own_d12_17 : decode jdk_52_method_16_code 17 = .ok (.if_icmp .eq 40, 3) := by decide +kernel
theorem own_d12_57 : decode jdk_52_method_16_code 57 = .ok (.aload_n 3, 1) := by decide +kernel
theorem own_d12_58 : decode jdk_52_method_16_code 58 = .ok (.areturn, 1) := by decide +kernel
theorem own_ef_rmCp1 (m : MethodId) (a1 : Nat) : entryFrame m #[(.ref a1), (.int (0 : Int32)), (.int (1 : Int32))] 6 = mkF m 0 #[rv a1, iv (0 : Int32), iv (1 : Int32), .unset, .unset, .unset] [] := by first | (simp [entryFrame, mkF, argsToLocals, Value.category, maxLocals]; done) | rfl
abbrev own_Q_rmCp1 (Z : State) (a1 : Nat) (f : Nat → Int32) (h0 : Heap) (n0 : Nat) (v : Option Value) (h : Heap) (L : List Loc) : Prop := ∃ b : Nat, v = some (.ref b) ∧ Fr n0 L ∧ Keep h0 h [] ∧ h0.size ≤ b ∧ b < h.size ∧ own_Arf Z h b .byte 1 (fun k => .int ((fun j => nar .byte ((f j).toInt8.toInt32)) k))
set_option maxRecDepth 65536 in
set_option maxHeartbeats 40000000 in
theorem rmCp1 (l : Launch) (Z : State) (a0 : Array Value) (hw : ∀ d ∈ tables_1, d.before a0 Z = true) (ws : List Jvm.Cond) (a1 : Nat) (f : Nat → Int32) (h0 : Heap) (n0 : Nat) (Z0 : n0 ≤ h0.size) (V1 : own_Arf Z h0 a1 .char 1 (fun k => .int (f k))) (hc : ∀ j, j < 1 → 0 ≤ (f j).toInt ∧ (f j).toInt ≤ 255) :
    MetFree l (⟨"java/lang/StringUTF16", "compress", "([CII)[B"⟩ : MethodName) (head1 (Jvm.Cond.code (⟨"java/lang/StringUTF16", "compress", "([CII)[B"⟩ : MethodName) jdk_52_method_16_code 6 (some (.array .byte)) :: ws) ({ frames := 1, cells := 1, slots := 1, locals := 18 } : Room)) (fun a U => a = #[(.ref a1), (.int (0 : Int32)), (.int (1 : Int32))] ∧ Z.Warmed39 U.vm ∧ U.heap = h0) (fun _ _ _ _ _ => True) (fun _ U o U' => ∃ v L, o = .returned v ∧ own_Q_rmCp1 Z a1 f h0 n0 v U'.heap L ∧ FrameEnd U o U' L ({ frames := 1, cells := 1, slots := 1, locals := 18 } : Room).cells ({ frames := 1, cells := 1, slots := 1, locals := 18 } : Room).slots) := by
  refine own_enter (Q := fun v h L => own_Q_rmCp1 Z a1 f h0 n0 v h L) (F := fun m => mkF m 0 #[rv a1, iv (0 : Int32), iv (1 : Int32), .unset, .unset, .unset] []) own_pn1 (fun m => own_ef_rmCp1 m a1) ?_
  intro p e s m below meth c T X hx hby hml hret hlk hnm hown hZ e0
  show own_Goes p e below s _ _ (T.setTop (mkF m 0 #[rv a1, iv (0 : Int32), iv (1 : Int32), .unset, .unset, .unset] []))
  have N0 := Fr.nil n0
  have y1 := own_lt V1.lt
  refine own_st (fun _ k => XS.iloadN X.here hx rfl (hb hby own_d12_0) rfl  k) ?_
  show own_Goes p e below s _ _ (T.setTop (mkF m 1 #[rv a1, iv (0 : Int32), iv (1 : Int32), .unset, .unset, .unset] [(.int (1 : Int32))]))
  obtain ⟨T101, h101, X101, e101, E101, A101, st101⟩ := own_newP X hx hZ (aty := .byte) (hw _ (List.mem_of_getElem? (i := 64) rfl)) e0 (g := (mkF m 1 #[rv a1, iv (0 : Int32), iv (1 : Int32), .unset, .unset, .unset] [(.int (1 : Int32))])) rfl (hb hby own_d12_1) rfl (by decide) (cap := 1) (by decide) (by decide) (by decide) (by decide)
  obtain ⟨b101, g101⟩ : ∃ z, z = h0.size := ⟨_, rfl⟩
  rw [← g101] at A101 st101
  have V101 : own_Arf Z h101 b101 .byte 1 (fun k => .int ((fun _ => (0 : Int32)) k)) := A101
  have y101 := own_lt V101.lt
  have z101 := E101.1
  refine own_st st101 ?_
  show own_Goes p e below s _ _ (T101.setTop (mkF m 3 #[rv a1, iv (0 : Int32), iv (1 : Int32), .unset, .unset, .unset] [(.ref b101)]))
  refine own_st (fun _ k => XS.astoreN X101.here hx rfl (hb hby own_d12_3) rfl rfl (l' := #[rv a1, iv (0 : Int32), iv (1 : Int32), rv b101, .unset, .unset]) rfl k) ?_
  show own_Goes p e below s _ _ (T101.setTop (mkF m 4 #[rv a1, iv (0 : Int32), iv (1 : Int32), rv b101, .unset, .unset] []))
  refine own_st (fun _ k => XS.aloadN X101.here hx rfl (hb hby own_d12_4) rfl rfl  k) ?_
  show own_Goes p e below s _ _ (T101.setTop (mkF m 5 #[rv a1, iv (0 : Int32), iv (1 : Int32), rv b101, .unset, .unset] [(.ref a1)]))
  refine own_st (fun _ k => XS.iloadN X101.here hx rfl (hb hby own_d12_5) rfl  k) ?_
  show own_Goes p e below s _ _ (T101.setTop (mkF m 6 #[rv a1, iv (0 : Int32), iv (1 : Int32), rv b101, .unset, .unset] [(.int (0 : Int32)), (.ref a1)]))
  refine own_st (fun _ k => XS.aloadN X101.here hx rfl (hb hby own_d12_6) rfl rfl  k) ?_
  show own_Goes p e below s _ _ (T101.setTop (mkF m 7 #[rv a1, iv (0 : Int32), iv (1 : Int32), rv b101, .unset, .unset] [(.ref b101), (.int (0 : Int32)), (.ref a1)]))
  refine own_st (fun _ k => XS.iconst X101.here hx rfl (hb hby own_d12_7) k) ?_
  show own_Goes p e below s _ _ (T101.setTop (mkF m 8 #[rv a1, iv (0 : Int32), iv (1 : Int32), rv b101, .unset, .unset] [(.int (0 : Int32)), (.ref b101), (.int (0 : Int32)), (.ref a1)]))
  refine own_st (fun _ k => XS.iloadN X101.here hx rfl (hb hby own_d12_8) rfl  k) ?_
  show own_Goes p e below s _ _ (T101.setTop (mkF m 9 #[rv a1, iv (0 : Int32), iv (1 : Int32), rv b101, .unset, .unset] [(.int (1 : Int32)), (.int (0 : Int32)), (.ref b101), (.int (0 : Int32)), (.ref a1)]))
  have f103 := (V1.ext E101)
  obtain ⟨v102, T102, L102, X102, Q102, st102⟩ := own_callS X101 hx hZ (y := (⟨"java/lang/StringUTF16", "compress", "([CI[BII)I"⟩ : MethodName)) hown (hw _ (List.mem_of_getElem? (i := 65) rfl)) (hw _ (List.mem_of_getElem? (i := 66) rfl)) (hw _ (List.mem_of_getElem? (i := 62) rfl)) (hw _ (List.mem_of_getElem? (i := 67) rfl)) (by decide) (W := 0) (rest := []) (argsL := [(.ref a1), (.int (0 : Int32)), (.ref b101), (.int (0 : Int32)), (.int (1 : Int32))]) (rmCc1 l Z a0 hw [] a1 b101 _ _ h101 n0 (by omega) f103 V101 hc (by omega) (by omega)) (by decide) (by decide) (by decide) (by decide) e101 own_pd0 rfl (g := (mkF m 9 #[rv a1, iv (0 : Int32), iv (1 : Int32), rv b101, .unset, .unset] [(.int (1 : Int32)), (.int (0 : Int32)), (.ref b101), (.int (0 : Int32)), (.ref a1)])) rfl (by rw [hml]; rfl) rfl (by show 2 * 0 + _ ≤ _; exact Nat.le_of_eq rfl) (hb hby own_d12_9)
  obtain ⟨rfl, N102q, K102, V102⟩ := Q102
  have z102 := K102.1
  have N102 := Fr.app N0 N102q
  refine own_st st102 ?_
  show own_Goes p e below s _ _ (T102.setTop (mkF m 12 #[rv a1, iv (0 : Int32), iv (1 : Int32), rv b101, .unset, .unset] [(.int (1 : Int32))]))
  refine own_st (fun _ k => XS.istore X102.here hx rfl (hb hby own_d12_12) rfl (l' := #[rv a1, iv (0 : Int32), iv (1 : Int32), rv b101, iv (1 : Int32), .unset]) rfl k) ?_
  show own_Goes p e below s _ _ (T102.setTop (mkF m 14 #[rv a1, iv (0 : Int32), iv (1 : Int32), rv b101, iv (1 : Int32), .unset] []))
  refine own_st (fun _ k => XS.iload X102.here hx rfl (hb hby own_d12_14) rfl  k) ?_
  show own_Goes p e below s _ _ (T102.setTop (mkF m 16 #[rv a1, iv (0 : Int32), iv (1 : Int32), rv b101, iv (1 : Int32), .unset] [(.int (1 : Int32))]))
  refine own_st (fun _ k => XS.iloadN X102.here hx rfl (hb hby own_d12_16) rfl  k) ?_
  show own_Goes p e below s _ _ (T102.setTop (mkF m 17 #[rv a1, iv (0 : Int32), iv (1 : Int32), rv b101, iv (1 : Int32), .unset] [(.int (1 : Int32)), (.int (1 : Int32))]))
  refine own_st (fun _ k => XS.icmpYes X102.here hx rfl (pc0 := 17) (pc' := 57) rfl (hb hby own_d12_17) rfl (teq (by decide : (1 : Int32) = (1 : Int32))).1 (by decide) (by decide) k) ?_
  show own_Goes p e below s _ _ (T102.setTop (mkF m 57 #[rv a1, iv (0 : Int32), iv (1 : Int32), rv b101, iv (1 : Int32), .unset] []))
  refine own_st (fun _ k => XS.aloadN X102.here hx rfl (hb hby own_d12_57) rfl rfl  k) ?_
  show own_Goes p e below s _ _ (T102.setTop (mkF m 58 #[rv a1, iv (0 : Int32), iv (1 : Int32), rv b101, iv (1 : Int32), .unset] [(.ref b101)]))
  exact own_retR X102 hx hlk hret rfl rfl (hb hby own_d12_58) (by decide) (by decide) ⟨b101, rfl, N102, (((Keep.refl h0 []).ext E101).trans K102 (allS (Or.inr (by omega)) all0)), by omega, by omega, V102⟩
theorem own_pn2 : plainFor (⟨"java/lang/StringUTF16", "coderFromArrayLen", "([BI)B"⟩ : MethodName) = true := by first | exact plainFor_of_name (by simp [plainName, overriddenIn]; done) | decide +kernel
theorem own_d14_0 : decode jdk_52_method_15_code 0 = .ok (.iload_n 1, 1) := by decide +kernel
theorem own_d14_1 : decode jdk_52_method_15_code 1 = .ok (.aload_n 0, 1) := by decide +kernel
theorem own_d14_2 : decode jdk_52_method_15_code 2 = .ok (.arraylength, 1) := by decide +kernel
theorem own_d14_3 : decode jdk_52_method_15_code 3 = .ok (.isub, 1) := by decide +kernel
theorem own_d14_4 : decode jdk_52_method_15_code 4 = .ok (.bipush 31, 2) := by decide +kernel
theorem own_d14_6 : decode jdk_52_method_15_code 6 = .ok (.iushr, 1) := by decide +kernel
theorem own_d14_7 : decode jdk_52_method_15_code 7 = .ok (.i2b, 1) := by decide +kernel
theorem own_d14_8 : decode jdk_52_method_15_code 8 = .ok (.ireturn, 1) := by decide +kernel
theorem own_ef_rmCo1 (m : MethodId) (a1 : Nat) : entryFrame m #[(.ref a1), (.int (1 : Int32))] 2 = mkF m 0 #[rv a1, iv (1 : Int32)] [] := by first | (simp [entryFrame, mkF, argsToLocals, Value.category, maxLocals]; done) | rfl
abbrev own_Q_rmCo1 (Z : State) (a1 : Nat) (g : Nat → Int32) (h0 : Heap) (n0 : Nat) (v : Option Value) (h : Heap) (L : List Loc) : Prop := v = some (.int (0 : Int32)) ∧ Fr n0 L ∧ h = h0
set_option maxRecDepth 65536 in
set_option maxHeartbeats 40000000 in
theorem rmCo1 (l : Launch) (Z : State) (a0 : Array Value) (hw : ∀ d ∈ tables_1, d.before a0 Z = true) (ws : List Jvm.Cond) (a1 : Nat) (g : Nat → Int32) (h0 : Heap) (n0 : Nat) (Z0 : n0 ≤ h0.size) (V1 : own_Arf Z h0 a1 .byte 1 (fun k => .int (g k))) :
    MetFree l (⟨"java/lang/StringUTF16", "coderFromArrayLen", "([BI)B"⟩ : MethodName) (head1 (Jvm.Cond.code (⟨"java/lang/StringUTF16", "coderFromArrayLen", "([BI)B"⟩ : MethodName) jdk_52_method_15_code 2 (some .byte) :: ws) ({ frames := 0, cells := 0, slots := 0, locals := 0 } : Room)) (fun a U => a = #[(.ref a1), (.int (1 : Int32))] ∧ Z.Warmed39 U.vm ∧ U.heap = h0) (fun _ _ _ _ _ => True) (fun _ U o U' => ∃ v L, o = .returned v ∧ own_Q_rmCo1 Z a1 g h0 n0 v U'.heap L ∧ FrameEnd U o U' L ({ frames := 0, cells := 0, slots := 0, locals := 0 } : Room).cells ({ frames := 0, cells := 0, slots := 0, locals := 0 } : Room).slots) := by
  refine own_enter (Q := fun v h L => own_Q_rmCo1 Z a1 g h0 n0 v h L) (F := fun m => mkF m 0 #[rv a1, iv (1 : Int32)] []) own_pn2 (fun m => own_ef_rmCo1 m a1) ?_
  intro p e s m below meth c T X hx hby hml hret hlk hnm hown hZ e0
  show own_Goes p e below s _ _ (T.setTop (mkF m 0 #[rv a1, iv (1 : Int32)] []))
  have N0 := Fr.nil n0
  refine own_st (fun _ k => XS.iloadN X.here hx rfl (hb hby own_d14_0) rfl  k) ?_
  show own_Goes p e below s _ _ (T.setTop (mkF m 1 #[rv a1, iv (1 : Int32)] [(.int (1 : Int32))]))
  refine own_st (fun _ k => XS.aloadN X.here hx rfl (hb hby own_d14_1) rfl rfl  k) ?_
  show own_Goes p e below s _ _ (T.setTop (mkF m 2 #[rv a1, iv (1 : Int32)] [(.ref a1), (.int (1 : Int32))]))
  refine own_st (fun _ k => own_len X hx hZ e0 V1 (g := (mkF m 2 #[rv a1, iv (1 : Int32)] [(.ref a1), (.int (1 : Int32))])) rfl rfl (hb hby own_d14_2) _ k) ?_
  show own_Goes p e below s _ _ (T.setTop (mkF m 3 #[rv a1, iv (1 : Int32)] [(.int (1 : Int32)), (.int (1 : Int32))]))
  refine own_st (fun _ k => XS.isub X.here hx rfl (hb hby own_d14_3) rfl k) ?_
  show own_Goes p e below s _ _ (T.setTop (mkF m 4 #[rv a1, iv (1 : Int32)] [(.int (0 : Int32))]))
  refine own_st (fun _ k => XS.bipush X.here hx rfl (hb hby own_d14_4) k) ?_
  show own_Goes p e below s _ _ (T.setTop (mkF m 6 #[rv a1, iv (1 : Int32)] [(.int (31 : Int32)), (.int (0 : Int32))]))
  refine own_st (fun _ k => XS.iushr X.here hx rfl (hb hby own_d14_6) rfl k) ?_
  show own_Goes p e below s _ _ (T.setTop (mkF m 7 #[rv a1, iv (1 : Int32)] [(.int (((0 : Int32).toUInt32 >>> ((31 : Int32) &&& 31).toUInt32).toInt32))]))
  refine own_st (fun _ k => XS.i2b X.here hx rfl (hb hby own_d14_7) rfl k) ?_
  show own_Goes p e below s _ _ (T.setTop (mkF m 8 #[rv a1, iv (1 : Int32)] [(.int ((((0 : Int32).toUInt32 >>> ((31 : Int32) &&& 31).toUInt32).toInt32).toInt8.toInt32))]))
  exact own_retN X hx hlk (nar .byte ((((0 : Int32).toUInt32 >>> ((31 : Int32) &&& 31).toUInt32).toInt32).toInt8.toInt32)) hret (Or.inr (Or.inl rfl)) rfl (hb hby own_d14_8) (by decide) (by decide) ⟨by decide, N0, e0⟩
theorem own_pn3 : plainFor (⟨"java/lang/String", "<init>", "([CIILjava/lang/Void;)V"⟩ : MethodName) = true := by first | exact plainFor_of_name (by simp [plainName, overriddenIn]; done) | decide +kernel
theorem own_d11_0 : decode jdk_42_method_149_code 0 = .ok (.aload_n 0, 1) := by decide +kernel
theorem own_d11_1 : decode jdk_42_method_149_code 1 = .ok (.invokespecial 1, 3) := by decide +kernel
theorem own_d11_4 : decode jdk_42_method_149_code 4 = .ok (.iload_n 3, 1) := by decide +kernel
theorem own_d11_5 : decode jdk_42_method_149_code 5 = .ok (.ifCond .ne 22, 3) := by decide +kernel
theorem own_d11_27 : decode jdk_42_method_149_code 27 = .ok (.getstatic 38, 3) := by decide +kernel
theorem own_d11_30 : decode jdk_42_method_149_code 30 = .ok (.ifCond .eq 28, 3) := by decide +kernel
theorem own_d11_33 : decode jdk_42_method_149_code 33 = .ok (.aload_n 1, 1) := by decide +kernel
theorem own_d11_34 : decode jdk_42_method_149_code 34 = .ok (.iload_n 2, 1) := by decide +kernel
theorem own_d11_35 : decode jdk_42_method_149_code 35 = .ok (.iload_n 3, 1) := by decide +kernel
theorem own_d11_36 : decode jdk_42_method_149_code 36 = .ok (.invokestatic 177, 3) := by decide +kernel
theorem own_pd1 : parseMethodDescriptor "([CII)[B" = some ⟨[(.array .char), .int, .int], some (.array .byte)⟩ := by decide +kernel
theorem own_d11_39 : decode jdk_42_method_149_code 39 = .ok (.astore 5, 2) := by decide +kernel
theorem own_d11_41 : decode jdk_42_method_149_code 41 = .ok (.aload_n 0, 1) := by decide +kernel
theorem own_d11_42 : decode jdk_42_method_149_code 42 = .ok (.aload 5, 2) := by decide +kernel
theorem own_d11_44 : decode jdk_42_method_149_code 44 = .ok (.iload_n 3, 1) := by decide +kernel
theorem own_d11_45 : decode jdk_42_method_149_code 45 = .ok (.invokestatic 47, 3) := by decide +kernel
theorem own_pd2 : parseMethodDescriptor "([BI)B" = some ⟨[(.array .byte), .int], some .byte⟩ := by decide +kernel
theorem own_d11_48 : decode jdk_42_method_149_code 48 = .ok (.putfield 15, 3) := by decide +kernel
theorem own_d11_51 : decode jdk_42_method_149_code 51 = .ok (.aload_n 0, 1) := by decide +kernel
theorem own_d11_52 : decode jdk_42_method_149_code 52 = .ok (.aload 5, 2) := by decide +kernel
theorem own_d11_54 : decode jdk_42_method_149_code 54 = .ok (.putfield 9, 3) := by decide +kernel
theorem own_d11_57 : decode jdk_42_method_149_code 57 = .ok (.return_, 1) := by decide +kernel
theorem own_ef_rmSI1 (m : MethodId) (a1 : Nat) (a2 : Nat) : entryFrame m #[(.ref a1), (.ref a2), (.int (0 : Int32)), (.int (1 : Int32)), .null] 6 = mkF m 0 #[rv a1, rv a2, iv (0 : Int32), iv (1 : Int32), .val .null, .unset] [] := by first | (simp [entryFrame, mkF, argsToLocals, Value.category, maxLocals]; done) | rfl
abbrev own_Q_rmSI1 (Z : State) (a1 : Nat) (a2 : Nat) (f : Nat → Int32) (cs : Int32) (u1 : Value) (u2 : Value) (h0 : Heap) (n0 : Nat) (v : Option Value) (h : Heap) (L : List Loc) : Prop := v = none ∧ Fr n0 L ∧ Keep h0 h [a1] ∧ ∃ b : Nat, h0.size ≤ b ∧ b < h.size ∧ Exa Z h a1 "java/lang/String" ∧ Fld Z h a1 "java/lang/String" "value" "[B" (.ref b) ∧ Fld Z h a1 "java/lang/String" "coder" "B" (.int (0 : Int32)) ∧ own_Arf Z h b .byte 1 (fun k => .int ((fun j => nar .byte ((f j).toInt8.toInt32)) k))
set_option maxRecDepth 65536 in
set_option maxHeartbeats 40000000 in
theorem rmSI1 (l : Launch) (Z : State) (a0 : Array Value) (hw : ∀ d ∈ tables_1, d.before a0 Z = true) (ws : List Jvm.Cond) (a1 : Nat) (a2 : Nat) (f : Nat → Int32) (cs : Int32) (u1 : Value) (u2 : Value) (h0 : Heap) (n0 : Nat) (Z0 : n0 ≤ h0.size) (E1 : Exa Z h0 a1 "java/lang/String") (F_value : Fld Z h0 a1 "java/lang/String" "value" "[B" u1) (F_coder : Fld Z h0 a1 "java/lang/String" "coder" "B" u2) (V2 : own_Arf Z h0 a2 .char 1 (fun k => .int (f k))) (hc : ∀ j, j < 1 → 0 ≤ (f j).toInt ∧ (f j).toInt ≤ 255) (S1 : Sta Z h0 "java/lang/String" "COMPACT_STRINGS" "Z" (.int cs)) (hcs : ¬ cs = (0 : Int32)) (g1 : n0 ≤ a1) (x12 : a1 ≠ a2) :
    MetFree l (⟨"java/lang/String", "<init>", "([CIILjava/lang/Void;)V"⟩ : MethodName) (head1 (Jvm.Cond.code (⟨"java/lang/String", "<init>", "([CIILjava/lang/Void;)V"⟩ : MethodName) jdk_42_method_149_code 6 none :: ws) ({ frames := 2, cells := 1, slots := 1, locals := 35 } : Room)) (fun a U => a = #[(.ref a1), (.ref a2), (.int (0 : Int32)), (.int (1 : Int32)), .null] ∧ Z.Warmed39 U.vm ∧ U.heap = h0) (fun _ _ _ _ _ => True) (fun _ U o U' => ∃ v L, o = .returned v ∧ own_Q_rmSI1 Z a1 a2 f cs u1 u2 h0 n0 v U'.heap L ∧ FrameEnd U o U' L ({ frames := 2, cells := 1, slots := 1, locals := 35 } : Room).cells ({ frames := 2, cells := 1, slots := 1, locals := 35 } : Room).slots) := by
  refine own_enter (Q := fun v h L => own_Q_rmSI1 Z a1 a2 f cs u1 u2 h0 n0 v h L) (F := fun m => mkF m 0 #[rv a1, rv a2, iv (0 : Int32), iv (1 : Int32), .val .null, .unset] []) own_pn3 (fun m => own_ef_rmSI1 m a1 a2) ?_
  intro p e s m below meth c T X hx hby hml hret hlk hnm hown hZ e0
  show own_Goes p e below s _ _ (T.setTop (mkF m 0 #[rv a1, rv a2, iv (0 : Int32), iv (1 : Int32), .val .null, .unset] []))
  have N0 := Fr.nil n0
  have yE := own_lt E1.lt
  have yV := own_lt V2.lt
  refine own_st (fun _ k => XS.aloadN X.here hx rfl (hb hby own_d11_0) rfl rfl  k) ?_
  show own_Goes p e below s _ _ (T.setTop (mkF m 1 #[rv a1, rv a2, iv (0 : Int32), iv (1 : Int32), .val .null, .unset] [(.ref a1)]))
  obtain ⟨T101, X101, e101, st101⟩ := initO X hx hZ hown (hw _ (List.mem_of_getElem? (i := 58) rfl)) (hw _ (List.mem_of_getElem? (i := 16) rfl)) (hw _ (List.mem_of_getElem? (i := 17) rfl)) e0 (g := (mkF m 1 #[rv a1, rv a2, iv (0 : Int32), iv (1 : Int32), .val .null, .unset] [(.ref a1)])) rfl (by rw [hml]; rfl) rfl (hb hby own_d11_1) (by decide) (W := 0) (by show 2 * 0 + _ ≤ _; exact Nat.le_of_eq rfl) (by decide)
  refine own_st st101 ?_
  show own_Goes p e below s _ _ (T101.setTop (mkF m 4 #[rv a1, rv a2, iv (0 : Int32), iv (1 : Int32), .val .null, .unset] []))
  refine own_st (fun _ k => XS.iloadN X101.here hx rfl (hb hby own_d11_4) rfl  k) ?_
  show own_Goes p e below s _ _ (T101.setTop (mkF m 5 #[rv a1, rv a2, iv (0 : Int32), iv (1 : Int32), .val .null, .unset] [(.int (1 : Int32))]))
  refine own_st (fun _ k => XS.ifYes X101.here hx rfl (pc0 := 5) (pc' := 27) rfl (hb hby own_d11_5) rfl ((if0 _ _).trans (feq (by decide : ¬ ((1 : Int32) = (0 : Int32)))).2) (by decide) (by decide) k) ?_
  show own_Goes p e below s _ _ (T101.setTop (mkF m 27 #[rv a1, rv a2, iv (0 : Int32), iv (1 : Int32), .val .null, .unset] []))
  obtain ⟨T102, X102, e102, st102⟩ := getS2 X101 hx hZ hown (host := "") (Or.inl (hw _ (List.mem_of_getElem? (i := 59) rfl))) Via.refl e101 S1 (g := (mkF m 27 #[rv a1, rv a2, iv (0 : Int32), iv (1 : Int32), .val .null, .unset] [])) rfl (hb hby own_d11_27)
  refine own_st st102 ?_
  show own_Goes p e below s _ _ (T102.setTop (mkF m 30 #[rv a1, rv a2, iv (0 : Int32), iv (1 : Int32), .val .null, .unset] [(.int cs)]))
  refine own_st (fun _ k => XS.ifNo X102.here hx rfl (hb hby own_d11_30) rfl ((if0 _ _).trans (feq hcs).1) k) ?_
  show own_Goes p e below s _ _ (T102.setTop (mkF m 33 #[rv a1, rv a2, iv (0 : Int32), iv (1 : Int32), .val .null, .unset] []))
  refine own_st (fun _ k => XS.aloadN X102.here hx rfl (hb hby own_d11_33) rfl rfl  k) ?_
  show own_Goes p e below s _ _ (T102.setTop (mkF m 34 #[rv a1, rv a2, iv (0 : Int32), iv (1 : Int32), .val .null, .unset] [(.ref a2)]))
  refine own_st (fun _ k => XS.iloadN X102.here hx rfl (hb hby own_d11_34) rfl  k) ?_
  show own_Goes p e below s _ _ (T102.setTop (mkF m 35 #[rv a1, rv a2, iv (0 : Int32), iv (1 : Int32), .val .null, .unset] [(.int (0 : Int32)), (.ref a2)]))
  refine own_st (fun _ k => XS.iloadN X102.here hx rfl (hb hby own_d11_35) rfl  k) ?_
  show own_Goes p e below s _ _ (T102.setTop (mkF m 36 #[rv a1, rv a2, iv (0 : Int32), iv (1 : Int32), .val .null, .unset] [(.int (1 : Int32)), (.int (0 : Int32)), (.ref a2)]))
  obtain ⟨v103, T103, L103, X103, Q103, st103⟩ := own_callS X102 hx hZ (y := (⟨"java/lang/StringUTF16", "compress", "([CII)[B"⟩ : MethodName)) hown (hw _ (List.mem_of_getElem? (i := 60) rfl)) (hw _ (List.mem_of_getElem? (i := 61) rfl)) (hw _ (List.mem_of_getElem? (i := 62) rfl)) (hw _ (List.mem_of_getElem? (i := 63) rfl)) (by decide) (W := 0) (rest := []) (argsL := [(.ref a2), (.int (0 : Int32)), (.int (1 : Int32))]) (rmCp1 l Z a0 hw [] a2 _ h0 n0 (by omega) V2 hc) (by decide) (by decide) (by decide) (by decide) e102 own_pd1 rfl (g := (mkF m 36 #[rv a1, rv a2, iv (0 : Int32), iv (1 : Int32), .val .null, .unset] [(.int (1 : Int32)), (.int (0 : Int32)), (.ref a2)])) rfl (by rw [hml]; rfl) rfl (by show 2 * 0 + _ ≤ _; exact Nat.le_of_eq rfl) (hb hby own_d11_36)
  obtain ⟨b103, rfl, N103q, K103, g103, y103, V103⟩ := Q103
  have z103 := K103.1
  have N103 := Fr.app N0 N103q
  refine own_st st103 ?_
  show own_Goes p e below s _ _ (T103.setTop (mkF m 39 #[rv a1, rv a2, iv (0 : Int32), iv (1 : Int32), .val .null, .unset] [(.ref b103)]))
  refine own_st (fun _ k => XS.astore X103.here hx rfl (hb hby own_d11_39) rfl rfl (l' := #[rv a1, rv a2, iv (0 : Int32), iv (1 : Int32), .val .null, rv b103]) rfl k) ?_
  show own_Goes p e below s _ _ (T103.setTop (mkF m 41 #[rv a1, rv a2, iv (0 : Int32), iv (1 : Int32), .val .null, rv b103] []))
  refine own_st (fun _ k => XS.aloadN X103.here hx rfl (hb hby own_d11_41) rfl rfl  k) ?_
  show own_Goes p e below s _ _ (T103.setTop (mkF m 42 #[rv a1, rv a2, iv (0 : Int32), iv (1 : Int32), .val .null, rv b103] [(.ref a1)]))
  refine own_st (fun _ k => XS.aload X103.here hx rfl (hb hby own_d11_42) rfl rfl  k) ?_
  show own_Goes p e below s _ _ (T103.setTop (mkF m 44 #[rv a1, rv a2, iv (0 : Int32), iv (1 : Int32), .val .null, rv b103] [(.ref b103), (.ref a1)]))
  refine own_st (fun _ k => XS.iloadN X103.here hx rfl (hb hby own_d11_44) rfl  k) ?_
  show own_Goes p e below s _ _ (T103.setTop (mkF m 45 #[rv a1, rv a2, iv (0 : Int32), iv (1 : Int32), .val .null, rv b103] [(.int (1 : Int32)), (.ref b103), (.ref a1)]))
  obtain ⟨v104, T104, L104, X104, Q104, st104⟩ := own_callS X103 hx hZ (y := (⟨"java/lang/StringUTF16", "coderFromArrayLen", "([BI)B"⟩ : MethodName)) hown (hw _ (List.mem_of_getElem? (i := 68) rfl)) (hw _ (List.mem_of_getElem? (i := 69) rfl)) (hw _ (List.mem_of_getElem? (i := 62) rfl)) (hw _ (List.mem_of_getElem? (i := 70) rfl)) (by decide) (W := 1) (rest := [(.ref a1)]) (argsL := [(.ref b103), (.int (1 : Int32))]) (rmCo1 l Z a0 hw [] b103 _ T103.heap n0 (by omega) V103) (by decide) (by decide) (by decide) (by decide) rfl own_pd2 rfl (g := (mkF m 45 #[rv a1, rv a2, iv (0 : Int32), iv (1 : Int32), .val .null, rv b103] [(.int (1 : Int32)), (.ref b103), (.ref a1)])) rfl (by rw [hml]; rfl) rfl (by show 2 * 0 + _ ≤ _; exact Nat.le_of_eq rfl) (hb hby own_d11_45)
  obtain ⟨rfl, N104q, e104⟩ := Q104
  have N104 := Fr.app N103 N104q
  refine own_st st104 ?_
  show own_Goes p e below s _ _ (T104.setTop (mkF m 48 #[rv a1, rv a2, iv (0 : Int32), iv (1 : Int32), .val .null, rv b103] [(.int (0 : Int32)), (.ref a1)]))
  have f105 := (F_coder.keep K103 nin0)
  have f106 := (E1.keep K103)
  obtain ⟨T107, h107, X107, e107, W107, st107⟩ := putFN X104 hx hZ hown (hw _ (List.mem_of_getElem? (i := 71) rfl)) Via.refl e104 f105 f106 (Or.inr ⟨(hw _ (List.mem_of_getElem? (i := 72) rfl)), rfl, hnm⟩) (hw _ (List.mem_of_getElem? (i := 48) rfl)) (ty := .byte) (v' := (.int (nar .byte (0 : Int32)))) (by decide) rfl (fits_nar_byte _) (g := (mkF m 48 #[rv a1, rv a2, iv (0 : Int32), iv (1 : Int32), .val .null, rv b103] [(.int (0 : Int32)), (.ref a1)])) rfl rfl (hb hby own_d11_48)
  have z107 := W107.size
  have N107 := Fr.snoc X107 N104 (by omega)
  have F107 := f105.same W107
  refine own_st st107 ?_
  show own_Goes p e below s _ _ (T107.setTop (mkF m 51 #[rv a1, rv a2, iv (0 : Int32), iv (1 : Int32), .val .null, rv b103] []))
  refine own_st (fun _ k => XS.aloadN X107.here hx rfl (hb hby own_d11_51) rfl rfl  k) ?_
  show own_Goes p e below s _ _ (T107.setTop (mkF m 52 #[rv a1, rv a2, iv (0 : Int32), iv (1 : Int32), .val .null, rv b103] [(.ref a1)]))
  refine own_st (fun _ k => XS.aload X107.here hx rfl (hb hby own_d11_52) rfl rfl  k) ?_
  show own_Goes p e below s _ _ (T107.setTop (mkF m 54 #[rv a1, rv a2, iv (0 : Int32), iv (1 : Int32), .val .null, rv b103] [(.ref b103), (.ref a1)]))
  have f108 := ((F_value.keep K103 nin0).other W107 (Or.inr (slot_ne (Or.inr (hw _ (List.mem_of_getElem? (i := 74) rfl))) (Or.inr (hw _ (List.mem_of_getElem? (i := 72) rfl))) (by decide) (t := (.array .byte)) (t' := .byte) (by decide) (by decide))))
  have f109 := (f106.wr W107)
  obtain ⟨T110, h110, X110, e110, W110, st110⟩ := putF X107 hx hZ hown (host := "") (Or.inl (hw _ (List.mem_of_getElem? (i := 73) rfl))) Via.refl e107 f108 f109 (Or.inr ⟨(hw _ (List.mem_of_getElem? (i := 74) rfl)), rfl, hnm⟩) (hw _ (List.mem_of_getElem? (i := 48) rfl)) (ty := (.array .byte)) (by decide) rfl rfl (g := (mkF m 54 #[rv a1, rv a2, iv (0 : Int32), iv (1 : Int32), .val .null, rv b103] [(.ref b103), (.ref a1)])) rfl rfl (hb hby own_d11_54)
  have z110 := W110.size
  have N110 := Fr.snoc X110 N107 (by omega)
  have F110 := f108.same W110
  refine own_st st110 ?_
  show own_Goes p e below s _ _ (T110.setTop (mkF m 57 #[rv a1, rv a2, iv (0 : Int32), iv (1 : Int32), .val .null, rv b103] []))
  have f111 := (f109.wr W110)
  have f112 := (F107.other W110 (Or.inr (slot_ne (Or.inr (hw _ (List.mem_of_getElem? (i := 72) rfl))) (Or.inr (hw _ (List.mem_of_getElem? (i := 74) rfl))) (by decide) (t := .byte) (t' := (.array .byte)) (by decide) (by decide))))
  have f113 := ((V103.other W107 (own_ne (by omega))).other W110 (own_ne (by omega)))
  exact own_ret0 X110 hx hlk hret (hb hby own_d11_57) (by decide) (by decide) ⟨rfl, N110, by rw [e110]; exact ((((Keep.refl h0 [a1]).trans K103 all0).wr W107 (Or.inl (by simp))).wr W110 (Or.inl (by simp))), b103, by omega, by rw [e110]; omega, by rw [e110]; exact f111, by rw [e110]; exact F110, by rw [e110]; exact f112, by rw [e110]; exact f113⟩
theorem own_pn4 : plainFor (⟨"java/lang/String", "<init>", "([C)V"⟩ : MethodName) = true := by first | exact plainFor_of_name (by simp [plainName, overriddenIn]; done) | decide +kernel
theorem own_d10_0 : decode jdk_42_method_3_code 0 = .ok (.aload_n 0, 1) := by decide +kernel
theorem own_d10_1 : decode jdk_42_method_3_code 1 = .ok (.aload_n 1, 1) := by decide +kernel
theorem own_d10_2 : decode jdk_42_method_3_code 2 = .ok (.iconst 0, 1) := by decide +kernel
theorem own_d10_3 : decode jdk_42_method_3_code 3 = .ok (.aload_n 1, 1) := by decide +kernel
theorem own_d10_4 : decode jdk_42_method_3_code 4 = .ok (.arraylength, 1) := by decide +kernel
theorem own_d10_5 : decode jdk_42_method_3_code 5 = .ok (.aconst_null, 1) := by decide +kernel
theorem own_d10_6 : decode jdk_42_method_3_code 6 = .ok (.invokespecial 27, 3) := by decide +kernel
theorem own_pd3 : parseMethodDescriptor "([CIILjava/lang/Void;)V" = some ⟨[(.array .char), .int, .int, (.object "java/lang/Void")], none⟩ := by decide +kernel
theorem own_d10_9 : decode jdk_42_method_3_code 9 = .ok (.return_, 1) := by decide +kernel
theorem own_ef_rmS1 (m : MethodId) (a1 : Nat) (a2 : Nat) : entryFrame m #[(.ref a1), (.ref a2)] 2 = mkF m 0 #[rv a1, rv a2] [] := by first | (simp [entryFrame, mkF, argsToLocals, Value.category, maxLocals]; done) | rfl
abbrev own_Q_rmS1 (Z : State) (a1 : Nat) (a2 : Nat) (f : Nat → Int32) (cs : Int32) (u1 : Value) (u2 : Value) (h0 : Heap) (n0 : Nat) (v : Option Value) (h : Heap) (L : List Loc) : Prop := v = none ∧ Fr n0 L ∧ Keep h0 h [a1] ∧ ∃ b : Nat, h0.size ≤ b ∧ b < h.size ∧ Exa Z h a1 "java/lang/String" ∧ Fld Z h a1 "java/lang/String" "value" "[B" (.ref b) ∧ Fld Z h a1 "java/lang/String" "coder" "B" (.int (0 : Int32)) ∧ own_Arf Z h b .byte 1 (fun k => .int ((fun j => nar .byte ((f j).toInt8.toInt32)) k))
set_option maxRecDepth 65536 in
set_option maxHeartbeats 40000000 in
theorem rmS1 (l : Launch) (Z : State) (a0 : Array Value) (hw : ∀ d ∈ tables_1, d.before a0 Z = true) (ws : List Jvm.Cond) (a1 : Nat) (a2 : Nat) (f : Nat → Int32) (cs : Int32) (u1 : Value) (u2 : Value) (h0 : Heap) (n0 : Nat) (Z0 : n0 ≤ h0.size) (E1 : Exa Z h0 a1 "java/lang/String") (F_value : Fld Z h0 a1 "java/lang/String" "value" "[B" u1) (F_coder : Fld Z h0 a1 "java/lang/String" "coder" "B" u2) (V2 : own_Arf Z h0 a2 .char 1 (fun k => .int (f k))) (hc : ∀ j, j < 1 → 0 ≤ (f j).toInt ∧ (f j).toInt ≤ 255) (S1 : Sta Z h0 "java/lang/String" "COMPACT_STRINGS" "Z" (.int cs)) (hcs : ¬ cs = (0 : Int32)) (g1 : n0 ≤ a1) (x12 : a1 ≠ a2) :
    MetFree l (⟨"java/lang/String", "<init>", "([C)V"⟩ : MethodName) (head1 (Jvm.Cond.code (⟨"java/lang/String", "<init>", "([C)V"⟩ : MethodName) jdk_42_method_3_code 2 none :: ws) ({ frames := 3, cells := 1, slots := 1, locals := 52 } : Room)) (fun a U => a = #[(.ref a1), (.ref a2)] ∧ Z.Warmed39 U.vm ∧ U.heap = h0) (fun _ _ _ _ _ => True) (fun _ U o U' => ∃ v L, o = .returned v ∧ own_Q_rmS1 Z a1 a2 f cs u1 u2 h0 n0 v U'.heap L ∧ FrameEnd U o U' L ({ frames := 3, cells := 1, slots := 1, locals := 52 } : Room).cells ({ frames := 3, cells := 1, slots := 1, locals := 52 } : Room).slots) := by
  refine own_enter (Q := fun v h L => own_Q_rmS1 Z a1 a2 f cs u1 u2 h0 n0 v h L) (F := fun m => mkF m 0 #[rv a1, rv a2] []) own_pn4 (fun m => own_ef_rmS1 m a1 a2) ?_
  intro p e s m below meth c T X hx hby hml hret hlk hnm hown hZ e0
  show own_Goes p e below s _ _ (T.setTop (mkF m 0 #[rv a1, rv a2] []))
  have N0 := Fr.nil n0
  have yE := own_lt E1.lt
  have yV := own_lt V2.lt
  refine own_st (fun _ k => XS.aloadN X.here hx rfl (hb hby own_d10_0) rfl rfl  k) ?_
  show own_Goes p e below s _ _ (T.setTop (mkF m 1 #[rv a1, rv a2] [(.ref a1)]))
  refine own_st (fun _ k => XS.aloadN X.here hx rfl (hb hby own_d10_1) rfl rfl  k) ?_
  show own_Goes p e below s _ _ (T.setTop (mkF m 2 #[rv a1, rv a2] [(.ref a2), (.ref a1)]))
  refine own_st (fun _ k => XS.iconst X.here hx rfl (hb hby own_d10_2) k) ?_
  show own_Goes p e below s _ _ (T.setTop (mkF m 3 #[rv a1, rv a2] [(.int (0 : Int32)), (.ref a2), (.ref a1)]))
  refine own_st (fun _ k => XS.aloadN X.here hx rfl (hb hby own_d10_3) rfl rfl  k) ?_
  show own_Goes p e below s _ _ (T.setTop (mkF m 4 #[rv a1, rv a2] [(.ref a2), (.int (0 : Int32)), (.ref a2), (.ref a1)]))
  refine own_st (fun _ k => own_len X hx hZ e0 V2 (g := (mkF m 4 #[rv a1, rv a2] [(.ref a2), (.int (0 : Int32)), (.ref a2), (.ref a1)])) rfl rfl (hb hby own_d10_4) _ k) ?_
  show own_Goes p e below s _ _ (T.setTop (mkF m 5 #[rv a1, rv a2] [(.int (1 : Int32)), (.int (0 : Int32)), (.ref a2), (.ref a1)]))
  refine own_st (fun _ k => XS.aconstNull X.here hx rfl (hb hby own_d10_5) k) ?_
  show own_Goes p e below s _ _ (T.setTop (mkF m 6 #[rv a1, rv a2] [.null, (.int (1 : Int32)), (.int (0 : Int32)), (.ref a2), (.ref a1)]))
  obtain ⟨v101, T101, L101, X101, Q101, st101⟩ := own_callI X hx hZ (y := (⟨"java/lang/String", "<init>", "([CIILjava/lang/Void;)V"⟩ : MethodName)) hown (hw _ (List.mem_of_getElem? (i := 54) rfl)) (hw _ (List.mem_of_getElem? (i := 55) rfl)) (hw _ (List.mem_of_getElem? (i := 49) rfl)) (hw _ (List.mem_of_getElem? (i := 57) rfl)) rfl (by decide) (W := 0) (rest := []) (argsL := [(.ref a2), (.int (0 : Int32)), (.int (1 : Int32)), .null]) (a := a1) (rmSI1 l Z a0 hw [] a1 a2 _ cs _ _  h0 n0 (by omega) E1 F_value F_coder V2 hc S1 hcs (by omega) (by omega)) (by decide) (by decide) (by decide) (by decide) e0 own_pd3 rfl (g := (mkF m 6 #[rv a1, rv a2] [.null, (.int (1 : Int32)), (.int (0 : Int32)), (.ref a2), (.ref a1)])) rfl (by rw [hml]; rfl) rfl (by show 2 * 0 + _ ≤ _; exact Nat.le_of_eq rfl) (hb hby own_d10_6)
  obtain ⟨rfl, N101q, K101, b101, g101, y101, A101, F101_value, F101_coder, V101⟩ := Q101
  have z101 := K101.1
  have N101 := Fr.app N0 N101q
  refine own_st st101 ?_
  show own_Goes p e below s _ _ (T101.setTop (mkF m 9 #[rv a1, rv a2] []))
  exact own_ret0 X101 hx hlk hret (hb hby own_d10_9) (by decide) (by decide) ⟨rfl, N101, ((Keep.refl h0 [a1]).trans K101 (allS (Or.inl (by simp)) all0)), b101, by omega, by omega, A101, F101_value, F101_coder, V101⟩
theorem own_ef_rmCc2 (m : MethodId) (a1 : Nat) (a3 : Nat) : entryFrame m #[(.ref a1), (.int (0 : Int32)), (.ref a3), (.int (0 : Int32)), (.int (2 : Int32))] 7 = mkF m 0 #[rv a1, iv (0 : Int32), rv a3, iv (0 : Int32), iv (2 : Int32), .unset, .unset] [] := by first | (simp [entryFrame, mkF, argsToLocals, Value.category, maxLocals]; done) | rfl
abbrev own_Q_rmCc2 (Z : State) (a1 : Nat) (a3 : Nat) (f : Nat → Int32) (g : Nat → Int32) (h0 : Heap) (n0 : Nat) (v : Option Value) (h : Heap) (L : List Loc) : Prop := v = some (.int (2 : Int32)) ∧ Fr n0 L ∧ Keep h0 h [a3] ∧ own_Arf Z h a3 .byte 2 (fun k => .int ((fun j => nar .byte ((f j).toInt8.toInt32)) k))
set_option maxRecDepth 65536 in
set_option maxHeartbeats 40000000 in
theorem rmCc2 (l : Launch) (Z : State) (a0 : Array Value) (hw : ∀ d ∈ tables_1, d.before a0 Z = true) (ws : List Jvm.Cond) (a1 : Nat) (a3 : Nat) (f : Nat → Int32) (g : Nat → Int32) (h0 : Heap) (n0 : Nat) (Z0 : n0 ≤ h0.size) (V1 : own_Arf Z h0 a1 .char 2 (fun k => .int (f k))) (V3 : own_Arf Z h0 a3 .byte 2 (fun k => .int (g k))) (hc : ∀ j, j < 2 → 0 ≤ (f j).toInt ∧ (f j).toInt ≤ 255) (g3 : n0 ≤ a3) (x13 : a1 ≠ a3) :
    MetFree l (⟨"java/lang/StringUTF16", "compress", "([CI[BII)I"⟩ : MethodName) (head1 (Jvm.Cond.code (⟨"java/lang/StringUTF16", "compress", "([CI[BII)I"⟩ : MethodName) jdk_52_method_21_code 7 (some .int) :: ws) ({ frames := 0, cells := 0, slots := 0, locals := 0 } : Room)) (fun a U => a = #[(.ref a1), (.int (0 : Int32)), (.ref a3), (.int (0 : Int32)), (.int (2 : Int32))] ∧ Z.Warmed39 U.vm ∧ U.heap = h0) (fun _ _ _ _ _ => True) (fun _ U o U' => ∃ v L, o = .returned v ∧ own_Q_rmCc2 Z a1 a3 f g h0 n0 v U'.heap L ∧ FrameEnd U o U' L ({ frames := 0, cells := 0, slots := 0, locals := 0 } : Room).cells ({ frames := 0, cells := 0, slots := 0, locals := 0 } : Room).slots) := by
  refine own_enter (Q := fun v h L => own_Q_rmCc2 Z a1 a3 f g h0 n0 v h L) (F := fun m => mkF m 0 #[rv a1, iv (0 : Int32), rv a3, iv (0 : Int32), iv (2 : Int32), .unset, .unset] []) own_pn0 (fun m => own_ef_rmCc2 m a1 a3) ?_
  intro p e s m below meth c T X hx hby hml hret hlk hnm hown hZ e0
  show own_Goes p e below s _ _ (T.setTop (mkF m 0 #[rv a1, iv (0 : Int32), rv a3, iv (0 : Int32), iv (2 : Int32), .unset, .unset] []))
  have N0 := Fr.nil n0
  have hc0 := hc 0 (by decide)
  have hc1 := hc 1 (by decide)
  refine own_st (fun _ k => XS.iconst X.here hx rfl (hb hby own_d13_0) k) ?_
  show own_Goes p e below s _ _ (T.setTop (mkF m 1 #[rv a1, iv (0 : Int32), rv a3, iv (0 : Int32), iv (2 : Int32), .unset, .unset] [(.int (0 : Int32))]))
  refine own_st (fun _ k => XS.istore X.here hx rfl (hb hby own_d13_1) rfl (l' := #[rv a1, iv (0 : Int32), rv a3, iv (0 : Int32), iv (2 : Int32), iv (0 : Int32), .unset]) rfl k) ?_
  show own_Goes p e below s _ _ (T.setTop (mkF m 3 #[rv a1, iv (0 : Int32), rv a3, iv (0 : Int32), iv (2 : Int32), iv (0 : Int32), .unset] []))
  refine own_st (fun _ k => XS.iload X.here hx rfl (hb hby own_d13_3) rfl  k) ?_
  show own_Goes p e below s _ _ (T.setTop (mkF m 5 #[rv a1, iv (0 : Int32), rv a3, iv (0 : Int32), iv (2 : Int32), iv (0 : Int32), .unset] [(.int (0 : Int32))]))
  refine own_st (fun _ k => XS.iload X.here hx rfl (hb hby own_d13_5) rfl  k) ?_
  show own_Goes p e below s _ _ (T.setTop (mkF m 7 #[rv a1, iv (0 : Int32), rv a3, iv (0 : Int32), iv (2 : Int32), iv (0 : Int32), .unset] [(.int (2 : Int32)), (.int (0 : Int32))]))
  refine own_st (fun _ k => XS.icmpNo X.here hx rfl (hb hby own_d13_7) rfl (tlt (by decide : (0 : Int32) < (2 : Int32))).2.1 k) ?_
  show own_Goes p e below s _ _ (T.setTop (mkF m 10 #[rv a1, iv (0 : Int32), rv a3, iv (0 : Int32), iv (2 : Int32), iv (0 : Int32), .unset] []))
  refine own_st (fun _ k => XS.aloadN X.here hx rfl (hb hby own_d13_10) rfl rfl  k) ?_
  show own_Goes p e below s _ _ (T.setTop (mkF m 11 #[rv a1, iv (0 : Int32), rv a3, iv (0 : Int32), iv (2 : Int32), iv (0 : Int32), .unset] [(.ref a1)]))
  refine own_st (fun _ k => XS.iloadN X.here hx rfl (hb hby own_d13_11) rfl  k) ?_
  show own_Goes p e below s _ _ (T.setTop (mkF m 12 #[rv a1, iv (0 : Int32), rv a3, iv (0 : Int32), iv (2 : Int32), iv (0 : Int32), .unset] [(.int (0 : Int32)), (.ref a1)]))
  refine own_st (fun _ k => own_ldC X hx hZ e0 V1 (j := (0 : Int32)) (by decide) (g := (mkF m 12 #[rv a1, iv (0 : Int32), rv a3, iv (0 : Int32), iv (2 : Int32), iv (0 : Int32), .unset] [(.int (0 : Int32)), (.ref a1)])) rfl rfl (hb hby own_d13_12) _ k) ?_
  show own_Goes p e below s _ _ (T.setTop (mkF m 13 #[rv a1, iv (0 : Int32), rv a3, iv (0 : Int32), iv (2 : Int32), iv (0 : Int32), .unset] [(.int (f 0))]))
  refine own_st (fun _ k => XS.istore X.here hx rfl (hb hby own_d13_13) rfl (l' := #[rv a1, iv (0 : Int32), rv a3, iv (0 : Int32), iv (2 : Int32), iv (0 : Int32), iv (f 0)]) rfl k) ?_
  show own_Goes p e below s _ _ (T.setTop (mkF m 15 #[rv a1, iv (0 : Int32), rv a3, iv (0 : Int32), iv (2 : Int32), iv (0 : Int32), iv (f 0)] []))
  refine own_st (fun _ k => XS.iload X.here hx rfl (hb hby own_d13_15) rfl  k) ?_
  show own_Goes p e below s _ _ (T.setTop (mkF m 17 #[rv a1, iv (0 : Int32), rv a3, iv (0 : Int32), iv (2 : Int32), iv (0 : Int32), iv (f 0)] [(.int (f 0))]))
  refine own_st (fun _ k => XS.sipush X.here hx rfl (hb hby own_d13_17) k) ?_
  show own_Goes p e below s _ _ (T.setTop (mkF m 20 #[rv a1, iv (0 : Int32), rv a3, iv (0 : Int32), iv (2 : Int32), iv (0 : Int32), iv (f 0)] [(.int (255 : Int32)), (.int (f 0))]))
  by_cases c101 : (255 : Int32) < (f 0)
  · have c101i : 255 < (f 0).toInt := own_i_lt c101
    exfalso; omega
  · have c101i : (f 0).toInt ≤ 255 := own_i_nlt c101
    refine own_st (fun _ k => XS.icmpYes X.here hx rfl (pc0 := 20) (pc' := 26) rfl (hb hby own_d13_20) rfl (flt c101).2.2.2 (by decide) (by decide) k) ?_
    show own_Goes p e below s _ _ (T.setTop (mkF m 26 #[rv a1, iv (0 : Int32), rv a3, iv (0 : Int32), iv (2 : Int32), iv (0 : Int32), iv (f 0)] []))
    refine own_st (fun _ k => XS.aloadN X.here hx rfl (hb hby own_d13_26) rfl rfl  k) ?_
    show own_Goes p e below s _ _ (T.setTop (mkF m 27 #[rv a1, iv (0 : Int32), rv a3, iv (0 : Int32), iv (2 : Int32), iv (0 : Int32), iv (f 0)] [(.ref a3)]))
    refine own_st (fun _ k => XS.iloadN X.here hx rfl (hb hby own_d13_27) rfl  k) ?_
    show own_Goes p e below s _ _ (T.setTop (mkF m 28 #[rv a1, iv (0 : Int32), rv a3, iv (0 : Int32), iv (2 : Int32), iv (0 : Int32), iv (f 0)] [(.int (0 : Int32)), (.ref a3)]))
    refine own_st (fun _ k => XS.iload X.here hx rfl (hb hby own_d13_28) rfl  k) ?_
    show own_Goes p e below s _ _ (T.setTop (mkF m 30 #[rv a1, iv (0 : Int32), rv a3, iv (0 : Int32), iv (2 : Int32), iv (0 : Int32), iv (f 0)] [(.int (f 0)), (.int (0 : Int32)), (.ref a3)]))
    refine own_st (fun _ k => XS.i2b X.here hx rfl (hb hby own_d13_30) rfl k) ?_
    show own_Goes p e below s _ _ (T.setTop (mkF m 31 #[rv a1, iv (0 : Int32), rv a3, iv (0 : Int32), iv (2 : Int32), iv (0 : Int32), iv (f 0)] [(.int ((f 0).toInt8.toInt32)), (.int (0 : Int32)), (.ref a3)]))
    obtain ⟨T102, h102, X102, e102, W102, A102, st102⟩ := own_stB X hx hZ e0 V3 (j := (0 : Int32)) (by decide) (g := (mkF m 31 #[rv a1, iv (0 : Int32), rv a3, iv (0 : Int32), iv (2 : Int32), iv (0 : Int32), iv (f 0)] [(.int ((f 0).toInt8.toInt32)), (.int (0 : Int32)), (.ref a3)])) rfl rfl (hb hby own_d13_31)
    have V102 : own_Arf Z h102 a3 .byte 2 (fun k => .int ((fun k => if k = 0 then (nar .byte ((f 0).toInt8.toInt32)) else g k) k)) := A102
    have z102 := W102.size
    have N102 := Fr.snoc X102 N0 (by omega)
    refine own_st st102 ?_
    show own_Goes p e below s _ _ (T102.setTop (mkF m 32 #[rv a1, iv (0 : Int32), rv a3, iv (0 : Int32), iv (2 : Int32), iv (0 : Int32), iv (f 0)] []))
    refine own_st (fun _ k => XS.iinc X102.here hx rfl (hb hby own_d13_32) rfl (l' := #[rv a1, iv (1 : Int32), rv a3, iv (0 : Int32), iv (2 : Int32), iv (0 : Int32), iv (f 0)]) rfl k) ?_
    show own_Goes p e below s _ _ (T102.setTop (mkF m 35 #[rv a1, iv (1 : Int32), rv a3, iv (0 : Int32), iv (2 : Int32), iv (0 : Int32), iv (f 0)] []))
    refine own_st (fun _ k => XS.iinc X102.here hx rfl (hb hby own_d13_35) rfl (l' := #[rv a1, iv (1 : Int32), rv a3, iv (1 : Int32), iv (2 : Int32), iv (0 : Int32), iv (f 0)]) rfl k) ?_
    show own_Goes p e below s _ _ (T102.setTop (mkF m 38 #[rv a1, iv (1 : Int32), rv a3, iv (1 : Int32), iv (2 : Int32), iv (0 : Int32), iv (f 0)] []))
    refine own_st (fun _ k => XS.iinc X102.here hx rfl (hb hby own_d13_38) rfl (l' := #[rv a1, iv (1 : Int32), rv a3, iv (1 : Int32), iv (2 : Int32), iv (1 : Int32), iv (f 0)]) rfl k) ?_
    show own_Goes p e below s _ _ (T102.setTop (mkF m 41 #[rv a1, iv (1 : Int32), rv a3, iv (1 : Int32), iv (2 : Int32), iv (1 : Int32), iv (f 0)] []))
    refine own_st (fun _ k => XS.goto X102.here hx rfl (pc0 := 41) (pc' := 3) rfl (hb hby own_d13_41) (by decide) (by decide) k) ?_
    show own_Goes p e below s _ _ (T102.setTop (mkF m 3 #[rv a1, iv (1 : Int32), rv a3, iv (1 : Int32), iv (2 : Int32), iv (1 : Int32), iv (f 0)] []))
    refine own_st (fun _ k => XS.iload X102.here hx rfl (hb hby own_d13_3) rfl  k) ?_
    show own_Goes p e below s _ _ (T102.setTop (mkF m 5 #[rv a1, iv (1 : Int32), rv a3, iv (1 : Int32), iv (2 : Int32), iv (1 : Int32), iv (f 0)] [(.int (1 : Int32))]))
    refine own_st (fun _ k => XS.iload X102.here hx rfl (hb hby own_d13_5) rfl  k) ?_
    show own_Goes p e below s _ _ (T102.setTop (mkF m 7 #[rv a1, iv (1 : Int32), rv a3, iv (1 : Int32), iv (2 : Int32), iv (1 : Int32), iv (f 0)] [(.int (2 : Int32)), (.int (1 : Int32))]))
    refine own_st (fun _ k => XS.icmpNo X102.here hx rfl (hb hby own_d13_7) rfl (tlt (by decide : (1 : Int32) < (2 : Int32))).2.1 k) ?_
    show own_Goes p e below s _ _ (T102.setTop (mkF m 10 #[rv a1, iv (1 : Int32), rv a3, iv (1 : Int32), iv (2 : Int32), iv (1 : Int32), iv (f 0)] []))
    refine own_st (fun _ k => XS.aloadN X102.here hx rfl (hb hby own_d13_10) rfl rfl  k) ?_
    show own_Goes p e below s _ _ (T102.setTop (mkF m 11 #[rv a1, iv (1 : Int32), rv a3, iv (1 : Int32), iv (2 : Int32), iv (1 : Int32), iv (f 0)] [(.ref a1)]))
    refine own_st (fun _ k => XS.iloadN X102.here hx rfl (hb hby own_d13_11) rfl  k) ?_
    show own_Goes p e below s _ _ (T102.setTop (mkF m 12 #[rv a1, iv (1 : Int32), rv a3, iv (1 : Int32), iv (2 : Int32), iv (1 : Int32), iv (f 0)] [(.int (1 : Int32)), (.ref a1)]))
    have f103 := (V1.other W102 (own_ne (by omega)))
    refine own_st (fun _ k => own_ldC X102 hx hZ e102 f103 (j := (1 : Int32)) (by decide) (g := (mkF m 12 #[rv a1, iv (1 : Int32), rv a3, iv (1 : Int32), iv (2 : Int32), iv (1 : Int32), iv (f 0)] [(.int (1 : Int32)), (.ref a1)])) rfl rfl (hb hby own_d13_12) _ k) ?_
    show own_Goes p e below s _ _ (T102.setTop (mkF m 13 #[rv a1, iv (1 : Int32), rv a3, iv (1 : Int32), iv (2 : Int32), iv (1 : Int32), iv (f 0)] [(.int (f 1))]))
    refine own_st (fun _ k => XS.istore X102.here hx rfl (hb hby own_d13_13) rfl (l' := #[rv a1, iv (1 : Int32), rv a3, iv (1 : Int32), iv (2 : Int32), iv (1 : Int32), iv (f 1)]) rfl k) ?_
    show own_Goes p e below s _ _ (T102.setTop (mkF m 15 #[rv a1, iv (1 : Int32), rv a3, iv (1 : Int32), iv (2 : Int32), iv (1 : Int32), iv (f 1)] []))
    refine own_st (fun _ k => XS.iload X102.here hx rfl (hb hby own_d13_15) rfl  k) ?_
    show own_Goes p e below s _ _ (T102.setTop (mkF m 17 #[rv a1, iv (1 : Int32), rv a3, iv (1 : Int32), iv (2 : Int32), iv (1 : Int32), iv (f 1)] [(.int (f 1))]))
    refine own_st (fun _ k => XS.sipush X102.here hx rfl (hb hby own_d13_17) k) ?_
    show own_Goes p e below s _ _ (T102.setTop (mkF m 20 #[rv a1, iv (1 : Int32), rv a3, iv (1 : Int32), iv (2 : Int32), iv (1 : Int32), iv (f 1)] [(.int (255 : Int32)), (.int (f 1))]))
    by_cases c104 : (255 : Int32) < (f 1)
    · have c104i : 255 < (f 1).toInt := own_i_lt c104
      exfalso; omega
    · have c104i : (f 1).toInt ≤ 255 := own_i_nlt c104
      refine own_st (fun _ k => XS.icmpYes X102.here hx rfl (pc0 := 20) (pc' := 26) rfl (hb hby own_d13_20) rfl (flt c104).2.2.2 (by decide) (by decide) k) ?_
      show own_Goes p e below s _ _ (T102.setTop (mkF m 26 #[rv a1, iv (1 : Int32), rv a3, iv (1 : Int32), iv (2 : Int32), iv (1 : Int32), iv (f 1)] []))
      refine own_st (fun _ k => XS.aloadN X102.here hx rfl (hb hby own_d13_26) rfl rfl  k) ?_
      show own_Goes p e below s _ _ (T102.setTop (mkF m 27 #[rv a1, iv (1 : Int32), rv a3, iv (1 : Int32), iv (2 : Int32), iv (1 : Int32), iv (f 1)] [(.ref a3)]))
      refine own_st (fun _ k => XS.iloadN X102.here hx rfl (hb hby own_d13_27) rfl  k) ?_
      show own_Goes p e below s _ _ (T102.setTop (mkF m 28 #[rv a1, iv (1 : Int32), rv a3, iv (1 : Int32), iv (2 : Int32), iv (1 : Int32), iv (f 1)] [(.int (1 : Int32)), (.ref a3)]))
      refine own_st (fun _ k => XS.iload X102.here hx rfl (hb hby own_d13_28) rfl  k) ?_
      show own_Goes p e below s _ _ (T102.setTop (mkF m 30 #[rv a1, iv (1 : Int32), rv a3, iv (1 : Int32), iv (2 : Int32), iv (1 : Int32), iv (f 1)] [(.int (f 1)), (.int (1 : Int32)), (.ref a3)]))
      refine own_st (fun _ k => XS.i2b X102.here hx rfl (hb hby own_d13_30) rfl k) ?_
      show own_Goes p e below s _ _ (T102.setTop (mkF m 31 #[rv a1, iv (1 : Int32), rv a3, iv (1 : Int32), iv (2 : Int32), iv (1 : Int32), iv (f 1)] [(.int ((f 1).toInt8.toInt32)), (.int (1 : Int32)), (.ref a3)]))
      obtain ⟨T105, h105, X105, e105, W105, A105, st105⟩ := own_stB X102 hx hZ e102 V102 (j := (1 : Int32)) (by decide) (g := (mkF m 31 #[rv a1, iv (1 : Int32), rv a3, iv (1 : Int32), iv (2 : Int32), iv (1 : Int32), iv (f 1)] [(.int ((f 1).toInt8.toInt32)), (.int (1 : Int32)), (.ref a3)])) rfl rfl (hb hby own_d13_31)
      have V105 : own_Arf Z h105 a3 .byte 2 (fun k => .int ((fun k => if k = 1 then (nar .byte ((f 1).toInt8.toInt32)) else (fun k => if k = 0 then (nar .byte ((f 0).toInt8.toInt32)) else g k) k) k)) := A105
      have z105 := W105.size
      have N105 := Fr.snoc X105 N102 (by omega)
      refine own_st st105 ?_
      show own_Goes p e below s _ _ (T105.setTop (mkF m 32 #[rv a1, iv (1 : Int32), rv a3, iv (1 : Int32), iv (2 : Int32), iv (1 : Int32), iv (f 1)] []))
      refine own_st (fun _ k => XS.iinc X105.here hx rfl (hb hby own_d13_32) rfl (l' := #[rv a1, iv (2 : Int32), rv a3, iv (1 : Int32), iv (2 : Int32), iv (1 : Int32), iv (f 1)]) rfl k) ?_
      show own_Goes p e below s _ _ (T105.setTop (mkF m 35 #[rv a1, iv (2 : Int32), rv a3, iv (1 : Int32), iv (2 : Int32), iv (1 : Int32), iv (f 1)] []))
      refine own_st (fun _ k => XS.iinc X105.here hx rfl (hb hby own_d13_35) rfl (l' := #[rv a1, iv (2 : Int32), rv a3, iv (2 : Int32), iv (2 : Int32), iv (1 : Int32), iv (f 1)]) rfl k) ?_
      show own_Goes p e below s _ _ (T105.setTop (mkF m 38 #[rv a1, iv (2 : Int32), rv a3, iv (2 : Int32), iv (2 : Int32), iv (1 : Int32), iv (f 1)] []))
      refine own_st (fun _ k => XS.iinc X105.here hx rfl (hb hby own_d13_38) rfl (l' := #[rv a1, iv (2 : Int32), rv a3, iv (2 : Int32), iv (2 : Int32), iv (2 : Int32), iv (f 1)]) rfl k) ?_
      show own_Goes p e below s _ _ (T105.setTop (mkF m 41 #[rv a1, iv (2 : Int32), rv a3, iv (2 : Int32), iv (2 : Int32), iv (2 : Int32), iv (f 1)] []))
      refine own_st (fun _ k => XS.goto X105.here hx rfl (pc0 := 41) (pc' := 3) rfl (hb hby own_d13_41) (by decide) (by decide) k) ?_
      show own_Goes p e below s _ _ (T105.setTop (mkF m 3 #[rv a1, iv (2 : Int32), rv a3, iv (2 : Int32), iv (2 : Int32), iv (2 : Int32), iv (f 1)] []))
      refine own_st (fun _ k => XS.iload X105.here hx rfl (hb hby own_d13_3) rfl  k) ?_
      show own_Goes p e below s _ _ (T105.setTop (mkF m 5 #[rv a1, iv (2 : Int32), rv a3, iv (2 : Int32), iv (2 : Int32), iv (2 : Int32), iv (f 1)] [(.int (2 : Int32))]))
      refine own_st (fun _ k => XS.iload X105.here hx rfl (hb hby own_d13_5) rfl  k) ?_
      show own_Goes p e below s _ _ (T105.setTop (mkF m 7 #[rv a1, iv (2 : Int32), rv a3, iv (2 : Int32), iv (2 : Int32), iv (2 : Int32), iv (f 1)] [(.int (2 : Int32)), (.int (2 : Int32))]))
      refine own_st (fun _ k => XS.icmpYes X105.here hx rfl (pc0 := 7) (pc' := 44) rfl (hb hby own_d13_7) rfl (flt (by decide : ¬ ((2 : Int32) < (2 : Int32)))).2.1 (by decide) (by decide) k) ?_
      show own_Goes p e below s _ _ (T105.setTop (mkF m 44 #[rv a1, iv (2 : Int32), rv a3, iv (2 : Int32), iv (2 : Int32), iv (2 : Int32), iv (f 1)] []))
      refine own_st (fun _ k => XS.iload X105.here hx rfl (hb hby own_d13_44) rfl  k) ?_
      show own_Goes p e below s _ _ (T105.setTop (mkF m 46 #[rv a1, iv (2 : Int32), rv a3, iv (2 : Int32), iv (2 : Int32), iv (2 : Int32), iv (f 1)] [(.int (2 : Int32))]))
      exact own_retI X105 hx hlk hret (hb hby own_d13_46) (by decide) (by decide) ⟨rfl, N105, by rw [e105]; exact (((Keep.refl h0 [a3]).wr W102 (Or.inl (by simp))).wr W105 (Or.inl (by simp))), by rw [e105]; exact (own_Arf.congr V105 (fun j hj => by have q : j = 0 ∨ j = 1 := (by omega); rcases q with rfl | rfl <;> rfl))⟩
theorem own_ef_rmCp2 (m : MethodId) (a1 : Nat) : entryFrame m #[(.ref a1), (.int (0 : Int32)), (.int (2 : Int32))] 6 = mkF m 0 #[rv a1, iv (0 : Int32), iv (2 : Int32), .unset, .unset, .unset] [] := by first | (simp [entryFrame, mkF, argsToLocals, Value.category, maxLocals]; done) | rfl
abbrev own_Q_rmCp2 (Z : State) (a1 : Nat) (f : Nat → Int32) (h0 : Heap) (n0 : Nat) (v : Option Value) (h : Heap) (L : List Loc) : Prop := ∃ b : Nat, v = some (.ref b) ∧ Fr n0 L ∧ Keep h0 h [] ∧ h0.size ≤ b ∧ b < h.size ∧ own_Arf Z h b .byte 2 (fun k => .int ((fun j => nar .byte ((f j).toInt8.toInt32)) k))
set_option maxRecDepth 65536 in
set_option maxHeartbeats 40000000 in
theorem rmCp2 (l : Launch) (Z : State) (a0 : Array Value) (hw : ∀ d ∈ tables_1, d.before a0 Z = true) (ws : List Jvm.Cond) (a1 : Nat) (f : Nat → Int32) (h0 : Heap) (n0 : Nat) (Z0 : n0 ≤ h0.size) (V1 : own_Arf Z h0 a1 .char 2 (fun k => .int (f k))) (hc : ∀ j, j < 2 → 0 ≤ (f j).toInt ∧ (f j).toInt ≤ 255) :
    MetFree l (⟨"java/lang/StringUTF16", "compress", "([CII)[B"⟩ : MethodName) (head1 (Jvm.Cond.code (⟨"java/lang/StringUTF16", "compress", "([CII)[B"⟩ : MethodName) jdk_52_method_16_code 6 (some (.array .byte)) :: ws) ({ frames := 1, cells := 1, slots := 2, locals := 18 } : Room)) (fun a U => a = #[(.ref a1), (.int (0 : Int32)), (.int (2 : Int32))] ∧ Z.Warmed39 U.vm ∧ U.heap = h0) (fun _ _ _ _ _ => True) (fun _ U o U' => ∃ v L, o = .returned v ∧ own_Q_rmCp2 Z a1 f h0 n0 v U'.heap L ∧ FrameEnd U o U' L ({ frames := 1, cells := 1, slots := 2, locals := 18 } : Room).cells ({ frames := 1, cells := 1, slots := 2, locals := 18 } : Room).slots) := by
  refine own_enter (Q := fun v h L => own_Q_rmCp2 Z a1 f h0 n0 v h L) (F := fun m => mkF m 0 #[rv a1, iv (0 : Int32), iv (2 : Int32), .unset, .unset, .unset] []) own_pn1 (fun m => own_ef_rmCp2 m a1) ?_
  intro p e s m below meth c T X hx hby hml hret hlk hnm hown hZ e0
  show own_Goes p e below s _ _ (T.setTop (mkF m 0 #[rv a1, iv (0 : Int32), iv (2 : Int32), .unset, .unset, .unset] []))
  have N0 := Fr.nil n0
  have y1 := own_lt V1.lt
  refine own_st (fun _ k => XS.iloadN X.here hx rfl (hb hby own_d12_0) rfl  k) ?_
  show own_Goes p e below s _ _ (T.setTop (mkF m 1 #[rv a1, iv (0 : Int32), iv (2 : Int32), .unset, .unset, .unset] [(.int (2 : Int32))]))
  obtain ⟨T101, h101, X101, e101, E101, A101, st101⟩ := own_newP X hx hZ (aty := .byte) (hw _ (List.mem_of_getElem? (i := 64) rfl)) e0 (g := (mkF m 1 #[rv a1, iv (0 : Int32), iv (2 : Int32), .unset, .unset, .unset] [(.int (2 : Int32))])) rfl (hb hby own_d12_1) rfl (by decide) (cap := 2) (by decide) (by decide) (by decide) (by decide)
  obtain ⟨b101, g101⟩ : ∃ z, z = h0.size := ⟨_, rfl⟩
  rw [← g101] at A101 st101
  have V101 : own_Arf Z h101 b101 .byte 2 (fun k => .int ((fun _ => (0 : Int32)) k)) := A101
  have y101 := own_lt V101.lt
  have z101 := E101.1
  refine own_st st101 ?_
  show own_Goes p e below s _ _ (T101.setTop (mkF m 3 #[rv a1, iv (0 : Int32), iv (2 : Int32), .unset, .unset, .unset] [(.ref b101)]))
  refine own_st (fun _ k => XS.astoreN X101.here hx rfl (hb hby own_d12_3) rfl rfl (l' := #[rv a1, iv (0 : Int32), iv (2 : Int32), rv b101, .unset, .unset]) rfl k) ?_
  show own_Goes p e below s _ _ (T101.setTop (mkF m 4 #[rv a1, iv (0 : Int32), iv (2 : Int32), rv b101, .unset, .unset] []))
  refine own_st (fun _ k => XS.aloadN X101.here hx rfl (hb hby own_d12_4) rfl rfl  k) ?_
  show own_Goes p e below s _ _ (T101.setTop (mkF m 5 #[rv a1, iv (0 : Int32), iv (2 : Int32), rv b101, .unset, .unset] [(.ref a1)]))
  refine own_st (fun _ k => XS.iloadN X101.here hx rfl (hb hby own_d12_5) rfl  k) ?_
  show own_Goes p e below s _ _ (T101.setTop (mkF m 6 #[rv a1, iv (0 : Int32), iv (2 : Int32), rv b101, .unset, .unset] [(.int (0 : Int32)), (.ref a1)]))
  refine own_st (fun _ k => XS.aloadN X101.here hx rfl (hb hby own_d12_6) rfl rfl  k) ?_
  show own_Goes p e below s _ _ (T101.setTop (mkF m 7 #[rv a1, iv (0 : Int32), iv (2 : Int32), rv b101, .unset, .unset] [(.ref b101), (.int (0 : Int32)), (.ref a1)]))
  refine own_st (fun _ k => XS.iconst X101.here hx rfl (hb hby own_d12_7) k) ?_
  show own_Goes p e below s _ _ (T101.setTop (mkF m 8 #[rv a1, iv (0 : Int32), iv (2 : Int32), rv b101, .unset, .unset] [(.int (0 : Int32)), (.ref b101), (.int (0 : Int32)), (.ref a1)]))
  refine own_st (fun _ k => XS.iloadN X101.here hx rfl (hb hby own_d12_8) rfl  k) ?_
  show own_Goes p e below s _ _ (T101.setTop (mkF m 9 #[rv a1, iv (0 : Int32), iv (2 : Int32), rv b101, .unset, .unset] [(.int (2 : Int32)), (.int (0 : Int32)), (.ref b101), (.int (0 : Int32)), (.ref a1)]))
  have f103 := (V1.ext E101)
  obtain ⟨v102, T102, L102, X102, Q102, st102⟩ := own_callS X101 hx hZ (y := (⟨"java/lang/StringUTF16", "compress", "([CI[BII)I"⟩ : MethodName)) hown (hw _ (List.mem_of_getElem? (i := 65) rfl)) (hw _ (List.mem_of_getElem? (i := 66) rfl)) (hw _ (List.mem_of_getElem? (i := 62) rfl)) (hw _ (List.mem_of_getElem? (i := 67) rfl)) (by decide) (W := 0) (rest := []) (argsL := [(.ref a1), (.int (0 : Int32)), (.ref b101), (.int (0 : Int32)), (.int (2 : Int32))]) (rmCc2 l Z a0 hw [] a1 b101 _ _ h101 n0 (by omega) f103 V101 hc (by omega) (by omega)) (by decide) (by decide) (by decide) (by decide) e101 own_pd0 rfl (g := (mkF m 9 #[rv a1, iv (0 : Int32), iv (2 : Int32), rv b101, .unset, .unset] [(.int (2 : Int32)), (.int (0 : Int32)), (.ref b101), (.int (0 : Int32)), (.ref a1)])) rfl (by rw [hml]; rfl) rfl (by show 2 * 0 + _ ≤ _; exact Nat.le_of_eq rfl) (hb hby own_d12_9)
  obtain ⟨rfl, N102q, K102, V102⟩ := Q102
  have z102 := K102.1
  have N102 := Fr.app N0 N102q
  refine own_st st102 ?_
  show own_Goes p e below s _ _ (T102.setTop (mkF m 12 #[rv a1, iv (0 : Int32), iv (2 : Int32), rv b101, .unset, .unset] [(.int (2 : Int32))]))
  refine own_st (fun _ k => XS.istore X102.here hx rfl (hb hby own_d12_12) rfl (l' := #[rv a1, iv (0 : Int32), iv (2 : Int32), rv b101, iv (2 : Int32), .unset]) rfl k) ?_
  show own_Goes p e below s _ _ (T102.setTop (mkF m 14 #[rv a1, iv (0 : Int32), iv (2 : Int32), rv b101, iv (2 : Int32), .unset] []))
  refine own_st (fun _ k => XS.iload X102.here hx rfl (hb hby own_d12_14) rfl  k) ?_
  show own_Goes p e below s _ _ (T102.setTop (mkF m 16 #[rv a1, iv (0 : Int32), iv (2 : Int32), rv b101, iv (2 : Int32), .unset] [(.int (2 : Int32))]))
  refine own_st (fun _ k => XS.iloadN X102.here hx rfl (hb hby own_d12_16) rfl  k) ?_
  show own_Goes p e below s _ _ (T102.setTop (mkF m 17 #[rv a1, iv (0 : Int32), iv (2 : Int32), rv b101, iv (2 : Int32), .unset] [(.int (2 : Int32)), (.int (2 : Int32))]))
  refine own_st (fun _ k => XS.icmpYes X102.here hx rfl (pc0 := 17) (pc' := 57) rfl (hb hby own_d12_17) rfl (teq (by decide : (2 : Int32) = (2 : Int32))).1 (by decide) (by decide) k) ?_
  show own_Goes p e below s _ _ (T102.setTop (mkF m 57 #[rv a1, iv (0 : Int32), iv (2 : Int32), rv b101, iv (2 : Int32), .unset] []))
  refine own_st (fun _ k => XS.aloadN X102.here hx rfl (hb hby own_d12_57) rfl rfl  k) ?_
  show own_Goes p e below s _ _ (T102.setTop (mkF m 58 #[rv a1, iv (0 : Int32), iv (2 : Int32), rv b101, iv (2 : Int32), .unset] [(.ref b101)]))
  exact own_retR X102 hx hlk hret rfl rfl (hb hby own_d12_58) (by decide) (by decide) ⟨b101, rfl, N102, (((Keep.refl h0 []).ext E101).trans K102 (allS (Or.inr (by omega)) all0)), by omega, by omega, V102⟩
theorem own_ef_rmCo2 (m : MethodId) (a1 : Nat) : entryFrame m #[(.ref a1), (.int (2 : Int32))] 2 = mkF m 0 #[rv a1, iv (2 : Int32)] [] := by first | (simp [entryFrame, mkF, argsToLocals, Value.category, maxLocals]; done) | rfl
abbrev own_Q_rmCo2 (Z : State) (a1 : Nat) (g : Nat → Int32) (h0 : Heap) (n0 : Nat) (v : Option Value) (h : Heap) (L : List Loc) : Prop := v = some (.int (0 : Int32)) ∧ Fr n0 L ∧ h = h0
set_option maxRecDepth 65536 in
set_option maxHeartbeats 40000000 in
theorem rmCo2 (l : Launch) (Z : State) (a0 : Array Value) (hw : ∀ d ∈ tables_1, d.before a0 Z = true) (ws : List Jvm.Cond) (a1 : Nat) (g : Nat → Int32) (h0 : Heap) (n0 : Nat) (Z0 : n0 ≤ h0.size) (V1 : own_Arf Z h0 a1 .byte 2 (fun k => .int (g k))) :
    MetFree l (⟨"java/lang/StringUTF16", "coderFromArrayLen", "([BI)B"⟩ : MethodName) (head1 (Jvm.Cond.code (⟨"java/lang/StringUTF16", "coderFromArrayLen", "([BI)B"⟩ : MethodName) jdk_52_method_15_code 2 (some .byte) :: ws) ({ frames := 0, cells := 0, slots := 0, locals := 0 } : Room)) (fun a U => a = #[(.ref a1), (.int (2 : Int32))] ∧ Z.Warmed39 U.vm ∧ U.heap = h0) (fun _ _ _ _ _ => True) (fun _ U o U' => ∃ v L, o = .returned v ∧ own_Q_rmCo2 Z a1 g h0 n0 v U'.heap L ∧ FrameEnd U o U' L ({ frames := 0, cells := 0, slots := 0, locals := 0 } : Room).cells ({ frames := 0, cells := 0, slots := 0, locals := 0 } : Room).slots) := by
  refine own_enter (Q := fun v h L => own_Q_rmCo2 Z a1 g h0 n0 v h L) (F := fun m => mkF m 0 #[rv a1, iv (2 : Int32)] []) own_pn2 (fun m => own_ef_rmCo2 m a1) ?_
  intro p e s m below meth c T X hx hby hml hret hlk hnm hown hZ e0
  show own_Goes p e below s _ _ (T.setTop (mkF m 0 #[rv a1, iv (2 : Int32)] []))
  have N0 := Fr.nil n0
  refine own_st (fun _ k => XS.iloadN X.here hx rfl (hb hby own_d14_0) rfl  k) ?_
  show own_Goes p e below s _ _ (T.setTop (mkF m 1 #[rv a1, iv (2 : Int32)] [(.int (2 : Int32))]))
  refine own_st (fun _ k => XS.aloadN X.here hx rfl (hb hby own_d14_1) rfl rfl  k) ?_
  show own_Goes p e below s _ _ (T.setTop (mkF m 2 #[rv a1, iv (2 : Int32)] [(.ref a1), (.int (2 : Int32))]))
  refine own_st (fun _ k => own_len X hx hZ e0 V1 (g := (mkF m 2 #[rv a1, iv (2 : Int32)] [(.ref a1), (.int (2 : Int32))])) rfl rfl (hb hby own_d14_2) _ k) ?_
  show own_Goes p e below s _ _ (T.setTop (mkF m 3 #[rv a1, iv (2 : Int32)] [(.int (2 : Int32)), (.int (2 : Int32))]))
  refine own_st (fun _ k => XS.isub X.here hx rfl (hb hby own_d14_3) rfl k) ?_
  show own_Goes p e below s _ _ (T.setTop (mkF m 4 #[rv a1, iv (2 : Int32)] [(.int (0 : Int32))]))
  refine own_st (fun _ k => XS.bipush X.here hx rfl (hb hby own_d14_4) k) ?_
  show own_Goes p e below s _ _ (T.setTop (mkF m 6 #[rv a1, iv (2 : Int32)] [(.int (31 : Int32)), (.int (0 : Int32))]))
  refine own_st (fun _ k => XS.iushr X.here hx rfl (hb hby own_d14_6) rfl k) ?_
  show own_Goes p e below s _ _ (T.setTop (mkF m 7 #[rv a1, iv (2 : Int32)] [(.int (((0 : Int32).toUInt32 >>> ((31 : Int32) &&& 31).toUInt32).toInt32))]))
  refine own_st (fun _ k => XS.i2b X.here hx rfl (hb hby own_d14_7) rfl k) ?_
  show own_Goes p e below s _ _ (T.setTop (mkF m 8 #[rv a1, iv (2 : Int32)] [(.int ((((0 : Int32).toUInt32 >>> ((31 : Int32) &&& 31).toUInt32).toInt32).toInt8.toInt32))]))
  exact own_retN X hx hlk (nar .byte ((((0 : Int32).toUInt32 >>> ((31 : Int32) &&& 31).toUInt32).toInt32).toInt8.toInt32)) hret (Or.inr (Or.inl rfl)) rfl (hb hby own_d14_8) (by decide) (by decide) ⟨by decide, N0, e0⟩
theorem own_ef_rmSI2 (m : MethodId) (a1 : Nat) (a2 : Nat) : entryFrame m #[(.ref a1), (.ref a2), (.int (0 : Int32)), (.int (2 : Int32)), .null] 6 = mkF m 0 #[rv a1, rv a2, iv (0 : Int32), iv (2 : Int32), .val .null, .unset] [] := by first | (simp [entryFrame, mkF, argsToLocals, Value.category, maxLocals]; done) | rfl
abbrev own_Q_rmSI2 (Z : State) (a1 : Nat) (a2 : Nat) (f : Nat → Int32) (cs : Int32) (u1 : Value) (u2 : Value) (h0 : Heap) (n0 : Nat) (v : Option Value) (h : Heap) (L : List Loc) : Prop := v = none ∧ Fr n0 L ∧ Keep h0 h [a1] ∧ ∃ b : Nat, h0.size ≤ b ∧ b < h.size ∧ Exa Z h a1 "java/lang/String" ∧ Fld Z h a1 "java/lang/String" "value" "[B" (.ref b) ∧ Fld Z h a1 "java/lang/String" "coder" "B" (.int (0 : Int32)) ∧ own_Arf Z h b .byte 2 (fun k => .int ((fun j => nar .byte ((f j).toInt8.toInt32)) k))
set_option maxRecDepth 65536 in
set_option maxHeartbeats 40000000 in
theorem rmSI2 (l : Launch) (Z : State) (a0 : Array Value) (hw : ∀ d ∈ tables_1, d.before a0 Z = true) (ws : List Jvm.Cond) (a1 : Nat) (a2 : Nat) (f : Nat → Int32) (cs : Int32) (u1 : Value) (u2 : Value) (h0 : Heap) (n0 : Nat) (Z0 : n0 ≤ h0.size) (E1 : Exa Z h0 a1 "java/lang/String") (F_value : Fld Z h0 a1 "java/lang/String" "value" "[B" u1) (F_coder : Fld Z h0 a1 "java/lang/String" "coder" "B" u2) (V2 : own_Arf Z h0 a2 .char 2 (fun k => .int (f k))) (hc : ∀ j, j < 2 → 0 ≤ (f j).toInt ∧ (f j).toInt ≤ 255) (S1 : Sta Z h0 "java/lang/String" "COMPACT_STRINGS" "Z" (.int cs)) (hcs : ¬ cs = (0 : Int32)) (g1 : n0 ≤ a1) (x12 : a1 ≠ a2) :
    MetFree l (⟨"java/lang/String", "<init>", "([CIILjava/lang/Void;)V"⟩ : MethodName) (head1 (Jvm.Cond.code (⟨"java/lang/String", "<init>", "([CIILjava/lang/Void;)V"⟩ : MethodName) jdk_42_method_149_code 6 none :: ws) ({ frames := 2, cells := 1, slots := 2, locals := 35 } : Room)) (fun a U => a = #[(.ref a1), (.ref a2), (.int (0 : Int32)), (.int (2 : Int32)), .null] ∧ Z.Warmed39 U.vm ∧ U.heap = h0) (fun _ _ _ _ _ => True) (fun _ U o U' => ∃ v L, o = .returned v ∧ own_Q_rmSI2 Z a1 a2 f cs u1 u2 h0 n0 v U'.heap L ∧ FrameEnd U o U' L ({ frames := 2, cells := 1, slots := 2, locals := 35 } : Room).cells ({ frames := 2, cells := 1, slots := 2, locals := 35 } : Room).slots) := by
  refine own_enter (Q := fun v h L => own_Q_rmSI2 Z a1 a2 f cs u1 u2 h0 n0 v h L) (F := fun m => mkF m 0 #[rv a1, rv a2, iv (0 : Int32), iv (2 : Int32), .val .null, .unset] []) own_pn3 (fun m => own_ef_rmSI2 m a1 a2) ?_
  intro p e s m below meth c T X hx hby hml hret hlk hnm hown hZ e0
  show own_Goes p e below s _ _ (T.setTop (mkF m 0 #[rv a1, rv a2, iv (0 : Int32), iv (2 : Int32), .val .null, .unset] []))
  have N0 := Fr.nil n0
  have yE := own_lt E1.lt
  have yV := own_lt V2.lt
  refine own_st (fun _ k => XS.aloadN X.here hx rfl (hb hby own_d11_0) rfl rfl  k) ?_
  show own_Goes p e below s _ _ (T.setTop (mkF m 1 #[rv a1, rv a2, iv (0 : Int32), iv (2 : Int32), .val .null, .unset] [(.ref a1)]))
  obtain ⟨T101, X101, e101, st101⟩ := initO X hx hZ hown (hw _ (List.mem_of_getElem? (i := 58) rfl)) (hw _ (List.mem_of_getElem? (i := 16) rfl)) (hw _ (List.mem_of_getElem? (i := 17) rfl)) e0 (g := (mkF m 1 #[rv a1, rv a2, iv (0 : Int32), iv (2 : Int32), .val .null, .unset] [(.ref a1)])) rfl (by rw [hml]; rfl) rfl (hb hby own_d11_1) (by decide) (W := 0) (by show 2 * 0 + _ ≤ _; exact Nat.le_of_eq rfl) (by decide)
  refine own_st st101 ?_
  show own_Goes p e below s _ _ (T101.setTop (mkF m 4 #[rv a1, rv a2, iv (0 : Int32), iv (2 : Int32), .val .null, .unset] []))
  refine own_st (fun _ k => XS.iloadN X101.here hx rfl (hb hby own_d11_4) rfl  k) ?_
  show own_Goes p e below s _ _ (T101.setTop (mkF m 5 #[rv a1, rv a2, iv (0 : Int32), iv (2 : Int32), .val .null, .unset] [(.int (2 : Int32))]))
  refine own_st (fun _ k => XS.ifYes X101.here hx rfl (pc0 := 5) (pc' := 27) rfl (hb hby own_d11_5) rfl ((if0 _ _).trans (feq (by decide : ¬ ((2 : Int32) = (0 : Int32)))).2) (by decide) (by decide) k) ?_
  show own_Goes p e below s _ _ (T101.setTop (mkF m 27 #[rv a1, rv a2, iv (0 : Int32), iv (2 : Int32), .val .null, .unset] []))
  obtain ⟨T102, X102, e102, st102⟩ := getS2 X101 hx hZ hown (host := "") (Or.inl (hw _ (List.mem_of_getElem? (i := 59) rfl))) Via.refl e101 S1 (g := (mkF m 27 #[rv a1, rv a2, iv (0 : Int32), iv (2 : Int32), .val .null, .unset] [])) rfl (hb hby own_d11_27)
  refine own_st st102 ?_
  show own_Goes p e below s _ _ (T102.setTop (mkF m 30 #[rv a1, rv a2, iv (0 : Int32), iv (2 : Int32), .val .null, .unset] [(.int cs)]))
  refine own_st (fun _ k => XS.ifNo X102.here hx rfl (hb hby own_d11_30) rfl ((if0 _ _).trans (feq hcs).1) k) ?_
  show own_Goes p e below s _ _ (T102.setTop (mkF m 33 #[rv a1, rv a2, iv (0 : Int32), iv (2 : Int32), .val .null, .unset] []))
  refine own_st (fun _ k => XS.aloadN X102.here hx rfl (hb hby own_d11_33) rfl rfl  k) ?_
  show own_Goes p e below s _ _ (T102.setTop (mkF m 34 #[rv a1, rv a2, iv (0 : Int32), iv (2 : Int32), .val .null, .unset] [(.ref a2)]))
  refine own_st (fun _ k => XS.iloadN X102.here hx rfl (hb hby own_d11_34) rfl  k) ?_
  show own_Goes p e below s _ _ (T102.setTop (mkF m 35 #[rv a1, rv a2, iv (0 : Int32), iv (2 : Int32), .val .null, .unset] [(.int (0 : Int32)), (.ref a2)]))
  refine own_st (fun _ k => XS.iloadN X102.here hx rfl (hb hby own_d11_35) rfl  k) ?_
  show own_Goes p e below s _ _ (T102.setTop (mkF m 36 #[rv a1, rv a2, iv (0 : Int32), iv (2 : Int32), .val .null, .unset] [(.int (2 : Int32)), (.int (0 : Int32)), (.ref a2)]))
  obtain ⟨v103, T103, L103, X103, Q103, st103⟩ := own_callS X102 hx hZ (y := (⟨"java/lang/StringUTF16", "compress", "([CII)[B"⟩ : MethodName)) hown (hw _ (List.mem_of_getElem? (i := 60) rfl)) (hw _ (List.mem_of_getElem? (i := 61) rfl)) (hw _ (List.mem_of_getElem? (i := 62) rfl)) (hw _ (List.mem_of_getElem? (i := 63) rfl)) (by decide) (W := 0) (rest := []) (argsL := [(.ref a2), (.int (0 : Int32)), (.int (2 : Int32))]) (rmCp2 l Z a0 hw [] a2 _ h0 n0 (by omega) V2 hc) (by decide) (by decide) (by decide) (by decide) e102 own_pd1 rfl (g := (mkF m 36 #[rv a1, rv a2, iv (0 : Int32), iv (2 : Int32), .val .null, .unset] [(.int (2 : Int32)), (.int (0 : Int32)), (.ref a2)])) rfl (by rw [hml]; rfl) rfl (by show 2 * 0 + _ ≤ _; exact Nat.le_of_eq rfl) (hb hby own_d11_36)
  obtain ⟨b103, rfl, N103q, K103, g103, y103, V103⟩ := Q103
  have z103 := K103.1
  have N103 := Fr.app N0 N103q
  refine own_st st103 ?_
  show own_Goes p e below s _ _ (T103.setTop (mkF m 39 #[rv a1, rv a2, iv (0 : Int32), iv (2 : Int32), .val .null, .unset] [(.ref b103)]))
  refine own_st (fun _ k => XS.astore X103.here hx rfl (hb hby own_d11_39) rfl rfl (l' := #[rv a1, rv a2, iv (0 : Int32), iv (2 : Int32), .val .null, rv b103]) rfl k) ?_
  show own_Goes p e below s _ _ (T103.setTop (mkF m 41 #[rv a1, rv a2, iv (0 : Int32), iv (2 : Int32), .val .null, rv b103] []))
  refine own_st (fun _ k => XS.aloadN X103.here hx rfl (hb hby own_d11_41) rfl rfl  k) ?_
  show own_Goes p e below s _ _ (T103.setTop (mkF m 42 #[rv a1, rv a2, iv (0 : Int32), iv (2 : Int32), .val .null, rv b103] [(.ref a1)]))
  refine own_st (fun _ k => XS.aload X103.here hx rfl (hb hby own_d11_42) rfl rfl  k) ?_
  show own_Goes p e below s _ _ (T103.setTop (mkF m 44 #[rv a1, rv a2, iv (0 : Int32), iv (2 : Int32), .val .null, rv b103] [(.ref b103), (.ref a1)]))
  refine own_st (fun _ k => XS.iloadN X103.here hx rfl (hb hby own_d11_44) rfl  k) ?_
  show own_Goes p e below s _ _ (T103.setTop (mkF m 45 #[rv a1, rv a2, iv (0 : Int32), iv (2 : Int32), .val .null, rv b103] [(.int (2 : Int32)), (.ref b103), (.ref a1)]))
  obtain ⟨v104, T104, L104, X104, Q104, st104⟩ := own_callS X103 hx hZ (y := (⟨"java/lang/StringUTF16", "coderFromArrayLen", "([BI)B"⟩ : MethodName)) hown (hw _ (List.mem_of_getElem? (i := 68) rfl)) (hw _ (List.mem_of_getElem? (i := 69) rfl)) (hw _ (List.mem_of_getElem? (i := 62) rfl)) (hw _ (List.mem_of_getElem? (i := 70) rfl)) (by decide) (W := 1) (rest := [(.ref a1)]) (argsL := [(.ref b103), (.int (2 : Int32))]) (rmCo2 l Z a0 hw [] b103 _ T103.heap n0 (by omega) V103) (by decide) (by decide) (by decide) (by decide) rfl own_pd2 rfl (g := (mkF m 45 #[rv a1, rv a2, iv (0 : Int32), iv (2 : Int32), .val .null, rv b103] [(.int (2 : Int32)), (.ref b103), (.ref a1)])) rfl (by rw [hml]; rfl) rfl (by show 2 * 0 + _ ≤ _; exact Nat.le_of_eq rfl) (hb hby own_d11_45)
  obtain ⟨rfl, N104q, e104⟩ := Q104
  have N104 := Fr.app N103 N104q
  refine own_st st104 ?_
  show own_Goes p e below s _ _ (T104.setTop (mkF m 48 #[rv a1, rv a2, iv (0 : Int32), iv (2 : Int32), .val .null, rv b103] [(.int (0 : Int32)), (.ref a1)]))
  have f105 := (F_coder.keep K103 nin0)
  have f106 := (E1.keep K103)
  obtain ⟨T107, h107, X107, e107, W107, st107⟩ := putFN X104 hx hZ hown (hw _ (List.mem_of_getElem? (i := 71) rfl)) Via.refl e104 f105 f106 (Or.inr ⟨(hw _ (List.mem_of_getElem? (i := 72) rfl)), rfl, hnm⟩) (hw _ (List.mem_of_getElem? (i := 48) rfl)) (ty := .byte) (v' := (.int (nar .byte (0 : Int32)))) (by decide) rfl (fits_nar_byte _) (g := (mkF m 48 #[rv a1, rv a2, iv (0 : Int32), iv (2 : Int32), .val .null, rv b103] [(.int (0 : Int32)), (.ref a1)])) rfl rfl (hb hby own_d11_48)
  have z107 := W107.size
  have N107 := Fr.snoc X107 N104 (by omega)
  have F107 := f105.same W107
  refine own_st st107 ?_
  show own_Goes p e below s _ _ (T107.setTop (mkF m 51 #[rv a1, rv a2, iv (0 : Int32), iv (2 : Int32), .val .null, rv b103] []))
  refine own_st (fun _ k => XS.aloadN X107.here hx rfl (hb hby own_d11_51) rfl rfl  k) ?_
  show own_Goes p e below s _ _ (T107.setTop (mkF m 52 #[rv a1, rv a2, iv (0 : Int32), iv (2 : Int32), .val .null, rv b103] [(.ref a1)]))
  refine own_st (fun _ k => XS.aload X107.here hx rfl (hb hby own_d11_52) rfl rfl  k) ?_
  show own_Goes p e below s _ _ (T107.setTop (mkF m 54 #[rv a1, rv a2, iv (0 : Int32), iv (2 : Int32), .val .null, rv b103] [(.ref b103), (.ref a1)]))
  have f108 := ((F_value.keep K103 nin0).other W107 (Or.inr (slot_ne (Or.inr (hw _ (List.mem_of_getElem? (i := 74) rfl))) (Or.inr (hw _ (List.mem_of_getElem? (i := 72) rfl))) (by decide) (t := (.array .byte)) (t' := .byte) (by decide) (by decide))))
  have f109 := (f106.wr W107)
  obtain ⟨T110, h110, X110, e110, W110, st110⟩ := putF X107 hx hZ hown (host := "") (Or.inl (hw _ (List.mem_of_getElem? (i := 73) rfl))) Via.refl e107 f108 f109 (Or.inr ⟨(hw _ (List.mem_of_getElem? (i := 74) rfl)), rfl, hnm⟩) (hw _ (List.mem_of_getElem? (i := 48) rfl)) (ty := (.array .byte)) (by decide) rfl rfl (g := (mkF m 54 #[rv a1, rv a2, iv (0 : Int32), iv (2 : Int32), .val .null, rv b103] [(.ref b103), (.ref a1)])) rfl rfl (hb hby own_d11_54)
  have z110 := W110.size
  have N110 := Fr.snoc X110 N107 (by omega)
  have F110 := f108.same W110
  refine own_st st110 ?_
  show own_Goes p e below s _ _ (T110.setTop (mkF m 57 #[rv a1, rv a2, iv (0 : Int32), iv (2 : Int32), .val .null, rv b103] []))
  have f111 := (f109.wr W110)
  have f112 := (F107.other W110 (Or.inr (slot_ne (Or.inr (hw _ (List.mem_of_getElem? (i := 72) rfl))) (Or.inr (hw _ (List.mem_of_getElem? (i := 74) rfl))) (by decide) (t := .byte) (t' := (.array .byte)) (by decide) (by decide))))
  have f113 := ((V103.other W107 (own_ne (by omega))).other W110 (own_ne (by omega)))
  exact own_ret0 X110 hx hlk hret (hb hby own_d11_57) (by decide) (by decide) ⟨rfl, N110, by rw [e110]; exact ((((Keep.refl h0 [a1]).trans K103 all0).wr W107 (Or.inl (by simp))).wr W110 (Or.inl (by simp))), b103, by omega, by rw [e110]; omega, by rw [e110]; exact f111, by rw [e110]; exact F110, by rw [e110]; exact f112, by rw [e110]; exact f113⟩
theorem own_ef_rmS2 (m : MethodId) (a1 : Nat) (a2 : Nat) : entryFrame m #[(.ref a1), (.ref a2)] 2 = mkF m 0 #[rv a1, rv a2] [] := by first | (simp [entryFrame, mkF, argsToLocals, Value.category, maxLocals]; done) | rfl
abbrev own_Q_rmS2 (Z : State) (a1 : Nat) (a2 : Nat) (f : Nat → Int32) (cs : Int32) (u1 : Value) (u2 : Value) (h0 : Heap) (n0 : Nat) (v : Option Value) (h : Heap) (L : List Loc) : Prop := v = none ∧ Fr n0 L ∧ Keep h0 h [a1] ∧ ∃ b : Nat, h0.size ≤ b ∧ b < h.size ∧ Exa Z h a1 "java/lang/String" ∧ Fld Z h a1 "java/lang/String" "value" "[B" (.ref b) ∧ Fld Z h a1 "java/lang/String" "coder" "B" (.int (0 : Int32)) ∧ own_Arf Z h b .byte 2 (fun k => .int ((fun j => nar .byte ((f j).toInt8.toInt32)) k))
set_option maxRecDepth 65536 in
set_option maxHeartbeats 40000000 in
theorem rmS2 (l : Launch) (Z : State) (a0 : Array Value) (hw : ∀ d ∈ tables_1, d.before a0 Z = true) (ws : List Jvm.Cond) (a1 : Nat) (a2 : Nat) (f : Nat → Int32) (cs : Int32) (u1 : Value) (u2 : Value) (h0 : Heap) (n0 : Nat) (Z0 : n0 ≤ h0.size) (E1 : Exa Z h0 a1 "java/lang/String") (F_value : Fld Z h0 a1 "java/lang/String" "value" "[B" u1) (F_coder : Fld Z h0 a1 "java/lang/String" "coder" "B" u2) (V2 : own_Arf Z h0 a2 .char 2 (fun k => .int (f k))) (hc : ∀ j, j < 2 → 0 ≤ (f j).toInt ∧ (f j).toInt ≤ 255) (S1 : Sta Z h0 "java/lang/String" "COMPACT_STRINGS" "Z" (.int cs)) (hcs : ¬ cs = (0 : Int32)) (g1 : n0 ≤ a1) (x12 : a1 ≠ a2) :
    MetFree l (⟨"java/lang/String", "<init>", "([C)V"⟩ : MethodName) (head1 (Jvm.Cond.code (⟨"java/lang/String", "<init>", "([C)V"⟩ : MethodName) jdk_42_method_3_code 2 none :: ws) ({ frames := 3, cells := 1, slots := 2, locals := 52 } : Room)) (fun a U => a = #[(.ref a1), (.ref a2)] ∧ Z.Warmed39 U.vm ∧ U.heap = h0) (fun _ _ _ _ _ => True) (fun _ U o U' => ∃ v L, o = .returned v ∧ own_Q_rmS2 Z a1 a2 f cs u1 u2 h0 n0 v U'.heap L ∧ FrameEnd U o U' L ({ frames := 3, cells := 1, slots := 2, locals := 52 } : Room).cells ({ frames := 3, cells := 1, slots := 2, locals := 52 } : Room).slots) := by
  refine own_enter (Q := fun v h L => own_Q_rmS2 Z a1 a2 f cs u1 u2 h0 n0 v h L) (F := fun m => mkF m 0 #[rv a1, rv a2] []) own_pn4 (fun m => own_ef_rmS2 m a1 a2) ?_
  intro p e s m below meth c T X hx hby hml hret hlk hnm hown hZ e0
  show own_Goes p e below s _ _ (T.setTop (mkF m 0 #[rv a1, rv a2] []))
  have N0 := Fr.nil n0
  have yE := own_lt E1.lt
  have yV := own_lt V2.lt
  refine own_st (fun _ k => XS.aloadN X.here hx rfl (hb hby own_d10_0) rfl rfl  k) ?_
  show own_Goes p e below s _ _ (T.setTop (mkF m 1 #[rv a1, rv a2] [(.ref a1)]))
  refine own_st (fun _ k => XS.aloadN X.here hx rfl (hb hby own_d10_1) rfl rfl  k) ?_
  show own_Goes p e below s _ _ (T.setTop (mkF m 2 #[rv a1, rv a2] [(.ref a2), (.ref a1)]))
  refine own_st (fun _ k => XS.iconst X.here hx rfl (hb hby own_d10_2) k) ?_
  show own_Goes p e below s _ _ (T.setTop (mkF m 3 #[rv a1, rv a2] [(.int (0 : Int32)), (.ref a2), (.ref a1)]))
  refine own_st (fun _ k => XS.aloadN X.here hx rfl (hb hby own_d10_3) rfl rfl  k) ?_
  show own_Goes p e below s _ _ (T.setTop (mkF m 4 #[rv a1, rv a2] [(.ref a2), (.int (0 : Int32)), (.ref a2), (.ref a1)]))
  refine own_st (fun _ k => own_len X hx hZ e0 V2 (g := (mkF m 4 #[rv a1, rv a2] [(.ref a2), (.int (0 : Int32)), (.ref a2), (.ref a1)])) rfl rfl (hb hby own_d10_4) _ k) ?_
  show own_Goes p e below s _ _ (T.setTop (mkF m 5 #[rv a1, rv a2] [(.int (2 : Int32)), (.int (0 : Int32)), (.ref a2), (.ref a1)]))
  refine own_st (fun _ k => XS.aconstNull X.here hx rfl (hb hby own_d10_5) k) ?_
  show own_Goes p e below s _ _ (T.setTop (mkF m 6 #[rv a1, rv a2] [.null, (.int (2 : Int32)), (.int (0 : Int32)), (.ref a2), (.ref a1)]))
  obtain ⟨v101, T101, L101, X101, Q101, st101⟩ := own_callI X hx hZ (y := (⟨"java/lang/String", "<init>", "([CIILjava/lang/Void;)V"⟩ : MethodName)) hown (hw _ (List.mem_of_getElem? (i := 54) rfl)) (hw _ (List.mem_of_getElem? (i := 55) rfl)) (hw _ (List.mem_of_getElem? (i := 49) rfl)) (hw _ (List.mem_of_getElem? (i := 57) rfl)) rfl (by decide) (W := 0) (rest := []) (argsL := [(.ref a2), (.int (0 : Int32)), (.int (2 : Int32)), .null]) (a := a1) (rmSI2 l Z a0 hw [] a1 a2 _ cs _ _  h0 n0 (by omega) E1 F_value F_coder V2 hc S1 hcs (by omega) (by omega)) (by decide) (by decide) (by decide) (by decide) e0 own_pd3 rfl (g := (mkF m 6 #[rv a1, rv a2] [.null, (.int (2 : Int32)), (.int (0 : Int32)), (.ref a2), (.ref a1)])) rfl (by rw [hml]; rfl) rfl (by show 2 * 0 + _ ≤ _; exact Nat.le_of_eq rfl) (hb hby own_d10_6)
  obtain ⟨rfl, N101q, K101, b101, g101, y101, A101, F101_value, F101_coder, V101⟩ := Q101
  have z101 := K101.1
  have N101 := Fr.app N0 N101q
  refine own_st st101 ?_
  show own_Goes p e below s _ _ (T101.setTop (mkF m 9 #[rv a1, rv a2] []))
  exact own_ret0 X101 hx hlk hret (hb hby own_d10_9) (by decide) (by decide) ⟨rfl, N101, ((Keep.refl h0 [a1]).trans K101 (allS (Or.inl (by simp)) all0)), b101, by omega, by omega, A101, F101_value, F101_coder, V101⟩
theorem own_d11_8 : decode jdk_42_method_149_code 8 = .ok (.aload_n 0, 1) := by decide +kernel
theorem own_d11_9 : decode jdk_42_method_149_code 9 = .ok (.ldc 7, 2) := by decide +kernel
theorem own_d11_11 : decode jdk_42_method_149_code 11 = .ok (.getfield 9, 3) := by decide +kernel
theorem own_d11_14 : decode jdk_42_method_149_code 14 = .ok (.putfield 9, 3) := by decide +kernel
theorem own_d11_17 : decode jdk_42_method_149_code 17 = .ok (.aload_n 0, 1) := by decide +kernel
theorem own_d11_18 : decode jdk_42_method_149_code 18 = .ok (.ldc 7, 2) := by decide +kernel
theorem own_d11_20 : decode jdk_42_method_149_code 20 = .ok (.getfield 15, 3) := by decide +kernel
theorem own_d11_23 : decode jdk_42_method_149_code 23 = .ok (.putfield 15, 3) := by decide +kernel
theorem own_d11_26 : decode jdk_42_method_149_code 26 = .ok (.return_, 1) := by decide +kernel
theorem own_ef_rmSI0 (m : MethodId) (a1 : Nat) (a2 : Nat) : entryFrame m #[(.ref a1), (.ref a2), (.int (0 : Int32)), (.int (0 : Int32)), .null] 6 = mkF m 0 #[rv a1, rv a2, iv (0 : Int32), iv (0 : Int32), .val .null, .unset] [] := by first | (simp [entryFrame, mkF, argsToLocals, Value.category, maxLocals]; done) | rfl
abbrev own_Q_rmSI0 (Z : State) (a1 : Nat) (a2 : Nat) (u2 : Value) (h0 : Heap) (n0 : Nat) (v : Option Value) (h : Heap) (vm : Vm) (L : List Loc) : Prop := v = none ∧ Fr n0 L ∧ Keep h0 h [a1] ∧ own_E Z h vm
set_option maxRecDepth 65536 in
set_option maxHeartbeats 40000000 in
theorem rmSI0 (l : Launch) (Z : State) (a0 : Array Value) (hw : ∀ d ∈ tables_1, d.before a0 Z = true) (ws : List Jvm.Cond) (a1 : Nat) (a2 : Nat) (u2 : Value) (h0 : Heap) (n0 : Nat) (Z0 : n0 ≤ h0.size) (E1 : Exa Z h0 a1 "java/lang/String") (F_value : Fld Z h0 a1 "java/lang/String" "value" "[B" .null) (F_coder : Fld Z h0 a1 "java/lang/String" "coder" "B" u2) (g1 : n0 ≤ a1) (HK : ∀ (b : Addr) (cl : Cell), Z.heap[b]? = some cl → h0[b]? = some cl) (CH : Jvm.Lit.constHeld Z "java/lang/String" 7) (CW : Jvm.Lit.compactW.before a0 Z = true) :
    MetFree l (⟨"java/lang/String", "<init>", "([CIILjava/lang/Void;)V"⟩ : MethodName) (head1 (Jvm.Cond.code (⟨"java/lang/String", "<init>", "([CIILjava/lang/Void;)V"⟩ : MethodName) jdk_42_method_149_code 6 none :: ws) ({ frames := 1, cells := 2, slots := 4, locals := 13 } : Room)) (fun a U => a = #[(.ref a1), (.ref a2), (.int (0 : Int32)), (.int (0 : Int32)), .null] ∧ Z.Warmed39 U.vm ∧ U.heap = h0 ∧ own_E Z h0 U.vm) (fun _ _ _ _ _ => True) (fun _ U o U' => ∃ v L, o = .returned v ∧ own_Q_rmSI0 Z a1 a2 u2 h0 n0 v U'.heap U'.vm L ∧ ReturnedEndW U o U' L ({ frames := 1, cells := 2, slots := 4, locals := 13 } : Room).cells ({ frames := 1, cells := 2, slots := 4, locals := 13 } : Room).slots) := by
  refine own_enterW (Q := fun v h vm L => own_Q_rmSI0 Z a1 a2 u2 h0 n0 v h vm L) (F := fun m => mkF m 0 #[rv a1, rv a2, iv (0 : Int32), iv (0 : Int32), .val .null, .unset] []) (Pv := fun vm => own_E Z h0 vm) own_pn3 (fun m => own_ef_rmSI0 m a1 a2) ?_
  intro p e s vm0 m below meth c T X hS hx hby hml hret hlk hnm hown hZ e0 hh0 F0
  show own_GoesW p e below s _ _ (T.setTop (mkF m 0 #[rv a1, rv a2, iv (0 : Int32), iv (0 : Int32), .val .null, .unset] []))
  have N0 := Fr.nil n0
  refine own_stW (fun _ k => XS.aloadN X.here hx rfl (hb hby own_d11_0) rfl rfl  k) ?_
  show own_GoesW p e below s _ _ (T.setTop (mkF m 1 #[rv a1, rv a2, iv (0 : Int32), iv (0 : Int32), .val .null, .unset] [(.ref a1)]))
  obtain ⟨T101, X101, e101, st101⟩ := initO X hx hZ hown (hw _ (List.mem_of_getElem? (i := 58) rfl)) (hw _ (List.mem_of_getElem? (i := 16) rfl)) (hw _ (List.mem_of_getElem? (i := 17) rfl)) e0 (g := (mkF m 1 #[rv a1, rv a2, iv (0 : Int32), iv (0 : Int32), .val .null, .unset] [(.ref a1)])) rfl (by rw [hml]; rfl) rfl (hb hby own_d11_1) (by decide) (W := 0) (by show 2 * 0 + _ ≤ _; exact Nat.le_of_eq rfl) (by decide)
  refine own_stW st101 ?_
  show own_GoesW p e below s _ _ (T101.setTop (mkF m 4 #[rv a1, rv a2, iv (0 : Int32), iv (0 : Int32), .val .null, .unset] []))
  refine own_stW (fun _ k => XS.iloadN X101.here hx rfl (hb hby own_d11_4) rfl  k) ?_
  show own_GoesW p e below s _ _ (T101.setTop (mkF m 5 #[rv a1, rv a2, iv (0 : Int32), iv (0 : Int32), .val .null, .unset] [(.int (0 : Int32))]))
  refine own_stW (fun _ k => XS.ifNo X101.here hx rfl (hb hby own_d11_5) rfl ((if0 _ _).trans (teq (by decide : (0 : Int32) = (0 : Int32))).2) k) ?_
  show own_GoesW p e below s _ _ (T101.setTop (mkF m 8 #[rv a1, rv a2, iv (0 : Int32), iv (0 : Int32), .val .null, .unset] []))
  refine own_stW (fun _ k => XS.aloadN X101.here hx rfl (hb hby own_d11_8) rfl rfl  k) ?_
  show own_GoesW p e below s _ _ (T101.setTop (mkF m 9 #[rv a1, rv a2, iv (0 : Int32), iv (0 : Int32), .val .null, .unset] [(.ref a1)]))
  obtain ⟨ca, cb, T102, h102, vm102, k102, X102, e102, E102, hS, hk102, hZ, hown, hL, A102, Fc102, Fv102, V102, st102⟩ := own_ldcE X101 hx hZ hown (hw _ (List.mem_of_getElem? (i := 80) rfl)) (own_wS hw) e101 hS (Nat.zero_le _) (Fr.nil _) (by rw [hh0]; exact HK) F0 CH CW (g := (mkF m 9 #[rv a1, rv a2, iv (0 : Int32), iv (0 : Int32), .val .null, .unset] [(.ref a1)])) rfl (hb hby own_d11_9) (by decide) (by decide)
  have z102 := E102.1
  have P102 := own_P_new (E1.ext E102) (F_value.ext E102) (hw _ (List.mem_of_getElem? (i := 48) rfl))
  have y102 := own_lt A102.lt
  have yb102 := own_lt V102.lt
  have hne1 : ¬ @Eq Nat ca a1 := P102.1 ca cb A102 Fv102
  have hne2 : ¬ @Eq Nat cb a1 := by obtain ⟨cl, Ac, -⟩ := id V102; exact P102.2 cb cl Ac
  refine own_stW st102 ?_
  show own_GoesW p e below s _ _ (T102.setTop (mkF m 11 #[rv a1, rv a2, iv (0 : Int32), iv (0 : Int32), .val .null, .unset] [(.ref ca), (.ref a1)]))
  obtain ⟨T103, X103, e103, st103⟩ := getF X102 hx hZ hown (host := "") (Or.inl (hw _ (List.mem_of_getElem? (i := 73) rfl))) Via.refl e102 Fv102 (g := (mkF m 11 #[rv a1, rv a2, iv (0 : Int32), iv (0 : Int32), .val .null, .unset] [(.ref ca), (.ref a1)])) rfl rfl (hb hby own_d11_11)
  refine own_stW st103 ?_
  show own_GoesW p e below s _ _ (T103.setTop (mkF m 14 #[rv a1, rv a2, iv (0 : Int32), iv (0 : Int32), .val .null, .unset] [(.ref cb), (.ref a1)]))
  have f104 := (F_value.ext E102)
  have f105 := (E1.ext E102)
  obtain ⟨T106, h106, X106, e106, W106, st106⟩ := putF X103 hx hZ hown (host := "") (Or.inl (hw _ (List.mem_of_getElem? (i := 73) rfl))) Via.refl e103 f104 f105 (Or.inr ⟨(hw _ (List.mem_of_getElem? (i := 74) rfl)), rfl, hnm⟩) (hw _ (List.mem_of_getElem? (i := 48) rfl)) (ty := (.array .byte)) (by decide) rfl rfl (g := (mkF m 14 #[rv a1, rv a2, iv (0 : Int32), iv (0 : Int32), .val .null, .unset] [(.ref cb), (.ref a1)])) rfl rfl (hb hby own_d11_14)
  have z106 := W106.size
  have N106 := Fr.snoc X106 N0 (by omega)
  have F106 := f104.same W106
  refine own_stW st106 ?_
  show own_GoesW p e below s _ _ (T106.setTop (mkF m 17 #[rv a1, rv a2, iv (0 : Int32), iv (0 : Int32), .val .null, .unset] []))
  refine own_stW (fun _ k => XS.aloadN X106.here hx rfl (hb hby own_d11_17) rfl rfl  k) ?_
  show own_GoesW p e below s _ _ (T106.setTop (mkF m 18 #[rv a1, rv a2, iv (0 : Int32), iv (0 : Int32), .val .null, .unset] [(.ref a1)]))
  refine own_stW (ldcAgain X106 hx hZ hown (hw _ (List.mem_of_getElem? (i := 80) rfl)) hL (g := (mkF m 18 #[rv a1, rv a2, iv (0 : Int32), iv (0 : Int32), .val .null, .unset] [(.ref a1)])) rfl (hb hby own_d11_18)) ?_
  show own_GoesW p e below s _ _ (T106.setTop (mkF m 20 #[rv a1, rv a2, iv (0 : Int32), iv (0 : Int32), .val .null, .unset] [(.ref ca), (.ref a1)]))
  have f107 := (Fc102.other W106 (Or.inl (own_ne (by omega))))
  obtain ⟨T108, X108, e108, st108⟩ := getF X106 hx hZ hown (host := "") (Or.inl (hw _ (List.mem_of_getElem? (i := 71) rfl))) Via.refl e106 f107 (g := (mkF m 20 #[rv a1, rv a2, iv (0 : Int32), iv (0 : Int32), .val .null, .unset] [(.ref ca), (.ref a1)])) rfl rfl (hb hby own_d11_20)
  refine own_stW st108 ?_
  show own_GoesW p e below s _ _ (T108.setTop (mkF m 23 #[rv a1, rv a2, iv (0 : Int32), iv (0 : Int32), .val .null, .unset] [(.int (0 : Int32)), (.ref a1)]))
  have f109 := ((F_coder.ext E102).other W106 (Or.inr (slot_ne (Or.inr (hw _ (List.mem_of_getElem? (i := 72) rfl))) (Or.inr (hw _ (List.mem_of_getElem? (i := 74) rfl))) (by decide) (t := .byte) (t' := (.array .byte)) (by decide) (by decide))))
  have f110 := (f105.wr W106)
  obtain ⟨T111, h111, X111, e111, W111, st111⟩ := putFN X108 hx hZ hown (hw _ (List.mem_of_getElem? (i := 71) rfl)) Via.refl e108 f109 f110 (Or.inr ⟨(hw _ (List.mem_of_getElem? (i := 72) rfl)), rfl, hnm⟩) (hw _ (List.mem_of_getElem? (i := 48) rfl)) (ty := .byte) (v' := (.int (nar .byte (0 : Int32)))) (by decide) rfl (fits_nar_byte _) (g := (mkF m 23 #[rv a1, rv a2, iv (0 : Int32), iv (0 : Int32), .val .null, .unset] [(.int (0 : Int32)), (.ref a1)])) rfl rfl (hb hby own_d11_23)
  have z111 := W111.size
  have N111 := Fr.snoc X111 N106 (by omega)
  have F111 := f109.same W111
  refine own_stW st111 ?_
  show own_GoesW p e below s _ _ (T111.setTop (mkF m 26 #[rv a1, rv a2, iv (0 : Int32), iv (0 : Int32), .val .null, .unset] []))
  have f112 := ((A102.wr W106).wr W111)
  have f113 := (f107.other W111 (Or.inl (own_ne (by omega))))
  have f114 := ((Fv102.other W106 (Or.inl (own_ne (by omega)))).other W111 (Or.inl (own_ne (by omega))))
  have f115 := ((V102.other W106 (own_ne (by omega))).other W111 (own_ne (by omega)))
  exact own_ret0W X111 hx hS (by rw [e111]; omega) hlk hret (hb hby own_d11_26) (by decide) (by decide) ⟨rfl, N111, by rw [e111]; exact ((((Keep.refl h0 [a1]).ext E102).wr W106 (Or.inl (by simp))).wr W111 (Or.inl (by simp))), by rw [e111]; exact own_E.top (Or.inr ⟨ca, cb, hL, f112, f113, f114, f115⟩) X111.warmed⟩
theorem own_ef_rmS0 (m : MethodId) (a1 : Nat) (a2 : Nat) : entryFrame m #[(.ref a1), (.ref a2)] 2 = mkF m 0 #[rv a1, rv a2] [] := by first | (simp [entryFrame, mkF, argsToLocals, Value.category, maxLocals]; done) | rfl
abbrev own_Q_rmS0 (Z : State) (a1 : Nat) (a2 : Nat) (u2 : Value) (h0 : Heap) (n0 : Nat) (v : Option Value) (h : Heap) (vm : Vm) (L : List Loc) : Prop := v = none ∧ Fr n0 L ∧ Keep h0 h [a1] ∧ own_E Z h vm
set_option maxRecDepth 65536 in
set_option maxHeartbeats 40000000 in
theorem rmS0 (l : Launch) (Z : State) (a0 : Array Value) (hw : ∀ d ∈ tables_1, d.before a0 Z = true) (ws : List Jvm.Cond) (a1 : Nat) (a2 : Nat) (u2 : Value) (h0 : Heap) (n0 : Nat) (Z0 : n0 ≤ h0.size) (E1 : Exa Z h0 a1 "java/lang/String") (F_value : Fld Z h0 a1 "java/lang/String" "value" "[B" .null) (F_coder : Fld Z h0 a1 "java/lang/String" "coder" "B" u2) (V2 : own_Arf Z h0 a2 .char 0 (fun k => .int ((fun _ => (0 : Int32)) k))) (g1 : n0 ≤ a1) (HK : ∀ (b : Addr) (cl : Cell), Z.heap[b]? = some cl → h0[b]? = some cl) (CH : Jvm.Lit.constHeld Z "java/lang/String" 7) (CW : Jvm.Lit.compactW.before a0 Z = true) :
    MetFree l (⟨"java/lang/String", "<init>", "([C)V"⟩ : MethodName) (head1 (Jvm.Cond.code (⟨"java/lang/String", "<init>", "([C)V"⟩ : MethodName) jdk_42_method_3_code 2 none :: ws) ({ frames := 2, cells := 2, slots := 4, locals := 31 } : Room)) (fun a U => a = #[(.ref a1), (.ref a2)] ∧ Z.Warmed39 U.vm ∧ U.heap = h0 ∧ own_E Z h0 U.vm) (fun _ _ _ _ _ => True) (fun _ U o U' => ∃ v L, o = .returned v ∧ own_Q_rmS0 Z a1 a2 u2 h0 n0 v U'.heap U'.vm L ∧ ReturnedEndW U o U' L ({ frames := 2, cells := 2, slots := 4, locals := 31 } : Room).cells ({ frames := 2, cells := 2, slots := 4, locals := 31 } : Room).slots) := by
  refine own_enterW (Q := fun v h vm L => own_Q_rmS0 Z a1 a2 u2 h0 n0 v h vm L) (F := fun m => mkF m 0 #[rv a1, rv a2] []) (Pv := fun vm => own_E Z h0 vm) own_pn4 (fun m => own_ef_rmS0 m a1 a2) ?_
  intro p e s vm0 m below meth c T X hS hx hby hml hret hlk hnm hown hZ e0 hh0 F0
  show own_GoesW p e below s _ _ (T.setTop (mkF m 0 #[rv a1, rv a2] []))
  have N0 := Fr.nil n0
  refine own_stW (fun _ k => XS.aloadN X.here hx rfl (hb hby own_d10_0) rfl rfl  k) ?_
  show own_GoesW p e below s _ _ (T.setTop (mkF m 1 #[rv a1, rv a2] [(.ref a1)]))
  refine own_stW (fun _ k => XS.aloadN X.here hx rfl (hb hby own_d10_1) rfl rfl  k) ?_
  show own_GoesW p e below s _ _ (T.setTop (mkF m 2 #[rv a1, rv a2] [(.ref a2), (.ref a1)]))
  refine own_stW (fun _ k => XS.iconst X.here hx rfl (hb hby own_d10_2) k) ?_
  show own_GoesW p e below s _ _ (T.setTop (mkF m 3 #[rv a1, rv a2] [(.int (0 : Int32)), (.ref a2), (.ref a1)]))
  refine own_stW (fun _ k => XS.aloadN X.here hx rfl (hb hby own_d10_3) rfl rfl  k) ?_
  show own_GoesW p e below s _ _ (T.setTop (mkF m 4 #[rv a1, rv a2] [(.ref a2), (.int (0 : Int32)), (.ref a2), (.ref a1)]))
  refine own_stW (fun _ k => own_len X hx hZ e0 V2 (g := (mkF m 4 #[rv a1, rv a2] [(.ref a2), (.int (0 : Int32)), (.ref a2), (.ref a1)])) rfl rfl (hb hby own_d10_4) _ k) ?_
  show own_GoesW p e below s _ _ (T.setTop (mkF m 5 #[rv a1, rv a2] [(.int (0 : Int32)), (.int (0 : Int32)), (.ref a2), (.ref a1)]))
  refine own_stW (fun _ k => XS.aconstNull X.here hx rfl (hb hby own_d10_5) k) ?_
  show own_GoesW p e below s _ _ (T.setTop (mkF m 6 #[rv a1, rv a2] [.null, (.int (0 : Int32)), (.int (0 : Int32)), (.ref a2), (.ref a1)]))
  obtain ⟨v101, T101, L101, vm101, k101, X101, hS, hk101, hZ, hown, Q101, st101⟩ := own_callIW X hS (by rw [e0]; omega) hx hZ (y := (⟨"java/lang/String", "<init>", "([CIILjava/lang/Void;)V"⟩ : MethodName)) hown (hw _ (List.mem_of_getElem? (i := 54) rfl)) (hw _ (List.mem_of_getElem? (i := 55) rfl)) (hw _ (List.mem_of_getElem? (i := 49) rfl)) (hw _ (List.mem_of_getElem? (i := 57) rfl)) rfl (by decide) (W := 0) (rest := []) (argsL := [(.ref a2), (.int (0 : Int32)), (.int (0 : Int32)), .null]) (a := a1) (Pv := fun vm => own_E Z h0 vm) (rmSI0 l Z a0 hw [] a1 a2 _  h0 n0 (by omega) E1 F_value F_coder (by omega) HK CH CW) (fun _ q => own_E.top F0 q) (by decide) (by decide) (by decide) (by decide) e0 own_pd3 rfl (g := (mkF m 6 #[rv a1, rv a2] [.null, (.int (0 : Int32)), (.int (0 : Int32)), (.ref a2), (.ref a1)])) rfl (by rw [hml]; rfl) rfl (by show 2 * 0 + _ ≤ _; exact Nat.le_of_eq rfl) (hb hby own_d10_6)
  obtain ⟨rfl, N101q, K101, F101E⟩ := Q101
  have z101 := K101.1
  have N101 := Fr.app N0 N101q
  refine own_stW st101 ?_
  show own_GoesW p e below s _ _ (T101.setTop (mkF m 9 #[rv a1, rv a2] []))
  exact own_ret0W X101 hx hS (by omega) hlk hret (hb hby own_d10_9) (by decide) (by decide) ⟨rfl, N101, ((Keep.refl h0 [a1]).trans K101 (allS (Or.inl (by simp)) all0)), own_E.top F101E X101.warmed⟩
theorem own_pn5 : plainFor (⟨"jakarta/faces/application/FacesMessageGetDetailPinLaw", "mk", "(IIII)Ljava/lang/String;"⟩ : MethodName) = true := by first | exact plainFor_of_name (by simp [plainName, overriddenIn]; done) | decide +kernel
theorem own_d1_0 : decode method_2_code 0 = .ok (.iload_n 0, 1) := by decide +kernel
theorem own_d1_1 : decode method_2_code 1 = .ok (.ifCond .ne 5, 3) := by decide +kernel
theorem own_d1_4 : decode method_2_code 4 = .ok (.aconst_null, 1) := by decide +kernel
theorem own_d1_5 : decode method_2_code 5 = .ok (.areturn, 1) := by decide +kernel
theorem own_d1_6 : decode method_2_code 6 = .ok (.iload_n 2, 1) := by decide +kernel
theorem own_d1_7 : decode method_2_code 7 = .ok (.sipush 255, 3) := by decide +kernel
theorem own_d1_10 : decode method_2_code 10 = .ok (.iand, 1) := by decide +kernel
theorem own_d1_11 : decode method_2_code 11 = .ok (.i2c, 1) := by decide +kernel
theorem own_d1_12 : decode method_2_code 12 = .ok (.istore 4, 2) := by decide +kernel
theorem own_d1_14 : decode method_2_code 14 = .ok (.iload_n 3, 1) := by decide +kernel
theorem own_d1_15 : decode method_2_code 15 = .ok (.sipush 255, 3) := by decide +kernel
theorem own_d1_18 : decode method_2_code 18 = .ok (.iand, 1) := by decide +kernel
theorem own_d1_19 : decode method_2_code 19 = .ok (.i2c, 1) := by decide +kernel
theorem own_d1_20 : decode method_2_code 20 = .ok (.istore 5, 2) := by decide +kernel
theorem own_d1_22 : decode method_2_code 22 = .ok (.iload_n 1, 1) := by decide +kernel
theorem own_d1_23 : decode method_2_code 23 = .ok (.ifCond .ne 14, 3) := by decide +kernel
theorem own_d1_26 : decode method_2_code 26 = .ok (.new 7, 3) := by decide +kernel
theorem own_d1_29 : decode method_2_code 29 = .ok (.dup, 1) := by decide +kernel
theorem own_d1_30 : decode method_2_code 30 = .ok (.iconst 0, 1) := by decide +kernel
theorem own_d1_31 : decode method_2_code 31 = .ok (.newarray .char, 2) := by decide +kernel
theorem own_d1_33 : decode method_2_code 33 = .ok (.invokespecial 9, 3) := by decide +kernel
theorem own_pd4 : parseMethodDescriptor "([C)V" = some ⟨[(.array .char)], none⟩ := by decide +kernel
theorem own_d1_36 : decode method_2_code 36 = .ok (.areturn, 1) := by decide +kernel
theorem own_d1_37 : decode method_2_code 37 = .ok (.iload_n 1, 1) := by decide +kernel
theorem own_d1_38 : decode method_2_code 38 = .ok (.iconst 1, 1) := by decide +kernel
theorem own_d1_39 : decode method_2_code 39 = .ok (.if_icmp .ne 19, 3) := by decide +kernel
theorem own_d1_42 : decode method_2_code 42 = .ok (.new 7, 3) := by decide +kernel
theorem own_d1_45 : decode method_2_code 45 = .ok (.dup, 1) := by decide +kernel
theorem own_d1_46 : decode method_2_code 46 = .ok (.iconst 1, 1) := by decide +kernel
theorem own_d1_47 : decode method_2_code 47 = .ok (.newarray .char, 2) := by decide +kernel
theorem own_d1_49 : decode method_2_code 49 = .ok (.dup, 1) := by decide +kernel
theorem own_d1_50 : decode method_2_code 50 = .ok (.iconst 0, 1) := by decide +kernel
theorem own_d1_51 : decode method_2_code 51 = .ok (.iload 4, 2) := by decide +kernel
theorem own_d1_53 : decode method_2_code 53 = .ok (.castore, 1) := by decide +kernel
theorem own_d1_54 : decode method_2_code 54 = .ok (.invokespecial 9, 3) := by decide +kernel
theorem own_d1_57 : decode method_2_code 57 = .ok (.areturn, 1) := by decide +kernel
theorem own_d1_58 : decode method_2_code 58 = .ok (.new 7, 3) := by decide +kernel
theorem own_d1_61 : decode method_2_code 61 = .ok (.dup, 1) := by decide +kernel
theorem own_d1_62 : decode method_2_code 62 = .ok (.iconst 2, 1) := by decide +kernel
theorem own_d1_63 : decode method_2_code 63 = .ok (.newarray .char, 2) := by decide +kernel
theorem own_d1_65 : decode method_2_code 65 = .ok (.dup, 1) := by decide +kernel
theorem own_d1_66 : decode method_2_code 66 = .ok (.iconst 0, 1) := by decide +kernel
theorem own_d1_67 : decode method_2_code 67 = .ok (.iload 4, 2) := by decide +kernel
theorem own_d1_69 : decode method_2_code 69 = .ok (.castore, 1) := by decide +kernel
theorem own_d1_70 : decode method_2_code 70 = .ok (.dup, 1) := by decide +kernel
theorem own_d1_71 : decode method_2_code 71 = .ok (.iconst 1, 1) := by decide +kernel
theorem own_d1_72 : decode method_2_code 72 = .ok (.iload 5, 2) := by decide +kernel
theorem own_d1_74 : decode method_2_code 74 = .ok (.castore, 1) := by decide +kernel
theorem own_d1_75 : decode method_2_code 75 = .ok (.invokespecial 9, 3) := by decide +kernel
theorem own_d1_78 : decode method_2_code 78 = .ok (.areturn, 1) := by decide +kernel
theorem own_ef_rmMk (m : MethodId) (p0 : Int32) (p1 : Int32) (p2 : Int32) (p3 : Int32) : entryFrame m #[(.int p0), (.int p1), (.int p2), (.int p3)] 6 = mkF m 0 #[iv p0, iv p1, iv p2, iv p3, .unset, .unset] [] := by first | (simp [entryFrame, mkF, argsToLocals, Value.category, maxLocals]; done) | rfl
abbrev own_Q_rmMk (Z : State) (p0 : Int32) (p1 : Int32) (p2 : Int32) (p3 : Int32) (cs : Int32) (h0 : Heap) (n0 : Nat) (v : Option Value) (h : Heap) (vm : Vm) (L : List Loc) : Prop := ∃ w : Value, v = some w ∧ (w = .null ∨ ∃ b : Nat, w = .ref b ∧ Exa Z h b "java/lang/String") ∧ Fr n0 L ∧ Keep h0 h [] ∧ own_E Z h vm
set_option maxRecDepth 65536 in
set_option maxHeartbeats 40000000 in
theorem rmMk (l : Launch) (Z : State) (a0 : Array Value) (hw : ∀ d ∈ tables_1, d.before a0 Z = true) (ws : List Jvm.Cond) (p0 : Int32) (p1 : Int32) (p2 : Int32) (p3 : Int32) (cs : Int32) (h0 : Heap) (n0 : Nat) (Z0 : n0 ≤ h0.size) (S1 : Sta Z h0 "java/lang/String" "COMPACT_STRINGS" "Z" (.int cs)) (hcs : ¬ cs = (0 : Int32)) (HK : ∀ (b : Addr) (cl : Cell), Z.heap[b]? = some cl → h0[b]? = some cl) (CH : Jvm.Lit.constHeld Z "java/lang/String" 7) (CW : Jvm.Lit.compactW.before a0 Z = true) :
    MetFree l (⟨"jakarta/faces/application/FacesMessageGetDetailPinLaw", "mk", "(IIII)Ljava/lang/String;"⟩ : MethodName) (head1 (Jvm.Cond.code (⟨"jakarta/faces/application/FacesMessageGetDetailPinLaw", "mk", "(IIII)Ljava/lang/String;"⟩ : MethodName) method_2_code 6 (some (.object "java/lang/String")) :: ws) ({ frames := 4, cells := 4, slots := 8, locals := 70 } : Room)) (fun a U => a = #[(.int p0), (.int p1), (.int p2), (.int p3)] ∧ Z.Warmed39 U.vm ∧ U.heap = h0 ∧ own_E Z h0 U.vm) (fun _ _ _ _ _ => True) (fun _ U o U' => ∃ v L, o = .returned v ∧ own_Q_rmMk Z p0 p1 p2 p3 cs h0 n0 v U'.heap U'.vm L ∧ ReturnedEndW U o U' L ({ frames := 4, cells := 4, slots := 8, locals := 70 } : Room).cells ({ frames := 4, cells := 4, slots := 8, locals := 70 } : Room).slots) := by
  refine own_enterW (Q := fun v h vm L => own_Q_rmMk Z p0 p1 p2 p3 cs h0 n0 v h vm L) (F := fun m => mkF m 0 #[iv p0, iv p1, iv p2, iv p3, .unset, .unset] []) (Pv := fun vm => own_E Z h0 vm) own_pn5 (fun m => own_ef_rmMk m p0 p1 p2 p3) ?_
  intro p e s vm0 m below meth c T X hS hx hby hml hret hlk hnm hown hZ e0 hh0 F0
  show own_GoesW p e below s _ _ (T.setTop (mkF m 0 #[iv p0, iv p1, iv p2, iv p3, .unset, .unset] []))
  have N0 := Fr.nil n0
  refine own_stW (fun _ k => XS.iloadN X.here hx rfl (hb hby own_d1_0) rfl  k) ?_
  show own_GoesW p e below s _ _ (T.setTop (mkF m 1 #[iv p0, iv p1, iv p2, iv p3, .unset, .unset] [(.int p0)]))
  by_cases c101 : p0 = (0 : Int32)
  · have c101i : p0.toInt = 0 := own_i_eq c101
    refine own_stW (fun _ k => XS.ifNo X.here hx rfl (hb hby own_d1_1) rfl ((if0 _ _).trans (teq c101).2) k) ?_
    show own_GoesW p e below s _ _ (T.setTop (mkF m 4 #[iv p0, iv p1, iv p2, iv p3, .unset, .unset] []))
    refine own_stW (fun _ k => XS.aconstNull X.here hx rfl (hb hby own_d1_4) k) ?_
    show own_GoesW p e below s _ _ (T.setTop (mkF m 5 #[iv p0, iv p1, iv p2, iv p3, .unset, .unset] [.null]))
    exact own_retRW X hx hS (by rw [e0]; omega) hlk hret rfl rfl (hb hby own_d1_5) (by decide) (by decide) ⟨_, rfl, Or.inl rfl, N0, by rw [e0]; exact (Keep.refl h0 []), by rw [e0]; exact own_E.top (F0.keep (Keep.refl h0 []) (fun _ q => nomatch q)) X.warmed⟩
  · have c101i : ¬ p0.toInt = 0 := own_i_ne c101
    refine own_stW (fun _ k => XS.ifYes X.here hx rfl (pc0 := 1) (pc' := 6) rfl (hb hby own_d1_1) rfl ((if0 _ _).trans (feq c101).2) (by decide) (by decide) k) ?_
    show own_GoesW p e below s _ _ (T.setTop (mkF m 6 #[iv p0, iv p1, iv p2, iv p3, .unset, .unset] []))
    refine own_stW (fun _ k => XS.iloadN X.here hx rfl (hb hby own_d1_6) rfl  k) ?_
    show own_GoesW p e below s _ _ (T.setTop (mkF m 7 #[iv p0, iv p1, iv p2, iv p3, .unset, .unset] [(.int p2)]))
    refine own_stW (fun _ k => XS.sipush X.here hx rfl (hb hby own_d1_7) k) ?_
    show own_GoesW p e below s _ _ (T.setTop (mkF m 10 #[iv p0, iv p1, iv p2, iv p3, .unset, .unset] [(.int (255 : Int32)), (.int p2)]))
    refine own_stW (fun _ k => XS.iand X.here hx rfl (hb hby own_d1_10) rfl k) ?_
    show own_GoesW p e below s _ _ (T.setTop (mkF m 11 #[iv p0, iv p1, iv p2, iv p3, .unset, .unset] [(.int (p2 &&& (255 : Int32)))]))
    refine own_stW (fun _ k => XS.i2c X.here hx rfl (hb hby own_d1_11) rfl k) ?_
    show own_GoesW p e below s _ _ (T.setTop (mkF m 12 #[iv p0, iv p1, iv p2, iv p3, .unset, .unset] [(.int ((p2 &&& (255 : Int32)).toUInt32.toUInt16.toUInt32.toInt32))]))
    refine own_stW (fun _ k => XS.istore X.here hx rfl (hb hby own_d1_12) rfl (l' := #[iv p0, iv p1, iv p2, iv p3, iv ((p2 &&& (255 : Int32)).toUInt32.toUInt16.toUInt32.toInt32), .unset]) rfl k) ?_
    show own_GoesW p e below s _ _ (T.setTop (mkF m 14 #[iv p0, iv p1, iv p2, iv p3, iv ((p2 &&& (255 : Int32)).toUInt32.toUInt16.toUInt32.toInt32), .unset] []))
    refine own_stW (fun _ k => XS.iloadN X.here hx rfl (hb hby own_d1_14) rfl  k) ?_
    show own_GoesW p e below s _ _ (T.setTop (mkF m 15 #[iv p0, iv p1, iv p2, iv p3, iv ((p2 &&& (255 : Int32)).toUInt32.toUInt16.toUInt32.toInt32), .unset] [(.int p3)]))
    refine own_stW (fun _ k => XS.sipush X.here hx rfl (hb hby own_d1_15) k) ?_
    show own_GoesW p e below s _ _ (T.setTop (mkF m 18 #[iv p0, iv p1, iv p2, iv p3, iv ((p2 &&& (255 : Int32)).toUInt32.toUInt16.toUInt32.toInt32), .unset] [(.int (255 : Int32)), (.int p3)]))
    refine own_stW (fun _ k => XS.iand X.here hx rfl (hb hby own_d1_18) rfl k) ?_
    show own_GoesW p e below s _ _ (T.setTop (mkF m 19 #[iv p0, iv p1, iv p2, iv p3, iv ((p2 &&& (255 : Int32)).toUInt32.toUInt16.toUInt32.toInt32), .unset] [(.int (p3 &&& (255 : Int32)))]))
    refine own_stW (fun _ k => XS.i2c X.here hx rfl (hb hby own_d1_19) rfl k) ?_
    show own_GoesW p e below s _ _ (T.setTop (mkF m 20 #[iv p0, iv p1, iv p2, iv p3, iv ((p2 &&& (255 : Int32)).toUInt32.toUInt16.toUInt32.toInt32), .unset] [(.int ((p3 &&& (255 : Int32)).toUInt32.toUInt16.toUInt32.toInt32))]))
    refine own_stW (fun _ k => XS.istore X.here hx rfl (hb hby own_d1_20) rfl (l' := #[iv p0, iv p1, iv p2, iv p3, iv ((p2 &&& (255 : Int32)).toUInt32.toUInt16.toUInt32.toInt32), iv ((p3 &&& (255 : Int32)).toUInt32.toUInt16.toUInt32.toInt32)]) rfl k) ?_
    show own_GoesW p e below s _ _ (T.setTop (mkF m 22 #[iv p0, iv p1, iv p2, iv p3, iv ((p2 &&& (255 : Int32)).toUInt32.toUInt16.toUInt32.toInt32), iv ((p3 &&& (255 : Int32)).toUInt32.toUInt16.toUInt32.toInt32)] []))
    refine own_stW (fun _ k => XS.iloadN X.here hx rfl (hb hby own_d1_22) rfl  k) ?_
    show own_GoesW p e below s _ _ (T.setTop (mkF m 23 #[iv p0, iv p1, iv p2, iv p3, iv ((p2 &&& (255 : Int32)).toUInt32.toUInt16.toUInt32.toInt32), iv ((p3 &&& (255 : Int32)).toUInt32.toUInt16.toUInt32.toInt32)] [(.int p1)]))
    by_cases c102 : p1 = (0 : Int32)
    · have c102i : p1.toInt = 0 := own_i_eq c102
      refine own_stW (fun _ k => XS.ifNo X.here hx rfl (hb hby own_d1_23) rfl ((if0 _ _).trans (teq c102).2) k) ?_
      show own_GoesW p e below s _ _ (T.setTop (mkF m 26 #[iv p0, iv p1, iv p2, iv p3, iv ((p2 &&& (255 : Int32)).toUInt32.toUInt16.toUInt32.toInt32), iv ((p3 &&& (255 : Int32)).toUInt32.toUInt16.toUInt32.toInt32)] []))
      obtain ⟨T103, h103, X103, e103, E103, A103, D103, -, st103⟩ := newO X hx hZ hown (hw _ (List.mem_of_getElem? (i := 47) rfl)) (hw _ (List.mem_of_getElem? (i := 48) rfl)) (hw _ (List.mem_of_getElem? (i := 49) rfl)) e0 (g := (mkF m 26 #[iv p0, iv p1, iv p2, iv p3, iv ((p2 &&& (255 : Int32)).toUInt32.toUInt16.toUInt32.toInt32), iv ((p3 &&& (255 : Int32)).toUInt32.toUInt16.toUInt32.toInt32)] [])) rfl (hb hby own_d1_26) (by decide) (by decide)
      obtain ⟨b103, g103⟩ : ∃ z, z = h0.size := ⟨_, rfl⟩
      rw [← g103] at A103 D103 st103
      have y103 := own_lt A103.lt
      have z103 := E103.1
      have F103_coder : Fld Z h103 b103 "java/lang/String" "coder" "B" (.int (0 : Int32)) := D103 (Or.inr (hw _ (List.mem_of_getElem? (i := 72) rfl))) (ty := .byte) (by decide)
      have F103_value : Fld Z h103 b103 "java/lang/String" "value" "[B" .null := D103 (Or.inr (hw _ (List.mem_of_getElem? (i := 74) rfl))) (ty := (.array .byte)) (by decide)
      refine own_stW st103 ?_
      show own_GoesW p e below s _ _ (T103.setTop (mkF m 29 #[iv p0, iv p1, iv p2, iv p3, iv ((p2 &&& (255 : Int32)).toUInt32.toUInt16.toUInt32.toInt32), iv ((p3 &&& (255 : Int32)).toUInt32.toUInt16.toUInt32.toInt32)] [(.ref b103)]))
      refine own_stW (fun _ k => XS.dup X103.here hx rfl (hb hby own_d1_29) rfl rfl k) ?_
      show own_GoesW p e below s _ _ (T103.setTop (mkF m 30 #[iv p0, iv p1, iv p2, iv p3, iv ((p2 &&& (255 : Int32)).toUInt32.toUInt16.toUInt32.toInt32), iv ((p3 &&& (255 : Int32)).toUInt32.toUInt16.toUInt32.toInt32)] [(.ref b103), (.ref b103)]))
      refine own_stW (fun _ k => XS.iconst X103.here hx rfl (hb hby own_d1_30) k) ?_
      show own_GoesW p e below s _ _ (T103.setTop (mkF m 31 #[iv p0, iv p1, iv p2, iv p3, iv ((p2 &&& (255 : Int32)).toUInt32.toUInt16.toUInt32.toInt32), iv ((p3 &&& (255 : Int32)).toUInt32.toUInt16.toUInt32.toInt32)] [(.int (0 : Int32)), (.ref b103), (.ref b103)]))
      obtain ⟨T104, h104, X104, e104, E104, A104, st104⟩ := own_newP X103 hx hZ (aty := .char) (hw _ (List.mem_of_getElem? (i := 50) rfl)) e103 (g := (mkF m 31 #[iv p0, iv p1, iv p2, iv p3, iv ((p2 &&& (255 : Int32)).toUInt32.toUInt16.toUInt32.toInt32), iv ((p3 &&& (255 : Int32)).toUInt32.toUInt16.toUInt32.toInt32)] [(.int (0 : Int32)), (.ref b103), (.ref b103)])) rfl (hb hby own_d1_31) rfl (by decide) (cap := 0) (by decide) (by decide) (by decide) (by decide)
      obtain ⟨b104, g104⟩ : ∃ z, z = h103.size := ⟨_, rfl⟩
      rw [← g104] at A104 st104
      have V104 : own_Arf Z h104 b104 .char 0 (fun k => .int ((fun _ => (0 : Int32)) k)) := A104
      have y104 := own_lt V104.lt
      have z104 := E104.1
      refine own_stW st104 ?_
      show own_GoesW p e below s _ _ (T104.setTop (mkF m 33 #[iv p0, iv p1, iv p2, iv p3, iv ((p2 &&& (255 : Int32)).toUInt32.toUInt16.toUInt32.toInt32), iv ((p3 &&& (255 : Int32)).toUInt32.toUInt16.toUInt32.toInt32)] [(.ref b104), (.ref b103), (.ref b103)]))
      have f106 := (A103.ext E104)
      have f107 := (F103_value.ext E104)
      have f108 := (F103_coder.ext E104)
      have f109 := ((F0.ext E103).ext E104)
      obtain ⟨v105, T105, L105, vm105, k105, X105, hS, hk105, hZ, hown, Q105, st105⟩ := own_callIW X104 hS (by rw [e104]; omega) hx hZ (y := (⟨"java/lang/String", "<init>", "([C)V"⟩ : MethodName)) hown (hw _ (List.mem_of_getElem? (i := 51) rfl)) (hw _ (List.mem_of_getElem? (i := 52) rfl)) (hw _ (List.mem_of_getElem? (i := 49) rfl)) (hw _ (List.mem_of_getElem? (i := 53) rfl)) rfl (by decide) (W := 1) (rest := [(.ref b103)]) (argsL := [(.ref b104)]) (a := b103) (Pv := fun vm => own_E Z h104 vm) (rmS0 l Z a0 hw [] b103 b104 _  h104 n0 (by omega) f106 f107 f108 V104 (by omega) (own_HK HK (((Keep.refl h0 []).ext E103).ext E104)) CH CW) (fun _ q => own_E.top f109 q) (by decide) (by decide) (by decide) (by decide) e104 own_pd4 rfl (g := (mkF m 33 #[iv p0, iv p1, iv p2, iv p3, iv ((p2 &&& (255 : Int32)).toUInt32.toUInt16.toUInt32.toInt32), iv ((p3 &&& (255 : Int32)).toUInt32.toUInt16.toUInt32.toInt32)] [(.ref b104), (.ref b103), (.ref b103)])) rfl (by rw [hml]; rfl) rfl (by show 2 * 0 + _ ≤ _; exact Nat.le_of_eq rfl) (hb hby own_d1_33)
      obtain ⟨rfl, N105q, K105, F105E⟩ := Q105
      have z105 := K105.1
      have N105 := Fr.app N0 N105q
      refine own_stW st105 ?_
      show own_GoesW p e below s _ _ (T105.setTop (mkF m 36 #[iv p0, iv p1, iv p2, iv p3, iv ((p2 &&& (255 : Int32)).toUInt32.toUInt16.toUInt32.toInt32), iv ((p3 &&& (255 : Int32)).toUInt32.toUInt16.toUInt32.toInt32)] [(.ref b103)]))
      have f110 := (f106.keep K105)
      exact own_retRW X105 hx hS (by omega) hlk hret rfl rfl (hb hby own_d1_36) (by decide) (by decide) ⟨_, rfl, Or.inr ⟨b103, rfl, f110⟩, N105, ((((Keep.refl h0 []).ext E103).ext E104).trans K105 (allS (Or.inr (by omega)) all0)), own_E.top F105E X105.warmed⟩
    · have c102i : ¬ p1.toInt = 0 := own_i_ne c102
      refine own_stW (fun _ k => XS.ifYes X.here hx rfl (pc0 := 23) (pc' := 37) rfl (hb hby own_d1_23) rfl ((if0 _ _).trans (feq c102).2) (by decide) (by decide) k) ?_
      show own_GoesW p e below s _ _ (T.setTop (mkF m 37 #[iv p0, iv p1, iv p2, iv p3, iv ((p2 &&& (255 : Int32)).toUInt32.toUInt16.toUInt32.toInt32), iv ((p3 &&& (255 : Int32)).toUInt32.toUInt16.toUInt32.toInt32)] []))
      refine own_stW (fun _ k => XS.iloadN X.here hx rfl (hb hby own_d1_37) rfl  k) ?_
      show own_GoesW p e below s _ _ (T.setTop (mkF m 38 #[iv p0, iv p1, iv p2, iv p3, iv ((p2 &&& (255 : Int32)).toUInt32.toUInt16.toUInt32.toInt32), iv ((p3 &&& (255 : Int32)).toUInt32.toUInt16.toUInt32.toInt32)] [(.int p1)]))
      refine own_stW (fun _ k => XS.iconst X.here hx rfl (hb hby own_d1_38) k) ?_
      show own_GoesW p e below s _ _ (T.setTop (mkF m 39 #[iv p0, iv p1, iv p2, iv p3, iv ((p2 &&& (255 : Int32)).toUInt32.toUInt16.toUInt32.toInt32), iv ((p3 &&& (255 : Int32)).toUInt32.toUInt16.toUInt32.toInt32)] [(.int (1 : Int32)), (.int p1)]))
      by_cases c111 : p1 = (1 : Int32)
      · have c111i : p1.toInt = 1 := own_i_eq c111
        refine own_stW (fun _ k => XS.icmpNo X.here hx rfl (hb hby own_d1_39) rfl (teq c111).2 k) ?_
        show own_GoesW p e below s _ _ (T.setTop (mkF m 42 #[iv p0, iv p1, iv p2, iv p3, iv ((p2 &&& (255 : Int32)).toUInt32.toUInt16.toUInt32.toInt32), iv ((p3 &&& (255 : Int32)).toUInt32.toUInt16.toUInt32.toInt32)] []))
        obtain ⟨T112, h112, X112, e112, E112, A112, D112, -, st112⟩ := newO X hx hZ hown (hw _ (List.mem_of_getElem? (i := 47) rfl)) (hw _ (List.mem_of_getElem? (i := 48) rfl)) (hw _ (List.mem_of_getElem? (i := 49) rfl)) e0 (g := (mkF m 42 #[iv p0, iv p1, iv p2, iv p3, iv ((p2 &&& (255 : Int32)).toUInt32.toUInt16.toUInt32.toInt32), iv ((p3 &&& (255 : Int32)).toUInt32.toUInt16.toUInt32.toInt32)] [])) rfl (hb hby own_d1_42) (by decide) (by decide)
        obtain ⟨b112, g112⟩ : ∃ z, z = h0.size := ⟨_, rfl⟩
        rw [← g112] at A112 D112 st112
        have y112 := own_lt A112.lt
        have z112 := E112.1
        have F112_coder : Fld Z h112 b112 "java/lang/String" "coder" "B" (.int (0 : Int32)) := D112 (Or.inr (hw _ (List.mem_of_getElem? (i := 72) rfl))) (ty := .byte) (by decide)
        have F112_value : Fld Z h112 b112 "java/lang/String" "value" "[B" .null := D112 (Or.inr (hw _ (List.mem_of_getElem? (i := 74) rfl))) (ty := (.array .byte)) (by decide)
        refine own_stW st112 ?_
        show own_GoesW p e below s _ _ (T112.setTop (mkF m 45 #[iv p0, iv p1, iv p2, iv p3, iv ((p2 &&& (255 : Int32)).toUInt32.toUInt16.toUInt32.toInt32), iv ((p3 &&& (255 : Int32)).toUInt32.toUInt16.toUInt32.toInt32)] [(.ref b112)]))
        refine own_stW (fun _ k => XS.dup X112.here hx rfl (hb hby own_d1_45) rfl rfl k) ?_
        show own_GoesW p e below s _ _ (T112.setTop (mkF m 46 #[iv p0, iv p1, iv p2, iv p3, iv ((p2 &&& (255 : Int32)).toUInt32.toUInt16.toUInt32.toInt32), iv ((p3 &&& (255 : Int32)).toUInt32.toUInt16.toUInt32.toInt32)] [(.ref b112), (.ref b112)]))
        refine own_stW (fun _ k => XS.iconst X112.here hx rfl (hb hby own_d1_46) k) ?_
        show own_GoesW p e below s _ _ (T112.setTop (mkF m 47 #[iv p0, iv p1, iv p2, iv p3, iv ((p2 &&& (255 : Int32)).toUInt32.toUInt16.toUInt32.toInt32), iv ((p3 &&& (255 : Int32)).toUInt32.toUInt16.toUInt32.toInt32)] [(.int (1 : Int32)), (.ref b112), (.ref b112)]))
        obtain ⟨T113, h113, X113, e113, E113, A113, st113⟩ := own_newP X112 hx hZ (aty := .char) (hw _ (List.mem_of_getElem? (i := 50) rfl)) e112 (g := (mkF m 47 #[iv p0, iv p1, iv p2, iv p3, iv ((p2 &&& (255 : Int32)).toUInt32.toUInt16.toUInt32.toInt32), iv ((p3 &&& (255 : Int32)).toUInt32.toUInt16.toUInt32.toInt32)] [(.int (1 : Int32)), (.ref b112), (.ref b112)])) rfl (hb hby own_d1_47) rfl (by decide) (cap := 1) (by decide) (by decide) (by decide) (by decide)
        obtain ⟨b113, g113⟩ : ∃ z, z = h112.size := ⟨_, rfl⟩
        rw [← g113] at A113 st113
        have V113 : own_Arf Z h113 b113 .char 1 (fun k => .int ((fun _ => (0 : Int32)) k)) := A113
        have y113 := own_lt V113.lt
        have z113 := E113.1
        refine own_stW st113 ?_
        show own_GoesW p e below s _ _ (T113.setTop (mkF m 49 #[iv p0, iv p1, iv p2, iv p3, iv ((p2 &&& (255 : Int32)).toUInt32.toUInt16.toUInt32.toInt32), iv ((p3 &&& (255 : Int32)).toUInt32.toUInt16.toUInt32.toInt32)] [(.ref b113), (.ref b112), (.ref b112)]))
        refine own_stW (fun _ k => XS.dup X113.here hx rfl (hb hby own_d1_49) rfl rfl k) ?_
        show own_GoesW p e below s _ _ (T113.setTop (mkF m 50 #[iv p0, iv p1, iv p2, iv p3, iv ((p2 &&& (255 : Int32)).toUInt32.toUInt16.toUInt32.toInt32), iv ((p3 &&& (255 : Int32)).toUInt32.toUInt16.toUInt32.toInt32)] [(.ref b113), (.ref b113), (.ref b112), (.ref b112)]))
        refine own_stW (fun _ k => XS.iconst X113.here hx rfl (hb hby own_d1_50) k) ?_
        show own_GoesW p e below s _ _ (T113.setTop (mkF m 51 #[iv p0, iv p1, iv p2, iv p3, iv ((p2 &&& (255 : Int32)).toUInt32.toUInt16.toUInt32.toInt32), iv ((p3 &&& (255 : Int32)).toUInt32.toUInt16.toUInt32.toInt32)] [(.int (0 : Int32)), (.ref b113), (.ref b113), (.ref b112), (.ref b112)]))
        refine own_stW (fun _ k => XS.iload X113.here hx rfl (hb hby own_d1_51) rfl  k) ?_
        show own_GoesW p e below s _ _ (T113.setTop (mkF m 53 #[iv p0, iv p1, iv p2, iv p3, iv ((p2 &&& (255 : Int32)).toUInt32.toUInt16.toUInt32.toInt32), iv ((p3 &&& (255 : Int32)).toUInt32.toUInt16.toUInt32.toInt32)] [(.int ((p2 &&& (255 : Int32)).toUInt32.toUInt16.toUInt32.toInt32)), (.int (0 : Int32)), (.ref b113), (.ref b113), (.ref b112), (.ref b112)]))
        obtain ⟨T114, h114, X114, e114, W114, A114, st114⟩ := own_stC X113 hx hZ e113 V113 (j := (0 : Int32)) (by decide) (g := (mkF m 53 #[iv p0, iv p1, iv p2, iv p3, iv ((p2 &&& (255 : Int32)).toUInt32.toUInt16.toUInt32.toInt32), iv ((p3 &&& (255 : Int32)).toUInt32.toUInt16.toUInt32.toInt32)] [(.int ((p2 &&& (255 : Int32)).toUInt32.toUInt16.toUInt32.toInt32)), (.int (0 : Int32)), (.ref b113), (.ref b113), (.ref b112), (.ref b112)])) rfl rfl (hb hby own_d1_53)
        have V114 : own_Arf Z h114 b113 .char 1 (fun k => .int ((fun k => if k = 0 then (nar .char ((p2 &&& (255 : Int32)).toUInt32.toUInt16.toUInt32.toInt32)) else (fun _ => (0 : Int32)) k) k)) := A114
        have z114 := W114.size
        have N114 := Fr.snoc X114 N0 (by omega)
        refine own_stW st114 ?_
        show own_GoesW p e below s _ _ (T114.setTop (mkF m 54 #[iv p0, iv p1, iv p2, iv p3, iv ((p2 &&& (255 : Int32)).toUInt32.toUInt16.toUInt32.toInt32), iv ((p3 &&& (255 : Int32)).toUInt32.toUInt16.toUInt32.toInt32)] [(.ref b113), (.ref b112), (.ref b112)]))
        have hch : ∀ j, j < 1 → 0 ≤ ((fun k => if k = 0 then (nar .char ((p2 &&& (255 : Int32)).toUInt32.toUInt16.toUInt32.toInt32)) else (fun _ => (0 : Int32)) k) j).toInt ∧ ((fun k => if k = 0 then (nar .char ((p2 &&& (255 : Int32)).toUInt32.toUInt16.toUInt32.toInt32)) else (fun _ => (0 : Int32)) k) j).toInt ≤ 255 := by
          intro j hj
          have q : j = 0 := by omega
          subst q
          · exact own_ch _ (own_m255 _)
        generalize (fun k => if k = 0 then (nar .char ((p2 &&& (255 : Int32)).toUInt32.toUInt16.toUInt32.toInt32)) else (fun _ => (0 : Int32)) k) = fc at V114 hch
        have f116 := ((A112.ext E113).wr W114)
        have f117 := ((F112_value.ext E113).other W114 (Or.inl (own_ne (by omega))))
        have f118 := ((F112_coder.ext E113).other W114 (Or.inl (own_ne (by omega))))
        have f119 := (((S1.ext E112).ext E113).wr W114)
        obtain ⟨v115, T115, L115, X115, Q115, st115⟩ := own_callI X114 hx hZ (y := (⟨"java/lang/String", "<init>", "([C)V"⟩ : MethodName)) hown (hw _ (List.mem_of_getElem? (i := 51) rfl)) (hw _ (List.mem_of_getElem? (i := 52) rfl)) (hw _ (List.mem_of_getElem? (i := 49) rfl)) (hw _ (List.mem_of_getElem? (i := 53) rfl)) rfl (by decide) (W := 1) (rest := [(.ref b112)]) (argsL := [(.ref b113)]) (a := b112) (rmS1 l Z a0 hw [] b112 b113 _ cs _ _  h114 n0 (by omega) f116 f117 f118 V114 hch f119 hcs (by omega) (by omega)) (by decide) (by decide) (by decide) (by decide) e114 own_pd4 rfl (g := (mkF m 54 #[iv p0, iv p1, iv p2, iv p3, iv ((p2 &&& (255 : Int32)).toUInt32.toUInt16.toUInt32.toInt32), iv ((p3 &&& (255 : Int32)).toUInt32.toUInt16.toUInt32.toInt32)] [(.ref b113), (.ref b112), (.ref b112)])) rfl (by rw [hml]; rfl) rfl (by show 2 * 0 + _ ≤ _; exact Nat.le_of_eq rfl) (hb hby own_d1_54)
        obtain ⟨rfl, N115q, K115, b115, g115, y115, A115, F115_value, F115_coder, V115⟩ := Q115
        have z115 := K115.1
        have N115 := Fr.app N114 N115q
        refine own_stW st115 ?_
        show own_GoesW p e below s _ _ (T115.setTop (mkF m 57 #[iv p0, iv p1, iv p2, iv p3, iv ((p2 &&& (255 : Int32)).toUInt32.toUInt16.toUInt32.toInt32), iv ((p3 &&& (255 : Int32)).toUInt32.toUInt16.toUInt32.toInt32)] [(.ref b112)]))
        exact own_retRW X115 hx hS (by omega) hlk hret rfl rfl (hb hby own_d1_57) (by decide) (by decide) ⟨_, rfl, Or.inr ⟨b112, rfl, A115⟩, N115, (((((Keep.refl h0 []).ext E112).ext E113).wr W114 (Or.inr (by omega))).trans K115 (allS (Or.inr (by omega)) all0)), own_E.top (F0.keep (((((Keep.refl h0 []).ext E112).ext E113).wr W114 (Or.inr (by omega))).trans K115 (allS (Or.inr (by omega)) all0)) (fun _ q => nomatch q)) X115.warmed⟩
      · have c111i : ¬ p1.toInt = 1 := own_i_ne c111
        refine own_stW (fun _ k => XS.icmpYes X.here hx rfl (pc0 := 39) (pc' := 58) rfl (hb hby own_d1_39) rfl (feq c111).2 (by decide) (by decide) k) ?_
        show own_GoesW p e below s _ _ (T.setTop (mkF m 58 #[iv p0, iv p1, iv p2, iv p3, iv ((p2 &&& (255 : Int32)).toUInt32.toUInt16.toUInt32.toInt32), iv ((p3 &&& (255 : Int32)).toUInt32.toUInt16.toUInt32.toInt32)] []))
        obtain ⟨T120, h120, X120, e120, E120, A120, D120, -, st120⟩ := newO X hx hZ hown (hw _ (List.mem_of_getElem? (i := 47) rfl)) (hw _ (List.mem_of_getElem? (i := 48) rfl)) (hw _ (List.mem_of_getElem? (i := 49) rfl)) e0 (g := (mkF m 58 #[iv p0, iv p1, iv p2, iv p3, iv ((p2 &&& (255 : Int32)).toUInt32.toUInt16.toUInt32.toInt32), iv ((p3 &&& (255 : Int32)).toUInt32.toUInt16.toUInt32.toInt32)] [])) rfl (hb hby own_d1_58) (by decide) (by decide)
        obtain ⟨b120, g120⟩ : ∃ z, z = h0.size := ⟨_, rfl⟩
        rw [← g120] at A120 D120 st120
        have y120 := own_lt A120.lt
        have z120 := E120.1
        have F120_coder : Fld Z h120 b120 "java/lang/String" "coder" "B" (.int (0 : Int32)) := D120 (Or.inr (hw _ (List.mem_of_getElem? (i := 72) rfl))) (ty := .byte) (by decide)
        have F120_value : Fld Z h120 b120 "java/lang/String" "value" "[B" .null := D120 (Or.inr (hw _ (List.mem_of_getElem? (i := 74) rfl))) (ty := (.array .byte)) (by decide)
        refine own_stW st120 ?_
        show own_GoesW p e below s _ _ (T120.setTop (mkF m 61 #[iv p0, iv p1, iv p2, iv p3, iv ((p2 &&& (255 : Int32)).toUInt32.toUInt16.toUInt32.toInt32), iv ((p3 &&& (255 : Int32)).toUInt32.toUInt16.toUInt32.toInt32)] [(.ref b120)]))
        refine own_stW (fun _ k => XS.dup X120.here hx rfl (hb hby own_d1_61) rfl rfl k) ?_
        show own_GoesW p e below s _ _ (T120.setTop (mkF m 62 #[iv p0, iv p1, iv p2, iv p3, iv ((p2 &&& (255 : Int32)).toUInt32.toUInt16.toUInt32.toInt32), iv ((p3 &&& (255 : Int32)).toUInt32.toUInt16.toUInt32.toInt32)] [(.ref b120), (.ref b120)]))
        refine own_stW (fun _ k => XS.iconst X120.here hx rfl (hb hby own_d1_62) k) ?_
        show own_GoesW p e below s _ _ (T120.setTop (mkF m 63 #[iv p0, iv p1, iv p2, iv p3, iv ((p2 &&& (255 : Int32)).toUInt32.toUInt16.toUInt32.toInt32), iv ((p3 &&& (255 : Int32)).toUInt32.toUInt16.toUInt32.toInt32)] [(.int (2 : Int32)), (.ref b120), (.ref b120)]))
        obtain ⟨T121, h121, X121, e121, E121, A121, st121⟩ := own_newP X120 hx hZ (aty := .char) (hw _ (List.mem_of_getElem? (i := 50) rfl)) e120 (g := (mkF m 63 #[iv p0, iv p1, iv p2, iv p3, iv ((p2 &&& (255 : Int32)).toUInt32.toUInt16.toUInt32.toInt32), iv ((p3 &&& (255 : Int32)).toUInt32.toUInt16.toUInt32.toInt32)] [(.int (2 : Int32)), (.ref b120), (.ref b120)])) rfl (hb hby own_d1_63) rfl (by decide) (cap := 2) (by decide) (by decide) (by decide) (by decide)
        obtain ⟨b121, g121⟩ : ∃ z, z = h120.size := ⟨_, rfl⟩
        rw [← g121] at A121 st121
        have V121 : own_Arf Z h121 b121 .char 2 (fun k => .int ((fun _ => (0 : Int32)) k)) := A121
        have y121 := own_lt V121.lt
        have z121 := E121.1
        refine own_stW st121 ?_
        show own_GoesW p e below s _ _ (T121.setTop (mkF m 65 #[iv p0, iv p1, iv p2, iv p3, iv ((p2 &&& (255 : Int32)).toUInt32.toUInt16.toUInt32.toInt32), iv ((p3 &&& (255 : Int32)).toUInt32.toUInt16.toUInt32.toInt32)] [(.ref b121), (.ref b120), (.ref b120)]))
        refine own_stW (fun _ k => XS.dup X121.here hx rfl (hb hby own_d1_65) rfl rfl k) ?_
        show own_GoesW p e below s _ _ (T121.setTop (mkF m 66 #[iv p0, iv p1, iv p2, iv p3, iv ((p2 &&& (255 : Int32)).toUInt32.toUInt16.toUInt32.toInt32), iv ((p3 &&& (255 : Int32)).toUInt32.toUInt16.toUInt32.toInt32)] [(.ref b121), (.ref b121), (.ref b120), (.ref b120)]))
        refine own_stW (fun _ k => XS.iconst X121.here hx rfl (hb hby own_d1_66) k) ?_
        show own_GoesW p e below s _ _ (T121.setTop (mkF m 67 #[iv p0, iv p1, iv p2, iv p3, iv ((p2 &&& (255 : Int32)).toUInt32.toUInt16.toUInt32.toInt32), iv ((p3 &&& (255 : Int32)).toUInt32.toUInt16.toUInt32.toInt32)] [(.int (0 : Int32)), (.ref b121), (.ref b121), (.ref b120), (.ref b120)]))
        refine own_stW (fun _ k => XS.iload X121.here hx rfl (hb hby own_d1_67) rfl  k) ?_
        show own_GoesW p e below s _ _ (T121.setTop (mkF m 69 #[iv p0, iv p1, iv p2, iv p3, iv ((p2 &&& (255 : Int32)).toUInt32.toUInt16.toUInt32.toInt32), iv ((p3 &&& (255 : Int32)).toUInt32.toUInt16.toUInt32.toInt32)] [(.int ((p2 &&& (255 : Int32)).toUInt32.toUInt16.toUInt32.toInt32)), (.int (0 : Int32)), (.ref b121), (.ref b121), (.ref b120), (.ref b120)]))
        obtain ⟨T122, h122, X122, e122, W122, A122, st122⟩ := own_stC X121 hx hZ e121 V121 (j := (0 : Int32)) (by decide) (g := (mkF m 69 #[iv p0, iv p1, iv p2, iv p3, iv ((p2 &&& (255 : Int32)).toUInt32.toUInt16.toUInt32.toInt32), iv ((p3 &&& (255 : Int32)).toUInt32.toUInt16.toUInt32.toInt32)] [(.int ((p2 &&& (255 : Int32)).toUInt32.toUInt16.toUInt32.toInt32)), (.int (0 : Int32)), (.ref b121), (.ref b121), (.ref b120), (.ref b120)])) rfl rfl (hb hby own_d1_69)
        have V122 : own_Arf Z h122 b121 .char 2 (fun k => .int ((fun k => if k = 0 then (nar .char ((p2 &&& (255 : Int32)).toUInt32.toUInt16.toUInt32.toInt32)) else (fun _ => (0 : Int32)) k) k)) := A122
        have z122 := W122.size
        have N122 := Fr.snoc X122 N0 (by omega)
        refine own_stW st122 ?_
        show own_GoesW p e below s _ _ (T122.setTop (mkF m 70 #[iv p0, iv p1, iv p2, iv p3, iv ((p2 &&& (255 : Int32)).toUInt32.toUInt16.toUInt32.toInt32), iv ((p3 &&& (255 : Int32)).toUInt32.toUInt16.toUInt32.toInt32)] [(.ref b121), (.ref b120), (.ref b120)]))
        refine own_stW (fun _ k => XS.dup X122.here hx rfl (hb hby own_d1_70) rfl rfl k) ?_
        show own_GoesW p e below s _ _ (T122.setTop (mkF m 71 #[iv p0, iv p1, iv p2, iv p3, iv ((p2 &&& (255 : Int32)).toUInt32.toUInt16.toUInt32.toInt32), iv ((p3 &&& (255 : Int32)).toUInt32.toUInt16.toUInt32.toInt32)] [(.ref b121), (.ref b121), (.ref b120), (.ref b120)]))
        refine own_stW (fun _ k => XS.iconst X122.here hx rfl (hb hby own_d1_71) k) ?_
        show own_GoesW p e below s _ _ (T122.setTop (mkF m 72 #[iv p0, iv p1, iv p2, iv p3, iv ((p2 &&& (255 : Int32)).toUInt32.toUInt16.toUInt32.toInt32), iv ((p3 &&& (255 : Int32)).toUInt32.toUInt16.toUInt32.toInt32)] [(.int (1 : Int32)), (.ref b121), (.ref b121), (.ref b120), (.ref b120)]))
        refine own_stW (fun _ k => XS.iload X122.here hx rfl (hb hby own_d1_72) rfl  k) ?_
        show own_GoesW p e below s _ _ (T122.setTop (mkF m 74 #[iv p0, iv p1, iv p2, iv p3, iv ((p2 &&& (255 : Int32)).toUInt32.toUInt16.toUInt32.toInt32), iv ((p3 &&& (255 : Int32)).toUInt32.toUInt16.toUInt32.toInt32)] [(.int ((p3 &&& (255 : Int32)).toUInt32.toUInt16.toUInt32.toInt32)), (.int (1 : Int32)), (.ref b121), (.ref b121), (.ref b120), (.ref b120)]))
        obtain ⟨T123, h123, X123, e123, W123, A123, st123⟩ := own_stC X122 hx hZ e122 V122 (j := (1 : Int32)) (by decide) (g := (mkF m 74 #[iv p0, iv p1, iv p2, iv p3, iv ((p2 &&& (255 : Int32)).toUInt32.toUInt16.toUInt32.toInt32), iv ((p3 &&& (255 : Int32)).toUInt32.toUInt16.toUInt32.toInt32)] [(.int ((p3 &&& (255 : Int32)).toUInt32.toUInt16.toUInt32.toInt32)), (.int (1 : Int32)), (.ref b121), (.ref b121), (.ref b120), (.ref b120)])) rfl rfl (hb hby own_d1_74)
        have V123 : own_Arf Z h123 b121 .char 2 (fun k => .int ((fun k => if k = 1 then (nar .char ((p3 &&& (255 : Int32)).toUInt32.toUInt16.toUInt32.toInt32)) else (fun k => if k = 0 then (nar .char ((p2 &&& (255 : Int32)).toUInt32.toUInt16.toUInt32.toInt32)) else (fun _ => (0 : Int32)) k) k) k)) := A123
        have z123 := W123.size
        have N123 := Fr.snoc X123 N122 (by omega)
        refine own_stW st123 ?_
        show own_GoesW p e below s _ _ (T123.setTop (mkF m 75 #[iv p0, iv p1, iv p2, iv p3, iv ((p2 &&& (255 : Int32)).toUInt32.toUInt16.toUInt32.toInt32), iv ((p3 &&& (255 : Int32)).toUInt32.toUInt16.toUInt32.toInt32)] [(.ref b121), (.ref b120), (.ref b120)]))
        have hch : ∀ j, j < 2 → 0 ≤ ((fun k => if k = 1 then (nar .char ((p3 &&& (255 : Int32)).toUInt32.toUInt16.toUInt32.toInt32)) else (fun k => if k = 0 then (nar .char ((p2 &&& (255 : Int32)).toUInt32.toUInt16.toUInt32.toInt32)) else (fun _ => (0 : Int32)) k) k) j).toInt ∧ ((fun k => if k = 1 then (nar .char ((p3 &&& (255 : Int32)).toUInt32.toUInt16.toUInt32.toInt32)) else (fun k => if k = 0 then (nar .char ((p2 &&& (255 : Int32)).toUInt32.toUInt16.toUInt32.toInt32)) else (fun _ => (0 : Int32)) k) k) j).toInt ≤ 255 := by
          intro j hj
          have q : j = 0 ∨ j = 1 := by omega
          rcases q with rfl | rfl
          · exact own_ch _ (own_m255 _)
          · exact own_ch _ (own_m255 _)
        generalize (fun k => if k = 1 then (nar .char ((p3 &&& (255 : Int32)).toUInt32.toUInt16.toUInt32.toInt32)) else (fun k => if k = 0 then (nar .char ((p2 &&& (255 : Int32)).toUInt32.toUInt16.toUInt32.toInt32)) else (fun _ => (0 : Int32)) k) k) = fc at V123 hch
        have f125 := (((A120.ext E121).wr W122).wr W123)
        have f126 := (((F120_value.ext E121).other W122 (Or.inl (own_ne (by omega)))).other W123 (Or.inl (own_ne (by omega))))
        have f127 := (((F120_coder.ext E121).other W122 (Or.inl (own_ne (by omega)))).other W123 (Or.inl (own_ne (by omega))))
        have f128 := ((((S1.ext E120).ext E121).wr W122).wr W123)
        obtain ⟨v124, T124, L124, X124, Q124, st124⟩ := own_callI X123 hx hZ (y := (⟨"java/lang/String", "<init>", "([C)V"⟩ : MethodName)) hown (hw _ (List.mem_of_getElem? (i := 51) rfl)) (hw _ (List.mem_of_getElem? (i := 52) rfl)) (hw _ (List.mem_of_getElem? (i := 49) rfl)) (hw _ (List.mem_of_getElem? (i := 53) rfl)) rfl (by decide) (W := 1) (rest := [(.ref b120)]) (argsL := [(.ref b121)]) (a := b120) (rmS2 l Z a0 hw [] b120 b121 _ cs _ _  h123 n0 (by omega) f125 f126 f127 V123 hch f128 hcs (by omega) (by omega)) (by decide) (by decide) (by decide) (by decide) e123 own_pd4 rfl (g := (mkF m 75 #[iv p0, iv p1, iv p2, iv p3, iv ((p2 &&& (255 : Int32)).toUInt32.toUInt16.toUInt32.toInt32), iv ((p3 &&& (255 : Int32)).toUInt32.toUInt16.toUInt32.toInt32)] [(.ref b121), (.ref b120), (.ref b120)])) rfl (by rw [hml]; rfl) rfl (by show 2 * 0 + _ ≤ _; exact Nat.le_of_eq rfl) (hb hby own_d1_75)
        obtain ⟨rfl, N124q, K124, b124, g124, y124, A124, F124_value, F124_coder, V124⟩ := Q124
        have z124 := K124.1
        have N124 := Fr.app N123 N124q
        refine own_stW st124 ?_
        show own_GoesW p e below s _ _ (T124.setTop (mkF m 78 #[iv p0, iv p1, iv p2, iv p3, iv ((p2 &&& (255 : Int32)).toUInt32.toUInt16.toUInt32.toInt32), iv ((p3 &&& (255 : Int32)).toUInt32.toUInt16.toUInt32.toInt32)] [(.ref b120)]))
        exact own_retRW X124 hx hS (by omega) hlk hret rfl rfl (hb hby own_d1_78) (by decide) (by decide) ⟨_, rfl, Or.inr ⟨b120, rfl, A124⟩, N124, ((((((Keep.refl h0 []).ext E120).ext E121).wr W122 (Or.inr (by omega))).wr W123 (Or.inr (by omega))).trans K124 (allS (Or.inr (by omega)) all0)), own_E.top (F0.keep ((((((Keep.refl h0 []).ext E120).ext E121).wr W122 (Or.inr (by omega))).wr W123 (Or.inr (by omega))).trans K124 (allS (Or.inr (by omega)) all0)) (fun _ q => nomatch q)) X124.warmed⟩
theorem own_pn6 : plainFor (⟨"jakarta/faces/application/FacesMessage", "requireSeverity", "(Ljakarta/faces/application/FacesMessage$Severity;)Ljakarta/faces/application/FacesMessage$Severity;"⟩ : MethodName) = true := by first | exact plainFor_of_name (by simp [plainName, overriddenIn]; done) | decide +kernel
theorem own_d5_0 : decode prog_23_method_13_code 0 = .ok (.aload_n 0, 1) := by decide +kernel
theorem own_d5_1 : decode prog_23_method_13_code 1 = .ok (.ifnonnull 13, 3) := by decide +kernel
theorem own_d5_14 : decode prog_23_method_13_code 14 = .ok (.aload_n 0, 1) := by decide +kernel
theorem own_d5_15 : decode prog_23_method_13_code 15 = .ok (.areturn, 1) := by decide +kernel
theorem own_ef_rmRS (m : MethodId) (a1 : Nat) : entryFrame m #[(.ref a1)] 1 = mkF m 0 #[rv a1] [] := by first | (simp [entryFrame, mkF, argsToLocals, Value.category, maxLocals]; done) | rfl
abbrev own_Q_rmRS (Z : State) (a1 : Nat) (h0 : Heap) (n0 : Nat) (v : Option Value) (h : Heap) (L : List Loc) : Prop := v = some (.ref a1) ∧ Fr n0 L ∧ h = h0
set_option maxRecDepth 65536 in
set_option maxHeartbeats 40000000 in
theorem rmRS (l : Launch) (Z : State) (a0 : Array Value) (hw : ∀ d ∈ tables_1, d.before a0 Z = true) (ws : List Jvm.Cond) (a1 : Nat) (h0 : Heap) (n0 : Nat) (Z0 : n0 ≤ h0.size) :
    MetFree l (⟨"jakarta/faces/application/FacesMessage", "requireSeverity", "(Ljakarta/faces/application/FacesMessage$Severity;)Ljakarta/faces/application/FacesMessage$Severity;"⟩ : MethodName) (head1 (Jvm.Cond.code (⟨"jakarta/faces/application/FacesMessage", "requireSeverity", "(Ljakarta/faces/application/FacesMessage$Severity;)Ljakarta/faces/application/FacesMessage$Severity;"⟩ : MethodName) prog_23_method_13_code 1 (some (.object "jakarta/faces/application/FacesMessage$Severity")) :: ws) ({ frames := 0, cells := 0, slots := 0, locals := 0 } : Room)) (fun a U => a = #[(.ref a1)] ∧ Z.Warmed39 U.vm ∧ U.heap = h0) (fun _ _ _ _ _ => True) (fun _ U o U' => ∃ v L, o = .returned v ∧ own_Q_rmRS Z a1 h0 n0 v U'.heap L ∧ FrameEnd U o U' L ({ frames := 0, cells := 0, slots := 0, locals := 0 } : Room).cells ({ frames := 0, cells := 0, slots := 0, locals := 0 } : Room).slots) := by
  refine own_enter (Q := fun v h L => own_Q_rmRS Z a1 h0 n0 v h L) (F := fun m => mkF m 0 #[rv a1] []) own_pn6 (fun m => own_ef_rmRS m a1) ?_
  intro p e s m below meth c T X hx hby hml hret hlk hnm hown hZ e0
  show own_Goes p e below s _ _ (T.setTop (mkF m 0 #[rv a1] []))
  have N0 := Fr.nil n0
  refine own_st (fun _ k => XS.aloadN X.here hx rfl (hb hby own_d5_0) rfl rfl  k) ?_
  show own_Goes p e below s _ _ (T.setTop (mkF m 1 #[rv a1] [(.ref a1)]))
  refine own_st (fun _ k => XS.ifnonnullYes X.here hx rfl (pc0 := 1) (pc' := 14) rfl (hb hby own_d5_1) rfl (by decide) (by decide) k) ?_
  show own_Goes p e below s _ _ (T.setTop (mkF m 14 #[rv a1] []))
  refine own_st (fun _ k => XS.aloadN X.here hx rfl (hb hby own_d5_14) rfl rfl  k) ?_
  show own_Goes p e below s _ _ (T.setTop (mkF m 15 #[rv a1] [(.ref a1)]))
  exact own_retR X hx hlk hret rfl rfl (hb hby own_d5_15) (by decide) (by decide) ⟨rfl, N0, e0⟩
theorem own_pn7 : plainFor (⟨"jakarta/faces/application/FacesMessage", "<init>", "(Ljakarta/faces/application/FacesMessage$Severity;Ljava/lang/String;Ljava/lang/String;)V"⟩ : MethodName) = true := by first | exact plainFor_of_name (by simp [plainName, overriddenIn]; done) | decide +kernel
theorem own_d3_0 : decode prog_23_method_4_code 0 = .ok (.aload_n 0, 1) := by decide +kernel
theorem own_d3_1 : decode prog_23_method_4_code 1 = .ok (.invokespecial 11, 3) := by decide +kernel
theorem own_d3_4 : decode prog_23_method_4_code 4 = .ok (.aload_n 0, 1) := by decide +kernel
theorem own_d3_5 : decode prog_23_method_4_code 5 = .ok (.aload_n 1, 1) := by decide +kernel
theorem own_d3_6 : decode prog_23_method_4_code 6 = .ok (.invokestatic 16, 3) := by decide +kernel
theorem own_pd5 : parseMethodDescriptor "(Ljakarta/faces/application/FacesMessage$Severity;)Ljakarta/faces/application/FacesMessage$Severity;" = some ⟨[(.object "jakarta/faces/application/FacesMessage$Severity")], some (.object "jakarta/faces/application/FacesMessage$Severity")⟩ := by decide +kernel
theorem own_d3_9 : decode prog_23_method_4_code 9 = .ok (.putfield 20, 3) := by decide +kernel
theorem own_d3_12 : decode prog_23_method_4_code 12 = .ok (.aload_n 0, 1) := by decide +kernel
theorem own_d3_13 : decode prog_23_method_4_code 13 = .ok (.aload_n 2, 1) := by decide +kernel
theorem own_d3_14 : decode prog_23_method_4_code 14 = .ok (.putfield 23, 3) := by decide +kernel
theorem own_d3_17 : decode prog_23_method_4_code 17 = .ok (.aload_n 0, 1) := by decide +kernel
theorem own_d3_18 : decode prog_23_method_4_code 18 = .ok (.aload_n 3, 1) := by decide +kernel
theorem own_d3_19 : decode prog_23_method_4_code 19 = .ok (.putfield 27, 3) := by decide +kernel
theorem own_d3_22 : decode prog_23_method_4_code 22 = .ok (.return_, 1) := by decide +kernel
theorem own_ef_rmI3 (m : MethodId) (a1 : Nat) (sv : Nat) : entryFrame m #[(.ref a1), (.ref sv), .null, .null] 4 = mkF m 0 #[rv a1, rv sv, .val .null, .val .null] [] := by first | (simp [entryFrame, mkF, argsToLocals, Value.category, maxLocals]; done) | rfl
abbrev own_Q_rmI3 (Z : State) (a1 : Nat) (sv : Nat) (u_severity : Value) (u_summary : Value) (u_detail : Value) (h0 : Heap) (n0 : Nat) (v : Option Value) (h : Heap) (L : List Loc) : Prop := v = none ∧ Fr n0 L ∧ Keep h0 h [a1] ∧ Exa Z h a1 "jakarta/faces/application/FacesMessage" ∧ Fld Z h a1 "jakarta/faces/application/FacesMessage" "summary" "Ljava/lang/String;" .null ∧ Fld Z h a1 "jakarta/faces/application/FacesMessage" "detail" "Ljava/lang/String;" .null
set_option maxRecDepth 65536 in
set_option maxHeartbeats 40000000 in
theorem rmI3 (l : Launch) (Z : State) (a0 : Array Value) (hw : ∀ d ∈ tables_1, d.before a0 Z = true) (ws : List Jvm.Cond) (a1 : Nat) (sv : Nat) (u_severity : Value) (u_summary : Value) (u_detail : Value) (h0 : Heap) (n0 : Nat) (Z0 : n0 ≤ h0.size) (E1 : Exa Z h0 a1 "jakarta/faces/application/FacesMessage") (F_severity : Fld Z h0 a1 "jakarta/faces/application/FacesMessage" "severity" "Ljakarta/faces/application/FacesMessage$Severity;" u_severity) (F_summary : Fld Z h0 a1 "jakarta/faces/application/FacesMessage" "summary" "Ljava/lang/String;" u_summary) (F_detail : Fld Z h0 a1 "jakarta/faces/application/FacesMessage" "detail" "Ljava/lang/String;" u_detail) (g1 : n0 ≤ a1) :
    MetFree l (⟨"jakarta/faces/application/FacesMessage", "<init>", "(Ljakarta/faces/application/FacesMessage$Severity;Ljava/lang/String;Ljava/lang/String;)V"⟩ : MethodName) (head1 (Jvm.Cond.code (⟨"jakarta/faces/application/FacesMessage", "<init>", "(Ljakarta/faces/application/FacesMessage$Severity;Ljava/lang/String;Ljava/lang/String;)V"⟩ : MethodName) prog_23_method_4_code 4 none :: ws) ({ frames := 1, cells := 0, slots := 0, locals := 15 } : Room)) (fun a U => a = #[(.ref a1), (.ref sv), .null, .null] ∧ Z.Warmed39 U.vm ∧ U.heap = h0) (fun _ _ _ _ _ => True) (fun _ U o U' => ∃ v L, o = .returned v ∧ own_Q_rmI3 Z a1 sv u_severity u_summary u_detail h0 n0 v U'.heap L ∧ FrameEnd U o U' L ({ frames := 1, cells := 0, slots := 0, locals := 15 } : Room).cells ({ frames := 1, cells := 0, slots := 0, locals := 15 } : Room).slots) := by
  refine own_enter (Q := fun v h L => own_Q_rmI3 Z a1 sv u_severity u_summary u_detail h0 n0 v h L) (F := fun m => mkF m 0 #[rv a1, rv sv, .val .null, .val .null] []) own_pn7 (fun m => own_ef_rmI3 m a1 sv) ?_
  intro p e s m below meth c T X hx hby hml hret hlk hnm hown hZ e0
  show own_Goes p e below s _ _ (T.setTop (mkF m 0 #[rv a1, rv sv, .val .null, .val .null] []))
  have N0 := Fr.nil n0
  refine own_st (fun _ k => XS.aloadN X.here hx rfl (hb hby own_d3_0) rfl rfl  k) ?_
  show own_Goes p e below s _ _ (T.setTop (mkF m 1 #[rv a1, rv sv, .val .null, .val .null] [(.ref a1)]))
  obtain ⟨T101, X101, e101, st101⟩ := initO X hx hZ hown (hw _ (List.mem_of_getElem? (i := 15) rfl)) (hw _ (List.mem_of_getElem? (i := 16) rfl)) (hw _ (List.mem_of_getElem? (i := 17) rfl)) e0 (g := (mkF m 1 #[rv a1, rv sv, .val .null, .val .null] [(.ref a1)])) rfl (by rw [hml]; rfl) rfl (hb hby own_d3_1) (by decide) (W := 0) (by show 2 * 0 + _ ≤ _; exact Nat.le_of_eq rfl) (by decide)
  refine own_st st101 ?_
  show own_Goes p e below s _ _ (T101.setTop (mkF m 4 #[rv a1, rv sv, .val .null, .val .null] []))
  refine own_st (fun _ k => XS.aloadN X101.here hx rfl (hb hby own_d3_4) rfl rfl  k) ?_
  show own_Goes p e below s _ _ (T101.setTop (mkF m 5 #[rv a1, rv sv, .val .null, .val .null] [(.ref a1)]))
  refine own_st (fun _ k => XS.aloadN X101.here hx rfl (hb hby own_d3_5) rfl rfl  k) ?_
  show own_Goes p e below s _ _ (T101.setTop (mkF m 6 #[rv a1, rv sv, .val .null, .val .null] [(.ref sv), (.ref a1)]))
  obtain ⟨v102, T102, L102, X102, Q102, st102⟩ := own_callS X101 hx hZ (y := (⟨"jakarta/faces/application/FacesMessage", "requireSeverity", "(Ljakarta/faces/application/FacesMessage$Severity;)Ljakarta/faces/application/FacesMessage$Severity;"⟩ : MethodName)) hown (hw _ (List.mem_of_getElem? (i := 18) rfl)) (hw _ (List.mem_of_getElem? (i := 19) rfl)) (hw _ (List.mem_of_getElem? (i := 6) rfl)) (hw _ (List.mem_of_getElem? (i := 20) rfl)) (by decide) (W := 1) (rest := [(.ref a1)]) (argsL := [(.ref sv)]) (rmRS l Z a0 hw [] sv h0 n0 (by omega)) (by decide) (by decide) (by decide) (by decide) e101 own_pd5 rfl (g := (mkF m 6 #[rv a1, rv sv, .val .null, .val .null] [(.ref sv), (.ref a1)])) rfl (by rw [hml]; rfl) rfl (by show 2 * 0 + _ ≤ _; exact Nat.le_of_eq rfl) (hb hby own_d3_6)
  obtain ⟨rfl, N102q, e102⟩ := Q102
  have N102 := Fr.app N0 N102q
  refine own_st st102 ?_
  show own_Goes p e below s _ _ (T102.setTop (mkF m 9 #[rv a1, rv sv, .val .null, .val .null] [(.ref sv), (.ref a1)]))
  obtain ⟨T103, h103, X103, e103, W103, st103⟩ := putF X102 hx hZ hown (host := "") (Or.inl (hw _ (List.mem_of_getElem? (i := 21) rfl))) Via.refl e102 F_severity E1 (Or.inl (hw _ (List.mem_of_getElem? (i := 22) rfl))) (hw _ (List.mem_of_getElem? (i := 5) rfl)) (ty := (.object "jakarta/faces/application/FacesMessage$Severity")) (by decide) rfl rfl (g := (mkF m 9 #[rv a1, rv sv, .val .null, .val .null] [(.ref sv), (.ref a1)])) rfl rfl (hb hby own_d3_9)
  have z103 := W103.size
  have N103 := Fr.snoc X103 N102 (by omega)
  have F103 := F_severity.same W103
  refine own_st st103 ?_
  show own_Goes p e below s _ _ (T103.setTop (mkF m 12 #[rv a1, rv sv, .val .null, .val .null] []))
  refine own_st (fun _ k => XS.aloadN X103.here hx rfl (hb hby own_d3_12) rfl rfl  k) ?_
  show own_Goes p e below s _ _ (T103.setTop (mkF m 13 #[rv a1, rv sv, .val .null, .val .null] [(.ref a1)]))
  refine own_st (fun _ k => XS.aloadN X103.here hx rfl (hb hby own_d3_13) rfl rfl  k) ?_
  show own_Goes p e below s _ _ (T103.setTop (mkF m 14 #[rv a1, rv sv, .val .null, .val .null] [.null, (.ref a1)]))
  have f104 := (F_summary.other W103 (Or.inr (slot_ne (Or.inl (hw _ (List.mem_of_getElem? (i := 24) rfl))) (Or.inl (hw _ (List.mem_of_getElem? (i := 22) rfl))) (by decide) (t := (.object "java/lang/String")) (t' := (.object "jakarta/faces/application/FacesMessage$Severity")) (by decide) (by decide))))
  have f105 := (E1.wr W103)
  obtain ⟨T106, h106, X106, e106, W106, st106⟩ := putF X103 hx hZ hown (host := "") (Or.inl (hw _ (List.mem_of_getElem? (i := 23) rfl))) Via.refl e103 f104 f105 (Or.inl (hw _ (List.mem_of_getElem? (i := 24) rfl))) (hw _ (List.mem_of_getElem? (i := 5) rfl)) (ty := (.object "java/lang/String")) (by decide) rfl rfl (g := (mkF m 14 #[rv a1, rv sv, .val .null, .val .null] [.null, (.ref a1)])) rfl rfl (hb hby own_d3_14)
  have z106 := W106.size
  have N106 := Fr.snoc X106 N103 (by omega)
  have F106 := f104.same W106
  refine own_st st106 ?_
  show own_Goes p e below s _ _ (T106.setTop (mkF m 17 #[rv a1, rv sv, .val .null, .val .null] []))
  refine own_st (fun _ k => XS.aloadN X106.here hx rfl (hb hby own_d3_17) rfl rfl  k) ?_
  show own_Goes p e below s _ _ (T106.setTop (mkF m 18 #[rv a1, rv sv, .val .null, .val .null] [(.ref a1)]))
  refine own_st (fun _ k => XS.aloadN X106.here hx rfl (hb hby own_d3_18) rfl rfl  k) ?_
  show own_Goes p e below s _ _ (T106.setTop (mkF m 19 #[rv a1, rv sv, .val .null, .val .null] [.null, (.ref a1)]))
  have f107 := ((F_detail.other W103 (Or.inr (slot_ne (Or.inl (hw _ (List.mem_of_getElem? (i := 26) rfl))) (Or.inl (hw _ (List.mem_of_getElem? (i := 22) rfl))) (by decide) (t := (.object "java/lang/String")) (t' := (.object "jakarta/faces/application/FacesMessage$Severity")) (by decide) (by decide)))).other W106 (Or.inr (slot_ne (Or.inl (hw _ (List.mem_of_getElem? (i := 26) rfl))) (Or.inl (hw _ (List.mem_of_getElem? (i := 24) rfl))) (by decide) (t := (.object "java/lang/String")) (t' := (.object "java/lang/String")) (by decide) (by decide))))
  have f108 := (f105.wr W106)
  obtain ⟨T109, h109, X109, e109, W109, st109⟩ := putF X106 hx hZ hown (host := "") (Or.inl (hw _ (List.mem_of_getElem? (i := 25) rfl))) Via.refl e106 f107 f108 (Or.inl (hw _ (List.mem_of_getElem? (i := 26) rfl))) (hw _ (List.mem_of_getElem? (i := 5) rfl)) (ty := (.object "java/lang/String")) (by decide) rfl rfl (g := (mkF m 19 #[rv a1, rv sv, .val .null, .val .null] [.null, (.ref a1)])) rfl rfl (hb hby own_d3_19)
  have z109 := W109.size
  have N109 := Fr.snoc X109 N106 (by omega)
  have F109 := f107.same W109
  refine own_st st109 ?_
  show own_Goes p e below s _ _ (T109.setTop (mkF m 22 #[rv a1, rv sv, .val .null, .val .null] []))
  have f110 := (f108.wr W109)
  have f111 := (F106.other W109 (Or.inr (slot_ne (Or.inl (hw _ (List.mem_of_getElem? (i := 24) rfl))) (Or.inl (hw _ (List.mem_of_getElem? (i := 26) rfl))) (by decide) (t := (.object "java/lang/String")) (t' := (.object "java/lang/String")) (by decide) (by decide))))
  exact own_ret0 X109 hx hlk hret (hb hby own_d3_22) (by decide) (by decide) ⟨rfl, N109, by rw [e109]; exact ((((Keep.refl h0 [a1]).wr W103 (Or.inl (by simp))).wr W106 (Or.inl (by simp))).wr W109 (Or.inl (by simp))), by rw [e109]; exact f110, by rw [e109]; exact f111, by rw [e109]; exact F109⟩
theorem own_pn8 : plainFor (⟨"jakarta/faces/application/FacesMessage", "<init>", "()V"⟩ : MethodName) = true := by first | exact plainFor_of_name (by simp [plainName, overriddenIn]; done) | decide +kernel
theorem own_d2_0 : decode prog_23_method_1_code 0 = .ok (.aload_n 0, 1) := by decide +kernel
theorem own_d2_1 : decode prog_23_method_1_code 1 = .ok (.getstatic 1, 3) := by decide +kernel
theorem own_d2_4 : decode prog_23_method_1_code 4 = .ok (.aconst_null, 1) := by decide +kernel
theorem own_d2_5 : decode prog_23_method_1_code 5 = .ok (.aconst_null, 1) := by decide +kernel
theorem own_d2_6 : decode prog_23_method_1_code 6 = .ok (.invokespecial 7, 3) := by decide +kernel
theorem own_pd6 : parseMethodDescriptor "(Ljakarta/faces/application/FacesMessage$Severity;Ljava/lang/String;Ljava/lang/String;)V" = some ⟨[(.object "jakarta/faces/application/FacesMessage$Severity"), (.object "java/lang/String"), (.object "java/lang/String")], none⟩ := by decide +kernel
theorem own_d2_9 : decode prog_23_method_1_code 9 = .ok (.return_, 1) := by decide +kernel
theorem own_ef_rmI0 (m : MethodId) (a1 : Nat) : entryFrame m #[(.ref a1)] 1 = mkF m 0 #[rv a1] [] := by first | (simp [entryFrame, mkF, argsToLocals, Value.category, maxLocals]; done) | rfl
abbrev own_Q_rmI0 (Z : State) (a1 : Nat) (sv : Nat) (u_severity : Value) (u_summary : Value) (u_detail : Value) (h0 : Heap) (n0 : Nat) (v : Option Value) (h : Heap) (L : List Loc) : Prop := v = none ∧ Fr n0 L ∧ Keep h0 h [a1] ∧ Exa Z h a1 "jakarta/faces/application/FacesMessage" ∧ Fld Z h a1 "jakarta/faces/application/FacesMessage" "summary" "Ljava/lang/String;" .null ∧ Fld Z h a1 "jakarta/faces/application/FacesMessage" "detail" "Ljava/lang/String;" .null
set_option maxRecDepth 65536 in
set_option maxHeartbeats 40000000 in
theorem rmI0 (l : Launch) (Z : State) (a0 : Array Value) (hw : ∀ d ∈ tables_1, d.before a0 Z = true) (ws : List Jvm.Cond) (a1 : Nat) (sv : Nat) (u_severity : Value) (u_summary : Value) (u_detail : Value) (h0 : Heap) (n0 : Nat) (Z0 : n0 ≤ h0.size) (E1 : Exa Z h0 a1 "jakarta/faces/application/FacesMessage") (F_severity : Fld Z h0 a1 "jakarta/faces/application/FacesMessage" "severity" "Ljakarta/faces/application/FacesMessage$Severity;" u_severity) (F_summary : Fld Z h0 a1 "jakarta/faces/application/FacesMessage" "summary" "Ljava/lang/String;" u_summary) (F_detail : Fld Z h0 a1 "jakarta/faces/application/FacesMessage" "detail" "Ljava/lang/String;" u_detail) (g1 : n0 ≤ a1) (S1 : Sta Z h0 "jakarta/faces/application/FacesMessage" "SEVERITY_INFO" "Ljakarta/faces/application/FacesMessage$Severity;" (.ref sv)) :
    MetFree l (⟨"jakarta/faces/application/FacesMessage", "<init>", "()V"⟩ : MethodName) (head1 (Jvm.Cond.code (⟨"jakarta/faces/application/FacesMessage", "<init>", "()V"⟩ : MethodName) prog_23_method_1_code 1 none :: ws) ({ frames := 2, cells := 0, slots := 0, locals := 32 } : Room)) (fun a U => a = #[(.ref a1)] ∧ Z.Warmed39 U.vm ∧ U.heap = h0) (fun _ _ _ _ _ => True) (fun _ U o U' => ∃ v L, o = .returned v ∧ own_Q_rmI0 Z a1 sv u_severity u_summary u_detail h0 n0 v U'.heap L ∧ FrameEnd U o U' L ({ frames := 2, cells := 0, slots := 0, locals := 32 } : Room).cells ({ frames := 2, cells := 0, slots := 0, locals := 32 } : Room).slots) := by
  refine own_enter (Q := fun v h L => own_Q_rmI0 Z a1 sv u_severity u_summary u_detail h0 n0 v h L) (F := fun m => mkF m 0 #[rv a1] []) own_pn8 (fun m => own_ef_rmI0 m a1) ?_
  intro p e s m below meth c T X hx hby hml hret hlk hnm hown hZ e0
  show own_Goes p e below s _ _ (T.setTop (mkF m 0 #[rv a1] []))
  have N0 := Fr.nil n0
  refine own_st (fun _ k => XS.aloadN X.here hx rfl (hb hby own_d2_0) rfl rfl  k) ?_
  show own_Goes p e below s _ _ (T.setTop (mkF m 1 #[rv a1] [(.ref a1)]))
  obtain ⟨T101, X101, e101, st101⟩ := getS2 X hx hZ hown (host := "") (Or.inl (hw _ (List.mem_of_getElem? (i := 10) rfl))) Via.refl e0 S1 (g := (mkF m 1 #[rv a1] [(.ref a1)])) rfl (hb hby own_d2_1)
  refine own_st st101 ?_
  show own_Goes p e below s _ _ (T101.setTop (mkF m 4 #[rv a1] [(.ref sv), (.ref a1)]))
  refine own_st (fun _ k => XS.aconstNull X101.here hx rfl (hb hby own_d2_4) k) ?_
  show own_Goes p e below s _ _ (T101.setTop (mkF m 5 #[rv a1] [.null, (.ref sv), (.ref a1)]))
  refine own_st (fun _ k => XS.aconstNull X101.here hx rfl (hb hby own_d2_5) k) ?_
  show own_Goes p e below s _ _ (T101.setTop (mkF m 6 #[rv a1] [.null, .null, (.ref sv), (.ref a1)]))
  obtain ⟨v102, T102, L102, X102, Q102, st102⟩ := own_callI X101 hx hZ (y := (⟨"jakarta/faces/application/FacesMessage", "<init>", "(Ljakarta/faces/application/FacesMessage$Severity;Ljava/lang/String;Ljava/lang/String;)V"⟩ : MethodName)) hown (hw _ (List.mem_of_getElem? (i := 12) rfl)) (hw _ (List.mem_of_getElem? (i := 13) rfl)) (hw _ (List.mem_of_getElem? (i := 6) rfl)) (hw _ (List.mem_of_getElem? (i := 14) rfl)) rfl (by decide) (W := 0) (rest := []) (argsL := [(.ref sv), .null, .null]) (a := a1) (rmI3 l Z a0 hw [] a1 sv _ _ _  h0 n0 (by omega) E1 F_severity F_summary F_detail (by omega)) (by decide) (by decide) (by decide) (by decide) e101 own_pd6 rfl (g := (mkF m 6 #[rv a1] [.null, .null, (.ref sv), (.ref a1)])) rfl (by rw [hml]; rfl) rfl (by show 2 * 0 + _ ≤ _; exact Nat.le_of_eq rfl) (hb hby own_d2_6)
  obtain ⟨rfl, N102q, K102, A102, Fs102, Fd102⟩ := Q102
  have z102 := K102.1
  have N102 := Fr.app N0 N102q
  refine own_st st102 ?_
  show own_Goes p e below s _ _ (T102.setTop (mkF m 9 #[rv a1] []))
  exact own_ret0 X102 hx hlk hret (hb hby own_d2_9) (by decide) (by decide) ⟨rfl, N102, ((Keep.refl h0 [a1]).trans K102 (allS (Or.inl (by simp)) all0)), A102, Fs102, Fd102⟩
theorem own_pn9 : plainFor (⟨"jakarta/faces/application/FacesMessage", "setSummary", "(Ljava/lang/String;)V"⟩ : MethodName) = true := by first | exact plainFor_of_name (by simp [plainName, overriddenIn]; done) | decide +kernel
theorem own_d6_0 : decode prog_23_method_8_code 0 = .ok (.aload_n 0, 1) := by decide +kernel
theorem own_d6_1 : decode prog_23_method_8_code 1 = .ok (.aload_n 1, 1) := by decide +kernel
theorem own_d6_2 : decode prog_23_method_8_code 2 = .ok (.putfield 23, 3) := by decide +kernel
theorem own_d6_5 : decode prog_23_method_8_code 5 = .ok (.return_, 1) := by decide +kernel
theorem own_ef_rmSS (m : MethodId) (a1 : Nat) (w2 : Value) (h_w2 : w2.isRef = true) : entryFrame m #[(.ref a1), w2] 2 = mkF m 0 #[rv a1, .val w2] [] := by
  rcases ref_cases h_w2 with rfl | ⟨_, rfl⟩
  all_goals first | (simp [entryFrame, mkF, argsToLocals, Value.category, maxLocals]; done) | rfl
abbrev own_Q_rmSS (Z : State) (a1 : Nat) (w2 : Value) (u_summary : Value) (u_detail : Value) (h0 : Heap) (n0 : Nat) (v : Option Value) (h : Heap) (L : List Loc) : Prop := v = none ∧ Fr n0 L ∧ Keep h0 h [a1] ∧ Exa Z h a1 "jakarta/faces/application/FacesMessage" ∧ Fld Z h a1 "jakarta/faces/application/FacesMessage" "summary" "Ljava/lang/String;" w2 ∧ Fld Z h a1 "jakarta/faces/application/FacesMessage" "detail" "Ljava/lang/String;" u_detail
set_option maxRecDepth 65536 in
set_option maxHeartbeats 40000000 in
theorem rmSS (l : Launch) (Z : State) (a0 : Array Value) (hw : ∀ d ∈ tables_1, d.before a0 Z = true) (ws : List Jvm.Cond) (a1 : Nat) (w2 : Value) (u_summary : Value) (u_detail : Value) (h0 : Heap) (n0 : Nat) (Z0 : n0 ≤ h0.size) (h_w2 : w2.isRef = true) (E1 : Exa Z h0 a1 "jakarta/faces/application/FacesMessage") (F_summary : Fld Z h0 a1 "jakarta/faces/application/FacesMessage" "summary" "Ljava/lang/String;" u_summary) (F_detail : Fld Z h0 a1 "jakarta/faces/application/FacesMessage" "detail" "Ljava/lang/String;" u_detail) (g1 : n0 ≤ a1) :
    MetFree l (⟨"jakarta/faces/application/FacesMessage", "setSummary", "(Ljava/lang/String;)V"⟩ : MethodName) (head1 (Jvm.Cond.code (⟨"jakarta/faces/application/FacesMessage", "setSummary", "(Ljava/lang/String;)V"⟩ : MethodName) prog_23_method_8_code 2 none :: ws) ({ frames := 0, cells := 0, slots := 0, locals := 0 } : Room)) (fun a U => a = #[(.ref a1), w2] ∧ Z.Warmed39 U.vm ∧ U.heap = h0) (fun _ _ _ _ _ => True) (fun _ U o U' => ∃ v L, o = .returned v ∧ own_Q_rmSS Z a1 w2 u_summary u_detail h0 n0 v U'.heap L ∧ FrameEnd U o U' L ({ frames := 0, cells := 0, slots := 0, locals := 0 } : Room).cells ({ frames := 0, cells := 0, slots := 0, locals := 0 } : Room).slots) := by
  refine own_enter (Q := fun v h L => own_Q_rmSS Z a1 w2 u_summary u_detail h0 n0 v h L) (F := fun m => mkF m 0 #[rv a1, .val w2] []) own_pn9 (fun m => own_ef_rmSS m a1 w2 h_w2) ?_
  intro p e s m below meth c T X hx hby hml hret hlk hnm hown hZ e0
  show own_Goes p e below s _ _ (T.setTop (mkF m 0 #[rv a1, .val w2] []))
  have N0 := Fr.nil n0
  refine own_st (fun _ k => XS.aloadN X.here hx rfl (hb hby own_d6_0) rfl rfl  k) ?_
  show own_Goes p e below s _ _ (T.setTop (mkF m 1 #[rv a1, .val w2] [(.ref a1)]))
  refine own_st (fun _ k => XS.aloadN X.here hx rfl (hb hby own_d6_1) rfl (by assumption)  k) ?_
  show own_Goes p e below s _ _ (T.setTop (mkF m 2 #[rv a1, .val w2] [w2, (.ref a1)]))
  obtain ⟨T101, h101, X101, e101, W101, st101⟩ := putF X hx hZ hown (host := "") (Or.inl (hw _ (List.mem_of_getElem? (i := 23) rfl))) Via.refl e0 F_summary E1 (Or.inl (hw _ (List.mem_of_getElem? (i := 24) rfl))) (hw _ (List.mem_of_getElem? (i := 5) rfl)) (ty := (.object "java/lang/String")) (by decide) (own_narR rfl (by assumption)) (own_fitR rfl (by assumption)) (g := (mkF m 2 #[rv a1, .val w2] [w2, (.ref a1)])) rfl rfl (hb hby own_d6_2)
  have z101 := W101.size
  have N101 := Fr.snoc X101 N0 (by omega)
  have F101 := F_summary.same W101
  refine own_st st101 ?_
  show own_Goes p e below s _ _ (T101.setTop (mkF m 5 #[rv a1, .val w2] []))
  have f102 := (E1.wr W101)
  have f103 := (F_detail.other W101 (Or.inr (slot_ne (Or.inl (hw _ (List.mem_of_getElem? (i := 26) rfl))) (Or.inl (hw _ (List.mem_of_getElem? (i := 24) rfl))) (by decide) (t := (.object "java/lang/String")) (t' := (.object "java/lang/String")) (by decide) (by decide))))
  exact own_ret0 X101 hx hlk hret (hb hby own_d6_5) (by decide) (by decide) ⟨rfl, N101, by rw [e101]; exact ((Keep.refl h0 [a1]).wr W101 (Or.inl (by simp))), by rw [e101]; exact f102, by rw [e101]; exact F101, by rw [e101]; exact f103⟩
theorem own_pn10 : plainFor (⟨"jakarta/faces/application/FacesMessage", "setDetail", "(Ljava/lang/String;)V"⟩ : MethodName) = true := by first | exact plainFor_of_name (by simp [plainName, overriddenIn]; done) | decide +kernel
theorem own_d7_0 : decode prog_23_method_10_code 0 = .ok (.aload_n 0, 1) := by decide +kernel
theorem own_d7_1 : decode prog_23_method_10_code 1 = .ok (.aload_n 1, 1) := by decide +kernel
theorem own_d7_2 : decode prog_23_method_10_code 2 = .ok (.putfield 27, 3) := by decide +kernel
theorem own_d7_5 : decode prog_23_method_10_code 5 = .ok (.return_, 1) := by decide +kernel
theorem own_ef_rmSD (m : MethodId) (a1 : Nat) (w2 : Value) (h_w2 : w2.isRef = true) : entryFrame m #[(.ref a1), w2] 2 = mkF m 0 #[rv a1, .val w2] [] := by
  rcases ref_cases h_w2 with rfl | ⟨_, rfl⟩
  all_goals first | (simp [entryFrame, mkF, argsToLocals, Value.category, maxLocals]; done) | rfl
abbrev own_Q_rmSD (Z : State) (a1 : Nat) (w2 : Value) (u_summary : Value) (u_detail : Value) (h0 : Heap) (n0 : Nat) (v : Option Value) (h : Heap) (L : List Loc) : Prop := v = none ∧ Fr n0 L ∧ Keep h0 h [a1] ∧ Exa Z h a1 "jakarta/faces/application/FacesMessage" ∧ Fld Z h a1 "jakarta/faces/application/FacesMessage" "summary" "Ljava/lang/String;" u_summary ∧ Fld Z h a1 "jakarta/faces/application/FacesMessage" "detail" "Ljava/lang/String;" w2
set_option maxRecDepth 65536 in
set_option maxHeartbeats 40000000 in
theorem rmSD (l : Launch) (Z : State) (a0 : Array Value) (hw : ∀ d ∈ tables_1, d.before a0 Z = true) (ws : List Jvm.Cond) (a1 : Nat) (w2 : Value) (u_summary : Value) (u_detail : Value) (h0 : Heap) (n0 : Nat) (Z0 : n0 ≤ h0.size) (h_w2 : w2.isRef = true) (E1 : Exa Z h0 a1 "jakarta/faces/application/FacesMessage") (F_summary : Fld Z h0 a1 "jakarta/faces/application/FacesMessage" "summary" "Ljava/lang/String;" u_summary) (F_detail : Fld Z h0 a1 "jakarta/faces/application/FacesMessage" "detail" "Ljava/lang/String;" u_detail) (g1 : n0 ≤ a1) :
    MetFree l (⟨"jakarta/faces/application/FacesMessage", "setDetail", "(Ljava/lang/String;)V"⟩ : MethodName) (head1 (Jvm.Cond.code (⟨"jakarta/faces/application/FacesMessage", "setDetail", "(Ljava/lang/String;)V"⟩ : MethodName) prog_23_method_10_code 2 none :: ws) ({ frames := 0, cells := 0, slots := 0, locals := 0 } : Room)) (fun a U => a = #[(.ref a1), w2] ∧ Z.Warmed39 U.vm ∧ U.heap = h0) (fun _ _ _ _ _ => True) (fun _ U o U' => ∃ v L, o = .returned v ∧ own_Q_rmSD Z a1 w2 u_summary u_detail h0 n0 v U'.heap L ∧ FrameEnd U o U' L ({ frames := 0, cells := 0, slots := 0, locals := 0 } : Room).cells ({ frames := 0, cells := 0, slots := 0, locals := 0 } : Room).slots) := by
  refine own_enter (Q := fun v h L => own_Q_rmSD Z a1 w2 u_summary u_detail h0 n0 v h L) (F := fun m => mkF m 0 #[rv a1, .val w2] []) own_pn10 (fun m => own_ef_rmSD m a1 w2 h_w2) ?_
  intro p e s m below meth c T X hx hby hml hret hlk hnm hown hZ e0
  show own_Goes p e below s _ _ (T.setTop (mkF m 0 #[rv a1, .val w2] []))
  have N0 := Fr.nil n0
  refine own_st (fun _ k => XS.aloadN X.here hx rfl (hb hby own_d7_0) rfl rfl  k) ?_
  show own_Goes p e below s _ _ (T.setTop (mkF m 1 #[rv a1, .val w2] [(.ref a1)]))
  refine own_st (fun _ k => XS.aloadN X.here hx rfl (hb hby own_d7_1) rfl (by assumption)  k) ?_
  show own_Goes p e below s _ _ (T.setTop (mkF m 2 #[rv a1, .val w2] [w2, (.ref a1)]))
  obtain ⟨T101, h101, X101, e101, W101, st101⟩ := putF X hx hZ hown (host := "") (Or.inl (hw _ (List.mem_of_getElem? (i := 25) rfl))) Via.refl e0 F_detail E1 (Or.inl (hw _ (List.mem_of_getElem? (i := 26) rfl))) (hw _ (List.mem_of_getElem? (i := 5) rfl)) (ty := (.object "java/lang/String")) (by decide) (own_narR rfl (by assumption)) (own_fitR rfl (by assumption)) (g := (mkF m 2 #[rv a1, .val w2] [w2, (.ref a1)])) rfl rfl (hb hby own_d7_2)
  have z101 := W101.size
  have N101 := Fr.snoc X101 N0 (by omega)
  have F101 := F_detail.same W101
  refine own_st st101 ?_
  show own_Goes p e below s _ _ (T101.setTop (mkF m 5 #[rv a1, .val w2] []))
  have f102 := (E1.wr W101)
  have f103 := (F_summary.other W101 (Or.inr (slot_ne (Or.inl (hw _ (List.mem_of_getElem? (i := 24) rfl))) (Or.inl (hw _ (List.mem_of_getElem? (i := 26) rfl))) (by decide) (t := (.object "java/lang/String")) (t' := (.object "java/lang/String")) (by decide) (by decide))))
  exact own_ret0 X101 hx hlk hret (hb hby own_d7_5) (by decide) (by decide) ⟨rfl, N101, by rw [e101]; exact ((Keep.refl h0 [a1]).wr W101 (Or.inl (by simp))), by rw [e101]; exact f102, by rw [e101]; exact f103, by rw [e101]; exact F101⟩
theorem own_pn11 : plainFor (⟨"jakarta/faces/application/FacesMessage", "getDetail", "()Ljava/lang/String;"⟩ : MethodName) = true := by first | exact plainFor_of_name (by simp [plainName, overriddenIn]; done) | decide +kernel
theorem own_d8_0 : decode prog_23_method_9_code 0 = .ok (.aload_n 0, 1) := by decide +kernel
theorem own_d8_1 : decode prog_23_method_9_code 1 = .ok (.getfield 27, 3) := by decide +kernel
theorem own_d8_4 : decode prog_23_method_9_code 4 = .ok (.astore_n 1, 1) := by decide +kernel
theorem own_d8_5 : decode prog_23_method_9_code 5 = .ok (.aload_n 1, 1) := by decide +kernel
theorem own_d8_6 : decode prog_23_method_9_code 6 = .ok (.ifnonnull 8, 3) := by decide +kernel
theorem own_d8_14 : decode prog_23_method_9_code 14 = .ok (.aload_n 1, 1) := by decide +kernel
theorem own_d8_15 : decode prog_23_method_9_code 15 = .ok (.areturn, 1) := by decide +kernel
theorem own_ef_rmD0 (m : MethodId) (a1 : Nat) : entryFrame m #[(.ref a1)] 2 = mkF m 0 #[rv a1, .unset] [] := by first | (simp [entryFrame, mkF, argsToLocals, Value.category, maxLocals]; done) | rfl
abbrev own_Q_rmD0 (Z : State) (a1 : Nat) (w2 : Value) (a3 : Nat) (h0 : Heap) (n0 : Nat) (v : Option Value) (h : Heap) (L : List Loc) : Prop := v = some (.ref a3) ∧ Fr n0 L ∧ h = h0
set_option maxRecDepth 65536 in
set_option maxHeartbeats 40000000 in
theorem rmD0 (l : Launch) (Z : State) (a0 : Array Value) (hw : ∀ d ∈ tables_1, d.before a0 Z = true) (ws : List Jvm.Cond) (a1 : Nat) (w2 : Value) (a3 : Nat) (h0 : Heap) (n0 : Nat) (Z0 : n0 ≤ h0.size) (h_w2 : w2.isRef = true) (F1 : Fld Z h0 a1 "jakarta/faces/application/FacesMessage" "summary" "Ljava/lang/String;" w2) (F2 : Fld Z h0 a1 "jakarta/faces/application/FacesMessage" "detail" "Ljava/lang/String;" (.ref a3)) :
    MetFree l (⟨"jakarta/faces/application/FacesMessage", "getDetail", "()Ljava/lang/String;"⟩ : MethodName) (head1 (Jvm.Cond.code (⟨"jakarta/faces/application/FacesMessage", "getDetail", "()Ljava/lang/String;"⟩ : MethodName) prog_23_method_9_code 2 (some (.object "java/lang/String")) :: ws) ({ frames := 0, cells := 0, slots := 0, locals := 0 } : Room)) (fun a U => a = #[(.ref a1)] ∧ Z.Warmed39 U.vm ∧ U.heap = h0) (fun _ _ _ _ _ => True) (fun _ U o U' => ∃ v L, o = .returned v ∧ own_Q_rmD0 Z a1 w2 a3 h0 n0 v U'.heap L ∧ FrameEnd U o U' L ({ frames := 0, cells := 0, slots := 0, locals := 0 } : Room).cells ({ frames := 0, cells := 0, slots := 0, locals := 0 } : Room).slots) := by
  refine own_enter (Q := fun v h L => own_Q_rmD0 Z a1 w2 a3 h0 n0 v h L) (F := fun m => mkF m 0 #[rv a1, .unset] []) own_pn11 (fun m => own_ef_rmD0 m a1) ?_
  intro p e s m below meth c T X hx hby hml hret hlk hnm hown hZ e0
  show own_Goes p e below s _ _ (T.setTop (mkF m 0 #[rv a1, .unset] []))
  have N0 := Fr.nil n0
  refine own_st (fun _ k => XS.aloadN X.here hx rfl (hb hby own_d8_0) rfl rfl  k) ?_
  show own_Goes p e below s _ _ (T.setTop (mkF m 1 #[rv a1, .unset] [(.ref a1)]))
  obtain ⟨T101, X101, e101, st101⟩ := getF X hx hZ hown (host := "") (Or.inl (hw _ (List.mem_of_getElem? (i := 25) rfl))) Via.refl e0 F2 (g := (mkF m 1 #[rv a1, .unset] [(.ref a1)])) rfl rfl (hb hby own_d8_1)
  refine own_st st101 ?_
  show own_Goes p e below s _ _ (T101.setTop (mkF m 4 #[rv a1, .unset] [(.ref a3)]))
  refine own_st (fun _ k => XS.astoreN X101.here hx rfl (hb hby own_d8_4) rfl rfl (l' := #[rv a1, rv a3]) rfl k) ?_
  show own_Goes p e below s _ _ (T101.setTop (mkF m 5 #[rv a1, rv a3] []))
  refine own_st (fun _ k => XS.aloadN X101.here hx rfl (hb hby own_d8_5) rfl rfl  k) ?_
  show own_Goes p e below s _ _ (T101.setTop (mkF m 6 #[rv a1, rv a3] [(.ref a3)]))
  refine own_st (fun _ k => XS.ifnonnullYes X101.here hx rfl (pc0 := 6) (pc' := 14) rfl (hb hby own_d8_6) rfl (by decide) (by decide) k) ?_
  show own_Goes p e below s _ _ (T101.setTop (mkF m 14 #[rv a1, rv a3] []))
  refine own_st (fun _ k => XS.aloadN X101.here hx rfl (hb hby own_d8_14) rfl rfl  k) ?_
  show own_Goes p e below s _ _ (T101.setTop (mkF m 15 #[rv a1, rv a3] [(.ref a3)]))
  exact own_retR X101 hx hlk hret rfl rfl (hb hby own_d8_15) (by decide) (by decide) ⟨rfl, N0, e101⟩
theorem own_d8_9 : decode prog_23_method_9_code 9 = .ok (.aload_n 0, 1) := by decide +kernel
theorem own_d8_10 : decode prog_23_method_9_code 10 = .ok (.getfield 23, 3) := by decide +kernel
theorem own_d8_13 : decode prog_23_method_9_code 13 = .ok (.astore_n 1, 1) := by decide +kernel
theorem own_ef_rmD1 (m : MethodId) (a1 : Nat) : entryFrame m #[(.ref a1)] 2 = mkF m 0 #[rv a1, .unset] [] := by first | (simp [entryFrame, mkF, argsToLocals, Value.category, maxLocals]; done) | rfl
abbrev own_Q_rmD1 (Z : State) (a1 : Nat) (w2 : Value) (a3 : Nat) (h0 : Heap) (n0 : Nat) (v : Option Value) (h : Heap) (L : List Loc) : Prop := v = some w2 ∧ Fr n0 L ∧ h = h0
set_option maxRecDepth 65536 in
set_option maxHeartbeats 40000000 in
theorem rmD1 (l : Launch) (Z : State) (a0 : Array Value) (hw : ∀ d ∈ tables_1, d.before a0 Z = true) (ws : List Jvm.Cond) (a1 : Nat) (w2 : Value) (a3 : Nat) (h0 : Heap) (n0 : Nat) (Z0 : n0 ≤ h0.size) (h_w2 : w2.isRef = true) (F1 : Fld Z h0 a1 "jakarta/faces/application/FacesMessage" "summary" "Ljava/lang/String;" w2) (F2 : Fld Z h0 a1 "jakarta/faces/application/FacesMessage" "detail" "Ljava/lang/String;" .null) :
    MetFree l (⟨"jakarta/faces/application/FacesMessage", "getDetail", "()Ljava/lang/String;"⟩ : MethodName) (head1 (Jvm.Cond.code (⟨"jakarta/faces/application/FacesMessage", "getDetail", "()Ljava/lang/String;"⟩ : MethodName) prog_23_method_9_code 2 (some (.object "java/lang/String")) :: ws) ({ frames := 0, cells := 0, slots := 0, locals := 0 } : Room)) (fun a U => a = #[(.ref a1)] ∧ Z.Warmed39 U.vm ∧ U.heap = h0) (fun _ _ _ _ _ => True) (fun _ U o U' => ∃ v L, o = .returned v ∧ own_Q_rmD1 Z a1 w2 a3 h0 n0 v U'.heap L ∧ FrameEnd U o U' L ({ frames := 0, cells := 0, slots := 0, locals := 0 } : Room).cells ({ frames := 0, cells := 0, slots := 0, locals := 0 } : Room).slots) := by
  refine own_enter (Q := fun v h L => own_Q_rmD1 Z a1 w2 a3 h0 n0 v h L) (F := fun m => mkF m 0 #[rv a1, .unset] []) own_pn11 (fun m => own_ef_rmD1 m a1) ?_
  intro p e s m below meth c T X hx hby hml hret hlk hnm hown hZ e0
  show own_Goes p e below s _ _ (T.setTop (mkF m 0 #[rv a1, .unset] []))
  have N0 := Fr.nil n0
  refine own_st (fun _ k => XS.aloadN X.here hx rfl (hb hby own_d8_0) rfl rfl  k) ?_
  show own_Goes p e below s _ _ (T.setTop (mkF m 1 #[rv a1, .unset] [(.ref a1)]))
  obtain ⟨T101, X101, e101, st101⟩ := getF X hx hZ hown (host := "") (Or.inl (hw _ (List.mem_of_getElem? (i := 25) rfl))) Via.refl e0 F2 (g := (mkF m 1 #[rv a1, .unset] [(.ref a1)])) rfl rfl (hb hby own_d8_1)
  refine own_st st101 ?_
  show own_Goes p e below s _ _ (T101.setTop (mkF m 4 #[rv a1, .unset] [.null]))
  refine own_st (fun _ k => XS.astoreN X101.here hx rfl (hb hby own_d8_4) rfl rfl (l' := #[rv a1, .val .null]) rfl k) ?_
  show own_Goes p e below s _ _ (T101.setTop (mkF m 5 #[rv a1, .val .null] []))
  refine own_st (fun _ k => XS.aloadN X101.here hx rfl (hb hby own_d8_5) rfl rfl  k) ?_
  show own_Goes p e below s _ _ (T101.setTop (mkF m 6 #[rv a1, .val .null] [.null]))
  refine own_st (fun _ k => XS.ifnonnullNo X101.here hx rfl (hb hby own_d8_6) rfl k) ?_
  show own_Goes p e below s _ _ (T101.setTop (mkF m 9 #[rv a1, .val .null] []))
  refine own_st (fun _ k => XS.aloadN X101.here hx rfl (hb hby own_d8_9) rfl rfl  k) ?_
  show own_Goes p e below s _ _ (T101.setTop (mkF m 10 #[rv a1, .val .null] [(.ref a1)]))
  obtain ⟨T102, X102, e102, st102⟩ := getF X101 hx hZ hown (host := "") (Or.inl (hw _ (List.mem_of_getElem? (i := 23) rfl))) Via.refl e101 F1 (g := (mkF m 10 #[rv a1, .val .null] [(.ref a1)])) rfl rfl (hb hby own_d8_10)
  refine own_st st102 ?_
  show own_Goes p e below s _ _ (T102.setTop (mkF m 13 #[rv a1, .val .null] [w2]))
  refine own_st (fun _ k => Jvm.Free.XT.astoreNS X102.here hx rfl (hb hby own_d8_13) rfl (by assumption) (own_cat (by assumption)) rfl (Or.inr ⟨_, rfl, rfl⟩) k) ?_
  show own_Goes p e below s _ _ (T102.setTop (mkF m 14 #[rv a1, .val w2] []))
  refine own_st (fun _ k => XS.aloadN X102.here hx rfl (hb hby own_d8_14) rfl (by assumption)  k) ?_
  show own_Goes p e below s _ _ (T102.setTop (mkF m 15 #[rv a1, .val w2] [w2]))
  exact own_retR X102 hx hlk hret rfl (by assumption) (hb hby own_d8_15) (by decide) (by decide) ⟨rfl, N0, e102⟩
theorem own_pn12 : plainFor (⟨"jakarta/faces/application/FacesMessage", "getSummary", "()Ljava/lang/String;"⟩ : MethodName) = true := by first | exact plainFor_of_name (by simp [plainName, overriddenIn]; done) | decide +kernel
theorem own_d9_0 : decode prog_23_method_7_code 0 = .ok (.aload_n 0, 1) := by decide +kernel
theorem own_d9_1 : decode prog_23_method_7_code 1 = .ok (.getfield 23, 3) := by decide +kernel
theorem own_d9_4 : decode prog_23_method_7_code 4 = .ok (.areturn, 1) := by decide +kernel
theorem own_ef_rmGS (m : MethodId) (a1 : Nat) : entryFrame m #[(.ref a1)] 1 = mkF m 0 #[rv a1] [] := by first | (simp [entryFrame, mkF, argsToLocals, Value.category, maxLocals]; done) | rfl
abbrev own_Q_rmGS (Z : State) (a1 : Nat) (w2 : Value) (h0 : Heap) (n0 : Nat) (v : Option Value) (h : Heap) (L : List Loc) : Prop := v = some w2 ∧ Fr n0 L ∧ h = h0
set_option maxRecDepth 65536 in
set_option maxHeartbeats 40000000 in
theorem rmGS (l : Launch) (Z : State) (a0 : Array Value) (hw : ∀ d ∈ tables_1, d.before a0 Z = true) (ws : List Jvm.Cond) (a1 : Nat) (w2 : Value) (h0 : Heap) (n0 : Nat) (Z0 : n0 ≤ h0.size) (h_w2 : w2.isRef = true) (F1 : Fld Z h0 a1 "jakarta/faces/application/FacesMessage" "summary" "Ljava/lang/String;" w2) :
    MetFree l (⟨"jakarta/faces/application/FacesMessage", "getSummary", "()Ljava/lang/String;"⟩ : MethodName) (head1 (Jvm.Cond.code (⟨"jakarta/faces/application/FacesMessage", "getSummary", "()Ljava/lang/String;"⟩ : MethodName) prog_23_method_7_code 1 (some (.object "java/lang/String")) :: ws) ({ frames := 0, cells := 0, slots := 0, locals := 0 } : Room)) (fun a U => a = #[(.ref a1)] ∧ Z.Warmed39 U.vm ∧ U.heap = h0) (fun _ _ _ _ _ => True) (fun _ U o U' => ∃ v L, o = .returned v ∧ own_Q_rmGS Z a1 w2 h0 n0 v U'.heap L ∧ FrameEnd U o U' L ({ frames := 0, cells := 0, slots := 0, locals := 0 } : Room).cells ({ frames := 0, cells := 0, slots := 0, locals := 0 } : Room).slots) := by
  refine own_enter (Q := fun v h L => own_Q_rmGS Z a1 w2 h0 n0 v h L) (F := fun m => mkF m 0 #[rv a1] []) own_pn12 (fun m => own_ef_rmGS m a1) ?_
  intro p e s m below meth c T X hx hby hml hret hlk hnm hown hZ e0
  show own_Goes p e below s _ _ (T.setTop (mkF m 0 #[rv a1] []))
  have N0 := Fr.nil n0
  refine own_st (fun _ k => XS.aloadN X.here hx rfl (hb hby own_d9_0) rfl rfl  k) ?_
  show own_Goes p e below s _ _ (T.setTop (mkF m 1 #[rv a1] [(.ref a1)]))
  obtain ⟨T101, X101, e101, st101⟩ := getF X hx hZ hown (host := "") (Or.inl (hw _ (List.mem_of_getElem? (i := 23) rfl))) Via.refl e0 F1 (g := (mkF m 1 #[rv a1] [(.ref a1)])) rfl rfl (hb hby own_d9_1)
  refine own_st st101 ?_
  show own_Goes p e below s _ _ (T101.setTop (mkF m 4 #[rv a1] [w2]))
  exact own_retR X101 hx hlk hret rfl (by assumption) (hb hby own_d9_4) (by decide) (by decide) ⟨rfl, N0, e101⟩
theorem own_pn13 : plainFor (⟨"java/lang/String", "equals", "(Ljava/lang/Object;)Z"⟩ : MethodName) = true := by first | exact plainFor_of_name (by simp [plainName, overriddenIn]; done) | decide +kernel
theorem own_d15_0 : decode jdk_42_method_66_code 0 = .ok (.aload_n 0, 1) := by decide +kernel
theorem own_d15_1 : decode jdk_42_method_66_code 1 = .ok (.aload_n 1, 1) := by decide +kernel
theorem own_d15_2 : decode jdk_42_method_66_code 2 = .ok (.if_acmp .ne 5, 3) := by decide +kernel
theorem own_d15_5 : decode jdk_42_method_66_code 5 = .ok (.iconst 1, 1) := by decide +kernel
theorem own_d15_6 : decode jdk_42_method_66_code 6 = .ok (.ireturn, 1) := by decide +kernel
theorem own_ef_rmEq (m : MethodId) (a1 : Nat) : entryFrame m #[(.ref a1), (.ref a1)] 3 = mkF m 0 #[rv a1, rv a1, .unset] [] := by first | (simp [entryFrame, mkF, argsToLocals, Value.category, maxLocals]; done) | rfl
abbrev own_Q_rmEq (Z : State) (a1 : Nat) (h0 : Heap) (n0 : Nat) (v : Option Value) (h : Heap) (L : List Loc) : Prop := v = some (.int (1 : Int32)) ∧ Fr n0 L ∧ h = h0
set_option maxRecDepth 65536 in
set_option maxHeartbeats 40000000 in
theorem rmEq (l : Launch) (Z : State) (a0 : Array Value) (hw : ∀ d ∈ tables_1, d.before a0 Z = true) (ws : List Jvm.Cond) (a1 : Nat) (h0 : Heap) (n0 : Nat) (Z0 : n0 ≤ h0.size) :
    MetFree l (⟨"java/lang/String", "equals", "(Ljava/lang/Object;)Z"⟩ : MethodName) (head1 (Jvm.Cond.code (⟨"java/lang/String", "equals", "(Ljava/lang/Object;)Z"⟩ : MethodName) jdk_42_method_66_code 3 (some .boolean) :: ws) ({ frames := 0, cells := 0, slots := 0, locals := 0 } : Room)) (fun a U => a = #[(.ref a1), (.ref a1)] ∧ Z.Warmed39 U.vm ∧ U.heap = h0) (fun _ _ _ _ _ => True) (fun _ U o U' => ∃ v L, o = .returned v ∧ own_Q_rmEq Z a1 h0 n0 v U'.heap L ∧ FrameEnd U o U' L ({ frames := 0, cells := 0, slots := 0, locals := 0 } : Room).cells ({ frames := 0, cells := 0, slots := 0, locals := 0 } : Room).slots) := by
  refine own_enter (Q := fun v h L => own_Q_rmEq Z a1 h0 n0 v h L) (F := fun m => mkF m 0 #[rv a1, rv a1, .unset] []) own_pn13 (fun m => own_ef_rmEq m a1) ?_
  intro p e s m below meth c T X hx hby hml hret hlk hnm hown hZ e0
  show own_Goes p e below s _ _ (T.setTop (mkF m 0 #[rv a1, rv a1, .unset] []))
  have N0 := Fr.nil n0
  refine own_st (fun _ k => XS.aloadN X.here hx rfl (hb hby own_d15_0) rfl rfl  k) ?_
  show own_Goes p e below s _ _ (T.setTop (mkF m 1 #[rv a1, rv a1, .unset] [(.ref a1)]))
  refine own_st (fun _ k => XS.aloadN X.here hx rfl (hb hby own_d15_1) rfl rfl  k) ?_
  show own_Goes p e below s _ _ (T.setTop (mkF m 2 #[rv a1, rv a1, .unset] [(.ref a1), (.ref a1)]))
  refine own_st (fun _ k => Jvm.RoadKit.acmp (g := (mkF m 2 #[rv a1, rv a1, .unset] [(.ref a1), (.ref a1)])) X hx rfl rfl rfl (pc0 := 2) (pc' := 5) (same := true) rfl (hb hby own_d15_2) rfl (decide_eq_true rfl) (by decide) (by decide) k) ?_
  show own_Goes p e below s _ _ (T.setTop (mkF m 5 #[rv a1, rv a1, .unset] []))
  refine own_st (fun _ k => XS.iconst X.here hx rfl (hb hby own_d15_5) k) ?_
  show own_Goes p e below s _ _ (T.setTop (mkF m 6 #[rv a1, rv a1, .unset] [(.int (1 : Int32))]))
  exact own_retN X hx hlk (1 : Int32) hret (Or.inl rfl) rfl (hb hby own_d15_6) (by decide) (by decide) ⟨rfl, N0, e0⟩
theorem own_pn14 : plainFor (⟨"jakarta/faces/application/FacesMessageGetDetailPinLaw", "law", "(IIIII)Z"⟩ : MethodName) = true := by first | exact plainFor_of_name (by simp [plainName, overriddenIn]; done) | decide +kernel
theorem own_pd7 : parseMethodDescriptor "(IIII)Ljava/lang/String;" = some ⟨[.int, .int, .int, .int], some (.object "java/lang/String")⟩ := by decide +kernel
theorem own_pd8 : parseMethodDescriptor "()V" = some ⟨[], none⟩ := by decide +kernel
theorem own_pd9 : parseMethodDescriptor "(Ljava/lang/String;)V" = some ⟨[(.object "java/lang/String")], none⟩ := by decide +kernel
theorem own_pd10 : parseMethodDescriptor "()Ljava/lang/String;" = some ⟨[], some (.object "java/lang/String")⟩ := by decide +kernel
theorem own_pd11 : parseMethodDescriptor "(Ljava/lang/Object;)Z" = some ⟨[(.object "java/lang/Object")], some .boolean⟩ := by decide +kernel
theorem own_ef_rm0 (m : MethodId) (p0 : Int32) (p1 : Int32) (p2 : Int32) (p3 : Int32) (p4 : Int32) : entryFrame m #[(.int p0), (.int p1), (.int p2), (.int p3), (.int p4)] maxLocals = mkF m 0 #[iv p0, iv p1, iv p2, iv p3, iv p4, .unset, .unset, .unset, .unset, .unset] [] := by first | (simp [entryFrame, mkF, argsToLocals, Value.category, maxLocals]; done) | rfl
abbrev own_Q_rm0 (Z : State) (p0 : Int32) (p1 : Int32) (p2 : Int32) (p3 : Int32) (p4 : Int32) (cs : Int32) (sv : Nat) (h0 : Heap) (n0 : Nat) (v : Option Value) (h : Heap) (vm : Vm) (L : List Loc) : Prop := v = some (.int 1) ∧ Fr n0 L
set_option maxRecDepth 65536 in
set_option maxHeartbeats 40000000 in
theorem rm0 (l : Launch) (Z : State) (a0 : Array Value) (hw : ∀ d ∈ tables_1, d.before a0 Z = true) (ws : List Jvm.Cond) (p0 : Int32) (p1 : Int32) (p2 : Int32) (p3 : Int32) (p4 : Int32) (cs : Int32) (sv : Nat) (h0 : Heap) (n0 : Nat) (Z0 : n0 ≤ h0.size) (S1 : Sta Z h0 "java/lang/String" "COMPACT_STRINGS" "Z" (.int cs)) (S2 : Sta Z h0 "jakarta/faces/application/FacesMessage" "SEVERITY_INFO" "Ljakarta/faces/application/FacesMessage$Severity;" (.ref sv)) (hcs : ¬ cs = (0 : Int32)) (HK : ∀ (b : Addr) (cl : Cell), Z.heap[b]? = some cl → h0[b]? = some cl) (CH : Jvm.Lit.constHeld Z "java/lang/String" 7) (CW : Jvm.Lit.compactW.before a0 Z = true) :
    MetFree l x (head1 (Jvm.Cond.code x code maxLocals ret :: ws) room_1) (fun a U => a = #[(.int p0), (.int p1), (.int p2), (.int p3), (.int p4)] ∧ Z.Warmed39 U.vm ∧ U.heap = h0 ∧ own_E Z h0 U.vm) (fun _ _ _ _ _ => True) (fun _ U o U' => ∃ v L, o = .returned v ∧ own_Q_rm0 Z p0 p1 p2 p3 p4 cs sv h0 n0 v U'.heap U'.vm L ∧ ReturnedEndW U o U' L room_1.cells room_1.slots) := by
  refine own_enterW (Q := fun v h vm L => own_Q_rm0 Z p0 p1 p2 p3 p4 cs sv h0 n0 v h vm L) (F := fun m => mkF m 0 #[iv p0, iv p1, iv p2, iv p3, iv p4, .unset, .unset, .unset, .unset, .unset] []) (Pv := fun vm => own_E Z h0 vm) own_pn14 (fun m => own_ef_rm0 m p0 p1 p2 p3 p4) ?_
  intro p e s vm0 m below meth c T X hS hx hby hml hret hlk hnm hown hZ e0 hh0 F0
  show own_GoesW p e below s _ _ (T.setTop (mkF m 0 #[iv p0, iv p1, iv p2, iv p3, iv p4, .unset, .unset, .unset, .unset, .unset] []))
  have N0 := Fr.nil n0
  refine own_stW (fun _ k => XS.iloadN X.here hx rfl (hb hby at_0) rfl  k) ?_
  show own_GoesW p e below s _ _ (T.setTop (mkF m 1 #[iv p0, iv p1, iv p2, iv p3, iv p4, .unset, .unset, .unset, .unset, .unset] [(.int p0)]))
  refine own_stW (fun _ k => XS.iconst X.here hx rfl (hb hby at_1) k) ?_
  show own_GoesW p e below s _ _ (T.setTop (mkF m 2 #[iv p0, iv p1, iv p2, iv p3, iv p4, .unset, .unset, .unset, .unset, .unset] [(.int (1 : Int32)), (.int p0)]))
  refine own_stW (fun _ k => XS.iand X.here hx rfl (hb hby at_2) rfl k) ?_
  show own_GoesW p e below s _ _ (T.setTop (mkF m 3 #[iv p0, iv p1, iv p2, iv p3, iv p4, .unset, .unset, .unset, .unset, .unset] [(.int (p0 &&& (1 : Int32)))]))
  refine own_stW (fun _ k => XS.iloadN X.here hx rfl (hb hby at_3) rfl  k) ?_
  show own_GoesW p e below s _ _ (T.setTop (mkF m 4 #[iv p0, iv p1, iv p2, iv p3, iv p4, .unset, .unset, .unset, .unset, .unset] [(.int p0), (.int (p0 &&& (1 : Int32)))]))
  refine own_stW (fun _ k => XS.iconst X.here hx rfl (hb hby at_4) k) ?_
  show own_GoesW p e below s _ _ (T.setTop (mkF m 5 #[iv p0, iv p1, iv p2, iv p3, iv p4, .unset, .unset, .unset, .unset, .unset] [(.int (1 : Int32)), (.int p0), (.int (p0 &&& (1 : Int32)))]))
  refine own_stW (fun _ k => XS.iushr X.here hx rfl (hb hby at_5) rfl k) ?_
  show own_GoesW p e below s _ _ (T.setTop (mkF m 6 #[iv p0, iv p1, iv p2, iv p3, iv p4, .unset, .unset, .unset, .unset, .unset] [(.int ((p0.toUInt32 >>> ((1 : Int32) &&& 31).toUInt32).toInt32)), (.int (p0 &&& (1 : Int32)))]))
  refine own_stW (fun _ k => XS.iconst X.here hx rfl (hb hby at_6) k) ?_
  show own_GoesW p e below s _ _ (T.setTop (mkF m 7 #[iv p0, iv p1, iv p2, iv p3, iv p4, .unset, .unset, .unset, .unset, .unset] [(.int (3 : Int32)), (.int ((p0.toUInt32 >>> ((1 : Int32) &&& 31).toUInt32).toInt32)), (.int (p0 &&& (1 : Int32)))]))
  refine own_stW (fun _ k => XS.iand X.here hx rfl (hb hby at_7) rfl k) ?_
  show own_GoesW p e below s _ _ (T.setTop (mkF m 8 #[iv p0, iv p1, iv p2, iv p3, iv p4, .unset, .unset, .unset, .unset, .unset] [(.int (((p0.toUInt32 >>> ((1 : Int32) &&& 31).toUInt32).toInt32) &&& (3 : Int32))), (.int (p0 &&& (1 : Int32)))]))
  refine own_stW (fun _ k => XS.iloadN X.here hx rfl (hb hby at_8) rfl  k) ?_
  show own_GoesW p e below s _ _ (T.setTop (mkF m 9 #[iv p0, iv p1, iv p2, iv p3, iv p4, .unset, .unset, .unset, .unset, .unset] [(.int p1), (.int (((p0.toUInt32 >>> ((1 : Int32) &&& 31).toUInt32).toInt32) &&& (3 : Int32))), (.int (p0 &&& (1 : Int32)))]))
  refine own_stW (fun _ k => XS.iloadN X.here hx rfl (hb hby at_9) rfl  k) ?_
  show own_GoesW p e below s _ _ (T.setTop (mkF m 10 #[iv p0, iv p1, iv p2, iv p3, iv p4, .unset, .unset, .unset, .unset, .unset] [(.int p2), (.int p1), (.int (((p0.toUInt32 >>> ((1 : Int32) &&& 31).toUInt32).toInt32) &&& (3 : Int32))), (.int (p0 &&& (1 : Int32)))]))
  obtain ⟨v101, T101, L101, vm101, k101, X101, hS, hk101, hZ, hown, Q101, st101⟩ := own_callSW X hS (by rw [e0]; omega) hx hZ (y := (⟨"jakarta/faces/application/FacesMessageGetDetailPinLaw", "mk", "(IIII)Ljava/lang/String;"⟩ : MethodName)) hown (hw _ (List.mem_of_getElem? (i := 0) rfl)) (hw _ (List.mem_of_getElem? (i := 1) rfl)) (hw _ (List.mem_of_getElem? (i := 2) rfl)) (hw _ (List.mem_of_getElem? (i := 3) rfl)) (by decide) (W := 0) (rest := []) (argsL := [(.int (p0 &&& (1 : Int32))), (.int (((p0.toUInt32 >>> ((1 : Int32) &&& 31).toUInt32).toInt32) &&& (3 : Int32))), (.int p1), (.int p2)]) (Pv := fun vm => own_E Z h0 vm) (rmMk l Z a0 hw [] (p0 &&& (1 : Int32)) (((p0.toUInt32 >>> ((1 : Int32) &&& 31).toUInt32).toInt32) &&& (3 : Int32)) p1 p2 cs h0 n0 (by omega) S1 hcs HK CH CW) (fun _ q => own_E.top F0 q) (by decide) (by decide) (by decide) (by decide) e0 own_pd7 rfl (g := (mkF m 10 #[iv p0, iv p1, iv p2, iv p3, iv p4, .unset, .unset, .unset, .unset, .unset] [(.int p2), (.int p1), (.int (((p0.toUInt32 >>> ((1 : Int32) &&& 31).toUInt32).toInt32) &&& (3 : Int32))), (.int (p0 &&& (1 : Int32)))])) rfl (by rw [hml]; rfl) rfl (by show 2 * 0 + _ ≤ _; exact Nat.le_of_eq rfl) (hb hby at_10)
  obtain ⟨w101, rfl, hw101, N101q, K101, F101E⟩ := Q101
  have z101 := K101.1
  have N101 := Fr.app N0 N101q
  refine own_stW st101 ?_
  show own_GoesW p e below s _ _ (T101.setTop (mkF m 13 #[iv p0, iv p1, iv p2, iv p3, iv p4, .unset, .unset, .unset, .unset, .unset] [w101]))
  rcases hw101 with rfl | ⟨b101, rfl, B101⟩
  · show own_GoesW p e below s _ _ (T101.setTop (mkF m 13 #[iv p0, iv p1, iv p2, iv p3, iv p4, .unset, .unset, .unset, .unset, .unset] [.null]))
    refine own_stW (fun _ k => XS.astore X101.here hx rfl (hb hby at_13) rfl rfl (l' := #[iv p0, iv p1, iv p2, iv p3, iv p4, .val .null, .unset, .unset, .unset, .unset]) rfl k) ?_
    show own_GoesW p e below s _ _ (T101.setTop (mkF m 15 #[iv p0, iv p1, iv p2, iv p3, iv p4, .val .null, .unset, .unset, .unset, .unset] []))
    refine own_stW (fun _ k => XS.iloadN X101.here hx rfl (hb hby at_15) rfl  k) ?_
    show own_GoesW p e below s _ _ (T101.setTop (mkF m 16 #[iv p0, iv p1, iv p2, iv p3, iv p4, .val .null, .unset, .unset, .unset, .unset] [(.int p0)]))
    refine own_stW (fun _ k => XS.iconst X101.here hx rfl (hb hby at_16) k) ?_
    show own_GoesW p e below s _ _ (T101.setTop (mkF m 17 #[iv p0, iv p1, iv p2, iv p3, iv p4, .val .null, .unset, .unset, .unset, .unset] [(.int (3 : Int32)), (.int p0)]))
    refine own_stW (fun _ k => XS.iushr X101.here hx rfl (hb hby at_17) rfl k) ?_
    show own_GoesW p e below s _ _ (T101.setTop (mkF m 18 #[iv p0, iv p1, iv p2, iv p3, iv p4, .val .null, .unset, .unset, .unset, .unset] [(.int ((p0.toUInt32 >>> ((3 : Int32) &&& 31).toUInt32).toInt32))]))
    refine own_stW (fun _ k => XS.iconst X101.here hx rfl (hb hby at_18) k) ?_
    show own_GoesW p e below s _ _ (T101.setTop (mkF m 19 #[iv p0, iv p1, iv p2, iv p3, iv p4, .val .null, .unset, .unset, .unset, .unset] [(.int (1 : Int32)), (.int ((p0.toUInt32 >>> ((3 : Int32) &&& 31).toUInt32).toInt32))]))
    refine own_stW (fun _ k => XS.iand X101.here hx rfl (hb hby at_19) rfl k) ?_
    show own_GoesW p e below s _ _ (T101.setTop (mkF m 20 #[iv p0, iv p1, iv p2, iv p3, iv p4, .val .null, .unset, .unset, .unset, .unset] [(.int (((p0.toUInt32 >>> ((3 : Int32) &&& 31).toUInt32).toInt32) &&& (1 : Int32)))]))
    refine own_stW (fun _ k => XS.iloadN X101.here hx rfl (hb hby at_20) rfl  k) ?_
    show own_GoesW p e below s _ _ (T101.setTop (mkF m 21 #[iv p0, iv p1, iv p2, iv p3, iv p4, .val .null, .unset, .unset, .unset, .unset] [(.int p0), (.int (((p0.toUInt32 >>> ((3 : Int32) &&& 31).toUInt32).toInt32) &&& (1 : Int32)))]))
    refine own_stW (fun _ k => XS.iconst X101.here hx rfl (hb hby at_21) k) ?_
    show own_GoesW p e below s _ _ (T101.setTop (mkF m 22 #[iv p0, iv p1, iv p2, iv p3, iv p4, .val .null, .unset, .unset, .unset, .unset] [(.int (4 : Int32)), (.int p0), (.int (((p0.toUInt32 >>> ((3 : Int32) &&& 31).toUInt32).toInt32) &&& (1 : Int32)))]))
    refine own_stW (fun _ k => XS.iushr X101.here hx rfl (hb hby at_22) rfl k) ?_
    show own_GoesW p e below s _ _ (T101.setTop (mkF m 23 #[iv p0, iv p1, iv p2, iv p3, iv p4, .val .null, .unset, .unset, .unset, .unset] [(.int ((p0.toUInt32 >>> ((4 : Int32) &&& 31).toUInt32).toInt32)), (.int (((p0.toUInt32 >>> ((3 : Int32) &&& 31).toUInt32).toInt32) &&& (1 : Int32)))]))
    refine own_stW (fun _ k => XS.iconst X101.here hx rfl (hb hby at_23) k) ?_
    show own_GoesW p e below s _ _ (T101.setTop (mkF m 24 #[iv p0, iv p1, iv p2, iv p3, iv p4, .val .null, .unset, .unset, .unset, .unset] [(.int (3 : Int32)), (.int ((p0.toUInt32 >>> ((4 : Int32) &&& 31).toUInt32).toInt32)), (.int (((p0.toUInt32 >>> ((3 : Int32) &&& 31).toUInt32).toInt32) &&& (1 : Int32)))]))
    refine own_stW (fun _ k => XS.iand X101.here hx rfl (hb hby at_24) rfl k) ?_
    show own_GoesW p e below s _ _ (T101.setTop (mkF m 25 #[iv p0, iv p1, iv p2, iv p3, iv p4, .val .null, .unset, .unset, .unset, .unset] [(.int (((p0.toUInt32 >>> ((4 : Int32) &&& 31).toUInt32).toInt32) &&& (3 : Int32))), (.int (((p0.toUInt32 >>> ((3 : Int32) &&& 31).toUInt32).toInt32) &&& (1 : Int32)))]))
    refine own_stW (fun _ k => XS.iloadN X101.here hx rfl (hb hby at_25) rfl  k) ?_
    show own_GoesW p e below s _ _ (T101.setTop (mkF m 26 #[iv p0, iv p1, iv p2, iv p3, iv p4, .val .null, .unset, .unset, .unset, .unset] [(.int p3), (.int (((p0.toUInt32 >>> ((4 : Int32) &&& 31).toUInt32).toInt32) &&& (3 : Int32))), (.int (((p0.toUInt32 >>> ((3 : Int32) &&& 31).toUInt32).toInt32) &&& (1 : Int32)))]))
    refine own_stW (fun _ k => XS.iload X101.here hx rfl (hb hby at_26) rfl  k) ?_
    show own_GoesW p e below s _ _ (T101.setTop (mkF m 28 #[iv p0, iv p1, iv p2, iv p3, iv p4, .val .null, .unset, .unset, .unset, .unset] [(.int p4), (.int p3), (.int (((p0.toUInt32 >>> ((4 : Int32) &&& 31).toUInt32).toInt32) &&& (3 : Int32))), (.int (((p0.toUInt32 >>> ((3 : Int32) &&& 31).toUInt32).toInt32) &&& (1 : Int32)))]))
    have f103 := (own_sta_keep S1 K101 own_pl0)
    obtain ⟨v102, T102, L102, vm102, k102, X102, hS, hk102, hZ, hown, Q102, st102⟩ := own_callSW X101 hS (by omega) hx hZ (y := (⟨"jakarta/faces/application/FacesMessageGetDetailPinLaw", "mk", "(IIII)Ljava/lang/String;"⟩ : MethodName)) hown (hw _ (List.mem_of_getElem? (i := 0) rfl)) (hw _ (List.mem_of_getElem? (i := 1) rfl)) (hw _ (List.mem_of_getElem? (i := 2) rfl)) (hw _ (List.mem_of_getElem? (i := 3) rfl)) (by decide) (W := 0) (rest := []) (argsL := [(.int (((p0.toUInt32 >>> ((3 : Int32) &&& 31).toUInt32).toInt32) &&& (1 : Int32))), (.int (((p0.toUInt32 >>> ((4 : Int32) &&& 31).toUInt32).toInt32) &&& (3 : Int32))), (.int p3), (.int p4)]) (Pv := fun vm => own_E Z T101.heap vm) (rmMk l Z a0 hw [] (((p0.toUInt32 >>> ((3 : Int32) &&& 31).toUInt32).toInt32) &&& (1 : Int32)) (((p0.toUInt32 >>> ((4 : Int32) &&& 31).toUInt32).toInt32) &&& (3 : Int32)) p3 p4 cs T101.heap n0 (by omega) f103 hcs (own_HK HK ((Keep.refl h0 []).trans K101 all0)) CH CW) (fun _ q => own_E.top F101E q) (by decide) (by decide) (by decide) (by decide) rfl own_pd7 rfl (g := (mkF m 28 #[iv p0, iv p1, iv p2, iv p3, iv p4, .val .null, .unset, .unset, .unset, .unset] [(.int p4), (.int p3), (.int (((p0.toUInt32 >>> ((4 : Int32) &&& 31).toUInt32).toInt32) &&& (3 : Int32))), (.int (((p0.toUInt32 >>> ((3 : Int32) &&& 31).toUInt32).toInt32) &&& (1 : Int32)))])) rfl (by rw [hml]; rfl) rfl (by show 2 * 0 + _ ≤ _; exact Nat.le_of_eq rfl) (hb hby at_28)
    obtain ⟨w102, rfl, hw102, N102q, K102, F102E⟩ := Q102
    have z102 := K102.1
    have N102 := Fr.app N101 N102q
    refine own_stW st102 ?_
    show own_GoesW p e below s _ _ (T102.setTop (mkF m 31 #[iv p0, iv p1, iv p2, iv p3, iv p4, .val .null, .unset, .unset, .unset, .unset] [w102]))
    rcases hw102 with rfl | ⟨b102, rfl, B102⟩
    · show own_GoesW p e below s _ _ (T102.setTop (mkF m 31 #[iv p0, iv p1, iv p2, iv p3, iv p4, .val .null, .unset, .unset, .unset, .unset] [.null]))
      refine own_stW (fun _ k => XS.astore X102.here hx rfl (hb hby at_31) rfl rfl (l' := #[iv p0, iv p1, iv p2, iv p3, iv p4, .val .null, .val .null, .unset, .unset, .unset]) rfl k) ?_
      show own_GoesW p e below s _ _ (T102.setTop (mkF m 33 #[iv p0, iv p1, iv p2, iv p3, iv p4, .val .null, .val .null, .unset, .unset, .unset] []))
      obtain ⟨T104, h104, X104, e104, E104, A104, D104, -, st104⟩ := newO X102 hx hZ hown (hw _ (List.mem_of_getElem? (i := 4) rfl)) (hw _ (List.mem_of_getElem? (i := 5) rfl)) (hw _ (List.mem_of_getElem? (i := 6) rfl)) rfl (g := (mkF m 33 #[iv p0, iv p1, iv p2, iv p3, iv p4, .val .null, .val .null, .unset, .unset, .unset] [])) rfl (hb hby at_33) (by decide) (by decide)
      obtain ⟨b104, g104⟩ : ∃ z, z = T102.heap.size := ⟨_, rfl⟩
      rw [← g104] at A104 D104 st104
      have y104 := own_lt A104.lt
      have z104 := E104.1
      have F104_severity : Fld Z h104 b104 "jakarta/faces/application/FacesMessage" "severity" "Ljakarta/faces/application/FacesMessage$Severity;" .null := D104 (Or.inl (hw _ (List.mem_of_getElem? (i := 22) rfl))) (ty := (.object "jakarta/faces/application/FacesMessage$Severity")) (by decide)
      have F104_summary : Fld Z h104 b104 "jakarta/faces/application/FacesMessage" "summary" "Ljava/lang/String;" .null := D104 (Or.inl (hw _ (List.mem_of_getElem? (i := 24) rfl))) (ty := (.object "java/lang/String")) (by decide)
      have F104_detail : Fld Z h104 b104 "jakarta/faces/application/FacesMessage" "detail" "Ljava/lang/String;" .null := D104 (Or.inl (hw _ (List.mem_of_getElem? (i := 26) rfl))) (ty := (.object "java/lang/String")) (by decide)
      refine own_stW st104 ?_
      show own_GoesW p e below s _ _ (T104.setTop (mkF m 36 #[iv p0, iv p1, iv p2, iv p3, iv p4, .val .null, .val .null, .unset, .unset, .unset] [(.ref b104)]))
      refine own_stW (fun _ k => XS.dup X104.here hx rfl (hb hby at_36) rfl rfl k) ?_
      show own_GoesW p e below s _ _ (T104.setTop (mkF m 37 #[iv p0, iv p1, iv p2, iv p3, iv p4, .val .null, .val .null, .unset, .unset, .unset] [(.ref b104), (.ref b104)]))
      have f106 := ((own_sta_keep (own_sta_keep S2 K101 own_pl0) K102 own_pl0).ext E104)
      obtain ⟨v105, T105, L105, X105, Q105, st105⟩ := own_callI X104 hx hZ (y := (⟨"jakarta/faces/application/FacesMessage", "<init>", "()V"⟩ : MethodName)) hown (hw _ (List.mem_of_getElem? (i := 7) rfl)) (hw _ (List.mem_of_getElem? (i := 8) rfl)) (hw _ (List.mem_of_getElem? (i := 6) rfl)) (hw _ (List.mem_of_getElem? (i := 9) rfl)) rfl (by decide) (W := 1) (rest := [(.ref b104)]) (argsL := []) (a := b104) (rmI0 l Z a0 hw [] b104 sv _ _ _  h104 n0 (by omega) A104 F104_severity F104_summary F104_detail (by omega) f106) (by decide) (by decide) (by decide) (by decide) e104 own_pd8 rfl (g := (mkF m 37 #[iv p0, iv p1, iv p2, iv p3, iv p4, .val .null, .val .null, .unset, .unset, .unset] [(.ref b104), (.ref b104)])) rfl (by rw [hml]; rfl) rfl (by show 2 * 0 + _ ≤ _; exact Nat.le_of_eq rfl) (hb hby at_37)
      obtain ⟨rfl, N105q, K105, A105, Fs105, Fd105⟩ := Q105
      have z105 := K105.1
      have N105 := Fr.app N102 N105q
      refine own_stW st105 ?_
      show own_GoesW p e below s _ _ (T105.setTop (mkF m 40 #[iv p0, iv p1, iv p2, iv p3, iv p4, .val .null, .val .null, .unset, .unset, .unset] [(.ref b104)]))
      refine own_stW (fun _ k => XS.astore X105.here hx rfl (hb hby at_40) rfl rfl (l' := #[iv p0, iv p1, iv p2, iv p3, iv p4, .val .null, .val .null, rv b104, .unset, .unset]) rfl k) ?_
      show own_GoesW p e below s _ _ (T105.setTop (mkF m 42 #[iv p0, iv p1, iv p2, iv p3, iv p4, .val .null, .val .null, rv b104, .unset, .unset] []))
      refine own_stW (fun _ k => XS.aload X105.here hx rfl (hb hby at_42) rfl rfl  k) ?_
      show own_GoesW p e below s _ _ (T105.setTop (mkF m 44 #[iv p0, iv p1, iv p2, iv p3, iv p4, .val .null, .val .null, rv b104, .unset, .unset] [(.ref b104)]))
      refine own_stW (fun _ k => XS.aload X105.here hx rfl (hb hby at_44) rfl rfl  k) ?_
      show own_GoesW p e below s _ _ (T105.setTop (mkF m 46 #[iv p0, iv p1, iv p2, iv p3, iv p4, .val .null, .val .null, rv b104, .unset, .unset] [.null, (.ref b104)]))
      obtain ⟨v107, T107, L107, X107, Q107, st107⟩ := own_callV X105 hx hZ (C := "jakarta/faces/application/FacesMessage") (y := (⟨"jakarta/faces/application/FacesMessage", "setSummary", "(Ljava/lang/String;)V"⟩ : MethodName)) hown (hw _ (List.mem_of_getElem? (i := 27) rfl)) (hw _ (List.mem_of_getElem? (i := 28) rfl)) (hw _ (List.mem_of_getElem? (i := 30) rfl)) (hw _ (List.mem_of_getElem? (i := 29) rfl)) (hw _ (List.mem_of_getElem? (i := 6) rfl)) (hw _ (List.mem_of_getElem? (i := 31) rfl)) (by decide) (W := 0) (rest := []) (argsL := [.null]) (a := b104) (rmSS l Z a0 hw [] b104 .null _ _ T105.heap n0 (by omega) rfl A105 Fs105 Fd105 (by omega)) (by decide) (by decide) (by decide) (by decide) rfl A105 own_pd9 rfl (g := (mkF m 46 #[iv p0, iv p1, iv p2, iv p3, iv p4, .val .null, .val .null, rv b104, .unset, .unset] [.null, (.ref b104)])) rfl (by rw [hml]; rfl) rfl (by show 2 * 0 + _ ≤ _; exact Nat.le_of_eq rfl) (hb hby at_46)
      obtain ⟨rfl, N107q, K107, A107, Fs107, Fd107⟩ := Q107
      have z107 := K107.1
      have N107 := Fr.app N105 N107q
      refine own_stW st107 ?_
      show own_GoesW p e below s _ _ (T107.setTop (mkF m 49 #[iv p0, iv p1, iv p2, iv p3, iv p4, .val .null, .val .null, rv b104, .unset, .unset] []))
      refine own_stW (fun _ k => XS.aload X107.here hx rfl (hb hby at_49) rfl rfl  k) ?_
      show own_GoesW p e below s _ _ (T107.setTop (mkF m 51 #[iv p0, iv p1, iv p2, iv p3, iv p4, .val .null, .val .null, rv b104, .unset, .unset] [(.ref b104)]))
      refine own_stW (fun _ k => XS.aload X107.here hx rfl (hb hby at_51) rfl rfl  k) ?_
      show own_GoesW p e below s _ _ (T107.setTop (mkF m 53 #[iv p0, iv p1, iv p2, iv p3, iv p4, .val .null, .val .null, rv b104, .unset, .unset] [.null, (.ref b104)]))
      obtain ⟨v108, T108, L108, X108, Q108, st108⟩ := own_callV X107 hx hZ (C := "jakarta/faces/application/FacesMessage") (y := (⟨"jakarta/faces/application/FacesMessage", "setDetail", "(Ljava/lang/String;)V"⟩ : MethodName)) hown (hw _ (List.mem_of_getElem? (i := 32) rfl)) (hw _ (List.mem_of_getElem? (i := 33) rfl)) (hw _ (List.mem_of_getElem? (i := 35) rfl)) (hw _ (List.mem_of_getElem? (i := 34) rfl)) (hw _ (List.mem_of_getElem? (i := 6) rfl)) (hw _ (List.mem_of_getElem? (i := 36) rfl)) (by decide) (W := 0) (rest := []) (argsL := [.null]) (a := b104) (rmSD l Z a0 hw [] b104 .null _ _ T107.heap n0 (by omega) rfl A107 Fs107 Fd107 (by omega)) (by decide) (by decide) (by decide) (by decide) rfl A107 own_pd9 rfl (g := (mkF m 53 #[iv p0, iv p1, iv p2, iv p3, iv p4, .val .null, .val .null, rv b104, .unset, .unset] [.null, (.ref b104)])) rfl (by rw [hml]; rfl) rfl (by show 2 * 0 + _ ≤ _; exact Nat.le_of_eq rfl) (hb hby at_53)
      obtain ⟨rfl, N108q, K108, A108, Fs108, Fd108⟩ := Q108
      have z108 := K108.1
      have N108 := Fr.app N107 N108q
      refine own_stW st108 ?_
      show own_GoesW p e below s _ _ (T108.setTop (mkF m 56 #[iv p0, iv p1, iv p2, iv p3, iv p4, .val .null, .val .null, rv b104, .unset, .unset] []))
      refine own_stW (fun _ k => XS.aload X108.here hx rfl (hb hby at_56) rfl rfl  k) ?_
      show own_GoesW p e below s _ _ (T108.setTop (mkF m 58 #[iv p0, iv p1, iv p2, iv p3, iv p4, .val .null, .val .null, rv b104, .unset, .unset] [(.ref b104)]))
      obtain ⟨v109, T109, L109, X109, Q109, st109⟩ := own_callV X108 hx hZ (C := "jakarta/faces/application/FacesMessage") (y := (⟨"jakarta/faces/application/FacesMessage", "getDetail", "()Ljava/lang/String;"⟩ : MethodName)) hown (hw _ (List.mem_of_getElem? (i := 37) rfl)) (hw _ (List.mem_of_getElem? (i := 38) rfl)) (hw _ (List.mem_of_getElem? (i := 40) rfl)) (hw _ (List.mem_of_getElem? (i := 39) rfl)) (hw _ (List.mem_of_getElem? (i := 6) rfl)) (hw _ (List.mem_of_getElem? (i := 41) rfl)) (by decide) (W := 0) (rest := []) (argsL := []) (a := b104) (rmD1 l Z a0 hw [] b104 .null 0 T108.heap n0 (by omega) rfl Fs108 Fd108) (by decide) (by decide) (by decide) (by decide) rfl A108 own_pd10 rfl (g := (mkF m 58 #[iv p0, iv p1, iv p2, iv p3, iv p4, .val .null, .val .null, rv b104, .unset, .unset] [(.ref b104)])) rfl (by rw [hml]; rfl) rfl (by show 2 * 0 + _ ≤ _; exact Nat.le_of_eq rfl) (hb hby at_58)
      obtain ⟨rfl, N109q, e109⟩ := Q109
      have N109 := Fr.app N108 N109q
      refine own_stW st109 ?_
      show own_GoesW p e below s _ _ (T109.setTop (mkF m 61 #[iv p0, iv p1, iv p2, iv p3, iv p4, .val .null, .val .null, rv b104, .unset, .unset] [.null]))
      refine own_stW (fun _ k => XS.astore X109.here hx rfl (hb hby at_61) rfl rfl (l' := #[iv p0, iv p1, iv p2, iv p3, iv p4, .val .null, .val .null, rv b104, .val .null, .unset]) rfl k) ?_
      show own_GoesW p e below s _ _ (T109.setTop (mkF m 63 #[iv p0, iv p1, iv p2, iv p3, iv p4, .val .null, .val .null, rv b104, .val .null, .unset] []))
      refine own_stW (fun _ k => XS.aload X109.here hx rfl (hb hby at_63) rfl rfl  k) ?_
      show own_GoesW p e below s _ _ (T109.setTop (mkF m 65 #[iv p0, iv p1, iv p2, iv p3, iv p4, .val .null, .val .null, rv b104, .val .null, .unset] [.null]))
      refine own_stW (fun _ k => XS.ifnullYes X109.here hx rfl (pc0 := 65) (pc' := 80) rfl (hb hby at_65) rfl (by decide) (by decide) k) ?_
      show own_GoesW p e below s _ _ (T109.setTop (mkF m 80 #[iv p0, iv p1, iv p2, iv p3, iv p4, .val .null, .val .null, rv b104, .val .null, .unset] []))
      refine own_stW (fun _ k => XS.aload X109.here hx rfl (hb hby at_80) rfl rfl  k) ?_
      show own_GoesW p e below s _ _ (T109.setTop (mkF m 82 #[iv p0, iv p1, iv p2, iv p3, iv p4, .val .null, .val .null, rv b104, .val .null, .unset] [.null]))
      refine own_stW (fun _ k => XS.ifnullYes X109.here hx rfl (pc0 := 82) (pc' := 97) rfl (hb hby at_82) rfl (by decide) (by decide) k) ?_
      show own_GoesW p e below s _ _ (T109.setTop (mkF m 97 #[iv p0, iv p1, iv p2, iv p3, iv p4, .val .null, .val .null, rv b104, .val .null, .unset] []))
      refine own_stW (fun _ k => XS.aload X109.here hx rfl (hb hby at_97) rfl rfl  k) ?_
      show own_GoesW p e below s _ _ (T109.setTop (mkF m 99 #[iv p0, iv p1, iv p2, iv p3, iv p4, .val .null, .val .null, rv b104, .val .null, .unset] [.null]))
      refine own_stW (fun _ k => XS.ifnonnullNo X109.here hx rfl (hb hby at_99) rfl k) ?_
      show own_GoesW p e below s _ _ (T109.setTop (mkF m 102 #[iv p0, iv p1, iv p2, iv p3, iv p4, .val .null, .val .null, rv b104, .val .null, .unset] []))
      refine own_stW (fun _ k => XS.iconst X109.here hx rfl (hb hby at_102) k) ?_
      show own_GoesW p e below s _ _ (T109.setTop (mkF m 103 #[iv p0, iv p1, iv p2, iv p3, iv p4, .val .null, .val .null, rv b104, .val .null, .unset] [(.int (1 : Int32))]))
      refine own_stW (fun _ k => XS.goto X109.here hx rfl (pc0 := 103) (pc' := 107) rfl (hb hby at_103) (by decide) (by decide) k) ?_
      show own_GoesW p e below s _ _ (T109.setTop (mkF m 107 #[iv p0, iv p1, iv p2, iv p3, iv p4, .val .null, .val .null, rv b104, .val .null, .unset] [(.int (1 : Int32))]))
      refine own_stW (fun _ k => XS.istore X109.here hx rfl (hb hby at_107) rfl (l' := #[iv p0, iv p1, iv p2, iv p3, iv p4, .val .null, .val .null, rv b104, .val .null, iv (1 : Int32)]) rfl k) ?_
      show own_GoesW p e below s _ _ (T109.setTop (mkF m 109 #[iv p0, iv p1, iv p2, iv p3, iv p4, .val .null, .val .null, rv b104, .val .null, iv (1 : Int32)] []))
      refine own_stW (fun _ k => XS.iload X109.here hx rfl (hb hby at_109) rfl  k) ?_
      show own_GoesW p e below s _ _ (T109.setTop (mkF m 111 #[iv p0, iv p1, iv p2, iv p3, iv p4, .val .null, .val .null, rv b104, .val .null, iv (1 : Int32)] [(.int (1 : Int32))]))
      refine own_stW (fun _ k => XS.ifNo X109.here hx rfl (hb hby at_111) rfl ((if0 _ _).trans (feq (by decide : ¬ ((1 : Int32) = (0 : Int32)))).1) k) ?_
      show own_GoesW p e below s _ _ (T109.setTop (mkF m 114 #[iv p0, iv p1, iv p2, iv p3, iv p4, .val .null, .val .null, rv b104, .val .null, iv (1 : Int32)] []))
      refine own_stW (fun _ k => XS.aload X109.here hx rfl (hb hby at_114) rfl rfl  k) ?_
      show own_GoesW p e below s _ _ (T109.setTop (mkF m 116 #[iv p0, iv p1, iv p2, iv p3, iv p4, .val .null, .val .null, rv b104, .val .null, iv (1 : Int32)] [(.ref b104)]))
      obtain ⟨v110, T110, L110, X110, Q110, st110⟩ := own_callV X109 hx hZ (C := "jakarta/faces/application/FacesMessage") (y := (⟨"jakarta/faces/application/FacesMessage", "getSummary", "()Ljava/lang/String;"⟩ : MethodName)) hown (hw _ (List.mem_of_getElem? (i := 42) rfl)) (hw _ (List.mem_of_getElem? (i := 43) rfl)) (hw _ (List.mem_of_getElem? (i := 45) rfl)) (hw _ (List.mem_of_getElem? (i := 44) rfl)) (hw _ (List.mem_of_getElem? (i := 6) rfl)) (hw _ (List.mem_of_getElem? (i := 46) rfl)) (by decide) (W := 0) (rest := []) (argsL := []) (a := b104) (rmGS l Z a0 hw [] b104 .null T108.heap n0 (by omega) rfl Fs108) (by decide) (by decide) (by decide) (by decide) e109 A108 own_pd10 rfl (g := (mkF m 116 #[iv p0, iv p1, iv p2, iv p3, iv p4, .val .null, .val .null, rv b104, .val .null, iv (1 : Int32)] [(.ref b104)])) rfl (by rw [hml]; rfl) rfl (by show 2 * 0 + _ ≤ _; exact Nat.le_of_eq rfl) (hb hby at_116)
      obtain ⟨rfl, N110q, e110⟩ := Q110
      have N110 := Fr.app N109 N110q
      refine own_stW st110 ?_
      show own_GoesW p e below s _ _ (T110.setTop (mkF m 119 #[iv p0, iv p1, iv p2, iv p3, iv p4, .val .null, .val .null, rv b104, .val .null, iv (1 : Int32)] [.null]))
      refine own_stW (fun _ k => XS.aload X110.here hx rfl (hb hby at_119) rfl rfl  k) ?_
      show own_GoesW p e below s _ _ (T110.setTop (mkF m 121 #[iv p0, iv p1, iv p2, iv p3, iv p4, .val .null, .val .null, rv b104, .val .null, iv (1 : Int32)] [.null, .null]))
      refine own_stW (fun _ k => Jvm.RoadKit.acmp (g := (mkF m 121 #[iv p0, iv p1, iv p2, iv p3, iv p4, .val .null, .val .null, rv b104, .val .null, iv (1 : Int32)] [.null, .null])) X110 hx rfl rfl rfl (pc0 := 121) (pc' := 124) (same := true) rfl (hb hby at_121) rfl (decide_eq_true rfl) (by decide) (by decide) k) ?_
      show own_GoesW p e below s _ _ (T110.setTop (mkF m 124 #[iv p0, iv p1, iv p2, iv p3, iv p4, .val .null, .val .null, rv b104, .val .null, iv (1 : Int32)] []))
      refine own_stW (fun _ k => XS.iconst X110.here hx rfl (hb hby at_124) k) ?_
      show own_GoesW p e below s _ _ (T110.setTop (mkF m 125 #[iv p0, iv p1, iv p2, iv p3, iv p4, .val .null, .val .null, rv b104, .val .null, iv (1 : Int32)] [(.int (1 : Int32))]))
      refine own_stW (fun _ k => XS.goto X110.here hx rfl (pc0 := 125) (pc' := 129) rfl (hb hby at_125) (by decide) (by decide) k) ?_
      show own_GoesW p e below s _ _ (T110.setTop (mkF m 129 #[iv p0, iv p1, iv p2, iv p3, iv p4, .val .null, .val .null, rv b104, .val .null, iv (1 : Int32)] [(.int (1 : Int32))]))
      exact own_retNW X110 hx hS (by rw [e110]; omega) hlk (1 : Int32) hret (Or.inl rfl) rfl (hb hby at_129) (by decide) (by decide) ⟨rfl, N110⟩
    · have y102 := own_lt B102.lt
      show own_GoesW p e below s _ _ (T102.setTop (mkF m 31 #[iv p0, iv p1, iv p2, iv p3, iv p4, .val .null, .unset, .unset, .unset, .unset] [(.ref b102)]))
      refine own_stW (fun _ k => XS.astore X102.here hx rfl (hb hby at_31) rfl rfl (l' := #[iv p0, iv p1, iv p2, iv p3, iv p4, .val .null, rv b102, .unset, .unset, .unset]) rfl k) ?_
      show own_GoesW p e below s _ _ (T102.setTop (mkF m 33 #[iv p0, iv p1, iv p2, iv p3, iv p4, .val .null, rv b102, .unset, .unset, .unset] []))
      obtain ⟨T111, h111, X111, e111, E111, A111, D111, -, st111⟩ := newO X102 hx hZ hown (hw _ (List.mem_of_getElem? (i := 4) rfl)) (hw _ (List.mem_of_getElem? (i := 5) rfl)) (hw _ (List.mem_of_getElem? (i := 6) rfl)) rfl (g := (mkF m 33 #[iv p0, iv p1, iv p2, iv p3, iv p4, .val .null, rv b102, .unset, .unset, .unset] [])) rfl (hb hby at_33) (by decide) (by decide)
      obtain ⟨b111, g111⟩ : ∃ z, z = T102.heap.size := ⟨_, rfl⟩
      rw [← g111] at A111 D111 st111
      have y111 := own_lt A111.lt
      have z111 := E111.1
      have F111_severity : Fld Z h111 b111 "jakarta/faces/application/FacesMessage" "severity" "Ljakarta/faces/application/FacesMessage$Severity;" .null := D111 (Or.inl (hw _ (List.mem_of_getElem? (i := 22) rfl))) (ty := (.object "jakarta/faces/application/FacesMessage$Severity")) (by decide)
      have F111_summary : Fld Z h111 b111 "jakarta/faces/application/FacesMessage" "summary" "Ljava/lang/String;" .null := D111 (Or.inl (hw _ (List.mem_of_getElem? (i := 24) rfl))) (ty := (.object "java/lang/String")) (by decide)
      have F111_detail : Fld Z h111 b111 "jakarta/faces/application/FacesMessage" "detail" "Ljava/lang/String;" .null := D111 (Or.inl (hw _ (List.mem_of_getElem? (i := 26) rfl))) (ty := (.object "java/lang/String")) (by decide)
      refine own_stW st111 ?_
      show own_GoesW p e below s _ _ (T111.setTop (mkF m 36 #[iv p0, iv p1, iv p2, iv p3, iv p4, .val .null, rv b102, .unset, .unset, .unset] [(.ref b111)]))
      refine own_stW (fun _ k => XS.dup X111.here hx rfl (hb hby at_36) rfl rfl k) ?_
      show own_GoesW p e below s _ _ (T111.setTop (mkF m 37 #[iv p0, iv p1, iv p2, iv p3, iv p4, .val .null, rv b102, .unset, .unset, .unset] [(.ref b111), (.ref b111)]))
      have f113 := ((own_sta_keep (own_sta_keep S2 K101 own_pl0) K102 own_pl0).ext E111)
      obtain ⟨v112, T112, L112, X112, Q112, st112⟩ := own_callI X111 hx hZ (y := (⟨"jakarta/faces/application/FacesMessage", "<init>", "()V"⟩ : MethodName)) hown (hw _ (List.mem_of_getElem? (i := 7) rfl)) (hw _ (List.mem_of_getElem? (i := 8) rfl)) (hw _ (List.mem_of_getElem? (i := 6) rfl)) (hw _ (List.mem_of_getElem? (i := 9) rfl)) rfl (by decide) (W := 1) (rest := [(.ref b111)]) (argsL := []) (a := b111) (rmI0 l Z a0 hw [] b111 sv _ _ _  h111 n0 (by omega) A111 F111_severity F111_summary F111_detail (by omega) f113) (by decide) (by decide) (by decide) (by decide) e111 own_pd8 rfl (g := (mkF m 37 #[iv p0, iv p1, iv p2, iv p3, iv p4, .val .null, rv b102, .unset, .unset, .unset] [(.ref b111), (.ref b111)])) rfl (by rw [hml]; rfl) rfl (by show 2 * 0 + _ ≤ _; exact Nat.le_of_eq rfl) (hb hby at_37)
      obtain ⟨rfl, N112q, K112, A112, Fs112, Fd112⟩ := Q112
      have z112 := K112.1
      have N112 := Fr.app N102 N112q
      refine own_stW st112 ?_
      show own_GoesW p e below s _ _ (T112.setTop (mkF m 40 #[iv p0, iv p1, iv p2, iv p3, iv p4, .val .null, rv b102, .unset, .unset, .unset] [(.ref b111)]))
      refine own_stW (fun _ k => XS.astore X112.here hx rfl (hb hby at_40) rfl rfl (l' := #[iv p0, iv p1, iv p2, iv p3, iv p4, .val .null, rv b102, rv b111, .unset, .unset]) rfl k) ?_
      show own_GoesW p e below s _ _ (T112.setTop (mkF m 42 #[iv p0, iv p1, iv p2, iv p3, iv p4, .val .null, rv b102, rv b111, .unset, .unset] []))
      refine own_stW (fun _ k => XS.aload X112.here hx rfl (hb hby at_42) rfl rfl  k) ?_
      show own_GoesW p e below s _ _ (T112.setTop (mkF m 44 #[iv p0, iv p1, iv p2, iv p3, iv p4, .val .null, rv b102, rv b111, .unset, .unset] [(.ref b111)]))
      refine own_stW (fun _ k => XS.aload X112.here hx rfl (hb hby at_44) rfl rfl  k) ?_
      show own_GoesW p e below s _ _ (T112.setTop (mkF m 46 #[iv p0, iv p1, iv p2, iv p3, iv p4, .val .null, rv b102, rv b111, .unset, .unset] [.null, (.ref b111)]))
      obtain ⟨v114, T114, L114, X114, Q114, st114⟩ := own_callV X112 hx hZ (C := "jakarta/faces/application/FacesMessage") (y := (⟨"jakarta/faces/application/FacesMessage", "setSummary", "(Ljava/lang/String;)V"⟩ : MethodName)) hown (hw _ (List.mem_of_getElem? (i := 27) rfl)) (hw _ (List.mem_of_getElem? (i := 28) rfl)) (hw _ (List.mem_of_getElem? (i := 30) rfl)) (hw _ (List.mem_of_getElem? (i := 29) rfl)) (hw _ (List.mem_of_getElem? (i := 6) rfl)) (hw _ (List.mem_of_getElem? (i := 31) rfl)) (by decide) (W := 0) (rest := []) (argsL := [.null]) (a := b111) (rmSS l Z a0 hw [] b111 .null _ _ T112.heap n0 (by omega) rfl A112 Fs112 Fd112 (by omega)) (by decide) (by decide) (by decide) (by decide) rfl A112 own_pd9 rfl (g := (mkF m 46 #[iv p0, iv p1, iv p2, iv p3, iv p4, .val .null, rv b102, rv b111, .unset, .unset] [.null, (.ref b111)])) rfl (by rw [hml]; rfl) rfl (by show 2 * 0 + _ ≤ _; exact Nat.le_of_eq rfl) (hb hby at_46)
      obtain ⟨rfl, N114q, K114, A114, Fs114, Fd114⟩ := Q114
      have z114 := K114.1
      have N114 := Fr.app N112 N114q
      refine own_stW st114 ?_
      show own_GoesW p e below s _ _ (T114.setTop (mkF m 49 #[iv p0, iv p1, iv p2, iv p3, iv p4, .val .null, rv b102, rv b111, .unset, .unset] []))
      refine own_stW (fun _ k => XS.aload X114.here hx rfl (hb hby at_49) rfl rfl  k) ?_
      show own_GoesW p e below s _ _ (T114.setTop (mkF m 51 #[iv p0, iv p1, iv p2, iv p3, iv p4, .val .null, rv b102, rv b111, .unset, .unset] [(.ref b111)]))
      refine own_stW (fun _ k => XS.aload X114.here hx rfl (hb hby at_51) rfl rfl  k) ?_
      show own_GoesW p e below s _ _ (T114.setTop (mkF m 53 #[iv p0, iv p1, iv p2, iv p3, iv p4, .val .null, rv b102, rv b111, .unset, .unset] [(.ref b102), (.ref b111)]))
      obtain ⟨v115, T115, L115, X115, Q115, st115⟩ := own_callV X114 hx hZ (C := "jakarta/faces/application/FacesMessage") (y := (⟨"jakarta/faces/application/FacesMessage", "setDetail", "(Ljava/lang/String;)V"⟩ : MethodName)) hown (hw _ (List.mem_of_getElem? (i := 32) rfl)) (hw _ (List.mem_of_getElem? (i := 33) rfl)) (hw _ (List.mem_of_getElem? (i := 35) rfl)) (hw _ (List.mem_of_getElem? (i := 34) rfl)) (hw _ (List.mem_of_getElem? (i := 6) rfl)) (hw _ (List.mem_of_getElem? (i := 36) rfl)) (by decide) (W := 0) (rest := []) (argsL := [(.ref b102)]) (a := b111) (rmSD l Z a0 hw [] b111 (.ref b102) _ _ T114.heap n0 (by omega) rfl A114 Fs114 Fd114 (by omega)) (by decide) (by decide) (by decide) (by decide) rfl A114 own_pd9 rfl (g := (mkF m 53 #[iv p0, iv p1, iv p2, iv p3, iv p4, .val .null, rv b102, rv b111, .unset, .unset] [(.ref b102), (.ref b111)])) rfl (by rw [hml]; rfl) rfl (by show 2 * 0 + _ ≤ _; exact Nat.le_of_eq rfl) (hb hby at_53)
      obtain ⟨rfl, N115q, K115, A115, Fs115, Fd115⟩ := Q115
      have z115 := K115.1
      have N115 := Fr.app N114 N115q
      refine own_stW st115 ?_
      show own_GoesW p e below s _ _ (T115.setTop (mkF m 56 #[iv p0, iv p1, iv p2, iv p3, iv p4, .val .null, rv b102, rv b111, .unset, .unset] []))
      refine own_stW (fun _ k => XS.aload X115.here hx rfl (hb hby at_56) rfl rfl  k) ?_
      show own_GoesW p e below s _ _ (T115.setTop (mkF m 58 #[iv p0, iv p1, iv p2, iv p3, iv p4, .val .null, rv b102, rv b111, .unset, .unset] [(.ref b111)]))
      obtain ⟨v116, T116, L116, X116, Q116, st116⟩ := own_callV X115 hx hZ (C := "jakarta/faces/application/FacesMessage") (y := (⟨"jakarta/faces/application/FacesMessage", "getDetail", "()Ljava/lang/String;"⟩ : MethodName)) hown (hw _ (List.mem_of_getElem? (i := 37) rfl)) (hw _ (List.mem_of_getElem? (i := 38) rfl)) (hw _ (List.mem_of_getElem? (i := 40) rfl)) (hw _ (List.mem_of_getElem? (i := 39) rfl)) (hw _ (List.mem_of_getElem? (i := 6) rfl)) (hw _ (List.mem_of_getElem? (i := 41) rfl)) (by decide) (W := 0) (rest := []) (argsL := []) (a := b111) (rmD0 l Z a0 hw [] b111 .null b102 T115.heap n0 (by omega) rfl Fs115 Fd115) (by decide) (by decide) (by decide) (by decide) rfl A115 own_pd10 rfl (g := (mkF m 58 #[iv p0, iv p1, iv p2, iv p3, iv p4, .val .null, rv b102, rv b111, .unset, .unset] [(.ref b111)])) rfl (by rw [hml]; rfl) rfl (by show 2 * 0 + _ ≤ _; exact Nat.le_of_eq rfl) (hb hby at_58)
      obtain ⟨rfl, N116q, e116⟩ := Q116
      have N116 := Fr.app N115 N116q
      refine own_stW st116 ?_
      show own_GoesW p e below s _ _ (T116.setTop (mkF m 61 #[iv p0, iv p1, iv p2, iv p3, iv p4, .val .null, rv b102, rv b111, .unset, .unset] [(.ref b102)]))
      refine own_stW (fun _ k => XS.astore X116.here hx rfl (hb hby at_61) rfl rfl (l' := #[iv p0, iv p1, iv p2, iv p3, iv p4, .val .null, rv b102, rv b111, rv b102, .unset]) rfl k) ?_
      show own_GoesW p e below s _ _ (T116.setTop (mkF m 63 #[iv p0, iv p1, iv p2, iv p3, iv p4, .val .null, rv b102, rv b111, rv b102, .unset] []))
      refine own_stW (fun _ k => XS.aload X116.here hx rfl (hb hby at_63) rfl rfl  k) ?_
      show own_GoesW p e below s _ _ (T116.setTop (mkF m 65 #[iv p0, iv p1, iv p2, iv p3, iv p4, .val .null, rv b102, rv b111, rv b102, .unset] [(.ref b102)]))
      refine own_stW (fun _ k => XS.ifnullNo X116.here hx rfl (hb hby at_65) rfl k) ?_
      show own_GoesW p e below s _ _ (T116.setTop (mkF m 68 #[iv p0, iv p1, iv p2, iv p3, iv p4, .val .null, rv b102, rv b111, rv b102, .unset] []))
      refine own_stW (fun _ k => XS.aload X116.here hx rfl (hb hby at_68) rfl rfl  k) ?_
      show own_GoesW p e below s _ _ (T116.setTop (mkF m 70 #[iv p0, iv p1, iv p2, iv p3, iv p4, .val .null, rv b102, rv b111, rv b102, .unset] [(.ref b102)]))
      refine own_stW (fun _ k => XS.aload X116.here hx rfl (hb hby at_70) rfl rfl  k) ?_
      show own_GoesW p e below s _ _ (T116.setTop (mkF m 72 #[iv p0, iv p1, iv p2, iv p3, iv p4, .val .null, rv b102, rv b111, rv b102, .unset] [(.ref b102), (.ref b102)]))
      have f118 := ((((B102.ext E111).keep K112).keep K114).keep K115)
      obtain ⟨v117, T117, L117, X117, Q117, st117⟩ := own_callV X116 hx hZ (C := "java/lang/String") (y := (⟨"java/lang/String", "equals", "(Ljava/lang/Object;)Z"⟩ : MethodName)) hown (hw _ (List.mem_of_getElem? (i := 75) rfl)) (hw _ (List.mem_of_getElem? (i := 76) rfl)) (hw _ (List.mem_of_getElem? (i := 78) rfl)) (hw _ (List.mem_of_getElem? (i := 77) rfl)) (hw _ (List.mem_of_getElem? (i := 49) rfl)) (hw _ (List.mem_of_getElem? (i := 79) rfl)) (by decide) (W := 0) (rest := []) (argsL := [(.ref b102)]) (a := b102) (rmEq l Z a0 hw [] b102 T115.heap n0 (by omega)) (by decide) (by decide) (by decide) (by decide) e116 f118 own_pd11 rfl (g := (mkF m 72 #[iv p0, iv p1, iv p2, iv p3, iv p4, .val .null, rv b102, rv b111, rv b102, .unset] [(.ref b102), (.ref b102)])) rfl (by rw [hml]; rfl) rfl (by show 2 * 0 + _ ≤ _; exact Nat.le_of_eq rfl) (hb hby at_72)
      obtain ⟨rfl, N117q, e117⟩ := Q117
      have N117 := Fr.app N116 N117q
      refine own_stW st117 ?_
      show own_GoesW p e below s _ _ (T117.setTop (mkF m 75 #[iv p0, iv p1, iv p2, iv p3, iv p4, .val .null, rv b102, rv b111, rv b102, .unset] [(.int (1 : Int32))]))
      refine own_stW (fun _ k => XS.istore X117.here hx rfl (hb hby at_75) rfl (l' := #[iv p0, iv p1, iv p2, iv p3, iv p4, .val .null, rv b102, rv b111, rv b102, iv (1 : Int32)]) rfl k) ?_
      show own_GoesW p e below s _ _ (T117.setTop (mkF m 77 #[iv p0, iv p1, iv p2, iv p3, iv p4, .val .null, rv b102, rv b111, rv b102, iv (1 : Int32)] []))
      refine own_stW (fun _ k => XS.goto X117.here hx rfl (pc0 := 77) (pc' := 109) rfl (hb hby at_77) (by decide) (by decide) k) ?_
      show own_GoesW p e below s _ _ (T117.setTop (mkF m 109 #[iv p0, iv p1, iv p2, iv p3, iv p4, .val .null, rv b102, rv b111, rv b102, iv (1 : Int32)] []))
      refine own_stW (fun _ k => XS.iload X117.here hx rfl (hb hby at_109) rfl  k) ?_
      show own_GoesW p e below s _ _ (T117.setTop (mkF m 111 #[iv p0, iv p1, iv p2, iv p3, iv p4, .val .null, rv b102, rv b111, rv b102, iv (1 : Int32)] [(.int (1 : Int32))]))
      refine own_stW (fun _ k => XS.ifNo X117.here hx rfl (hb hby at_111) rfl ((if0 _ _).trans (feq (by decide : ¬ ((1 : Int32) = (0 : Int32)))).1) k) ?_
      show own_GoesW p e below s _ _ (T117.setTop (mkF m 114 #[iv p0, iv p1, iv p2, iv p3, iv p4, .val .null, rv b102, rv b111, rv b102, iv (1 : Int32)] []))
      refine own_stW (fun _ k => XS.aload X117.here hx rfl (hb hby at_114) rfl rfl  k) ?_
      show own_GoesW p e below s _ _ (T117.setTop (mkF m 116 #[iv p0, iv p1, iv p2, iv p3, iv p4, .val .null, rv b102, rv b111, rv b102, iv (1 : Int32)] [(.ref b111)]))
      obtain ⟨v119, T119, L119, X119, Q119, st119⟩ := own_callV X117 hx hZ (C := "jakarta/faces/application/FacesMessage") (y := (⟨"jakarta/faces/application/FacesMessage", "getSummary", "()Ljava/lang/String;"⟩ : MethodName)) hown (hw _ (List.mem_of_getElem? (i := 42) rfl)) (hw _ (List.mem_of_getElem? (i := 43) rfl)) (hw _ (List.mem_of_getElem? (i := 45) rfl)) (hw _ (List.mem_of_getElem? (i := 44) rfl)) (hw _ (List.mem_of_getElem? (i := 6) rfl)) (hw _ (List.mem_of_getElem? (i := 46) rfl)) (by decide) (W := 0) (rest := []) (argsL := []) (a := b111) (rmGS l Z a0 hw [] b111 .null T115.heap n0 (by omega) rfl Fs115) (by decide) (by decide) (by decide) (by decide) e117 A115 own_pd10 rfl (g := (mkF m 116 #[iv p0, iv p1, iv p2, iv p3, iv p4, .val .null, rv b102, rv b111, rv b102, iv (1 : Int32)] [(.ref b111)])) rfl (by rw [hml]; rfl) rfl (by show 2 * 0 + _ ≤ _; exact Nat.le_of_eq rfl) (hb hby at_116)
      obtain ⟨rfl, N119q, e119⟩ := Q119
      have N119 := Fr.app N117 N119q
      refine own_stW st119 ?_
      show own_GoesW p e below s _ _ (T119.setTop (mkF m 119 #[iv p0, iv p1, iv p2, iv p3, iv p4, .val .null, rv b102, rv b111, rv b102, iv (1 : Int32)] [.null]))
      refine own_stW (fun _ k => XS.aload X119.here hx rfl (hb hby at_119) rfl rfl  k) ?_
      show own_GoesW p e below s _ _ (T119.setTop (mkF m 121 #[iv p0, iv p1, iv p2, iv p3, iv p4, .val .null, rv b102, rv b111, rv b102, iv (1 : Int32)] [.null, .null]))
      refine own_stW (fun _ k => Jvm.RoadKit.acmp (g := (mkF m 121 #[iv p0, iv p1, iv p2, iv p3, iv p4, .val .null, rv b102, rv b111, rv b102, iv (1 : Int32)] [.null, .null])) X119 hx rfl rfl rfl (pc0 := 121) (pc' := 124) (same := true) rfl (hb hby at_121) rfl (decide_eq_true rfl) (by decide) (by decide) k) ?_
      show own_GoesW p e below s _ _ (T119.setTop (mkF m 124 #[iv p0, iv p1, iv p2, iv p3, iv p4, .val .null, rv b102, rv b111, rv b102, iv (1 : Int32)] []))
      refine own_stW (fun _ k => XS.iconst X119.here hx rfl (hb hby at_124) k) ?_
      show own_GoesW p e below s _ _ (T119.setTop (mkF m 125 #[iv p0, iv p1, iv p2, iv p3, iv p4, .val .null, rv b102, rv b111, rv b102, iv (1 : Int32)] [(.int (1 : Int32))]))
      refine own_stW (fun _ k => XS.goto X119.here hx rfl (pc0 := 125) (pc' := 129) rfl (hb hby at_125) (by decide) (by decide) k) ?_
      show own_GoesW p e below s _ _ (T119.setTop (mkF m 129 #[iv p0, iv p1, iv p2, iv p3, iv p4, .val .null, rv b102, rv b111, rv b102, iv (1 : Int32)] [(.int (1 : Int32))]))
      exact own_retNW X119 hx hS (by rw [e119]; omega) hlk (1 : Int32) hret (Or.inl rfl) rfl (hb hby at_129) (by decide) (by decide) ⟨rfl, N119⟩
  · have y101 := own_lt B101.lt
    show own_GoesW p e below s _ _ (T101.setTop (mkF m 13 #[iv p0, iv p1, iv p2, iv p3, iv p4, .unset, .unset, .unset, .unset, .unset] [(.ref b101)]))
    refine own_stW (fun _ k => XS.astore X101.here hx rfl (hb hby at_13) rfl rfl (l' := #[iv p0, iv p1, iv p2, iv p3, iv p4, rv b101, .unset, .unset, .unset, .unset]) rfl k) ?_
    show own_GoesW p e below s _ _ (T101.setTop (mkF m 15 #[iv p0, iv p1, iv p2, iv p3, iv p4, rv b101, .unset, .unset, .unset, .unset] []))
    refine own_stW (fun _ k => XS.iloadN X101.here hx rfl (hb hby at_15) rfl  k) ?_
    show own_GoesW p e below s _ _ (T101.setTop (mkF m 16 #[iv p0, iv p1, iv p2, iv p3, iv p4, rv b101, .unset, .unset, .unset, .unset] [(.int p0)]))
    refine own_stW (fun _ k => XS.iconst X101.here hx rfl (hb hby at_16) k) ?_
    show own_GoesW p e below s _ _ (T101.setTop (mkF m 17 #[iv p0, iv p1, iv p2, iv p3, iv p4, rv b101, .unset, .unset, .unset, .unset] [(.int (3 : Int32)), (.int p0)]))
    refine own_stW (fun _ k => XS.iushr X101.here hx rfl (hb hby at_17) rfl k) ?_
    show own_GoesW p e below s _ _ (T101.setTop (mkF m 18 #[iv p0, iv p1, iv p2, iv p3, iv p4, rv b101, .unset, .unset, .unset, .unset] [(.int ((p0.toUInt32 >>> ((3 : Int32) &&& 31).toUInt32).toInt32))]))
    refine own_stW (fun _ k => XS.iconst X101.here hx rfl (hb hby at_18) k) ?_
    show own_GoesW p e below s _ _ (T101.setTop (mkF m 19 #[iv p0, iv p1, iv p2, iv p3, iv p4, rv b101, .unset, .unset, .unset, .unset] [(.int (1 : Int32)), (.int ((p0.toUInt32 >>> ((3 : Int32) &&& 31).toUInt32).toInt32))]))
    refine own_stW (fun _ k => XS.iand X101.here hx rfl (hb hby at_19) rfl k) ?_
    show own_GoesW p e below s _ _ (T101.setTop (mkF m 20 #[iv p0, iv p1, iv p2, iv p3, iv p4, rv b101, .unset, .unset, .unset, .unset] [(.int (((p0.toUInt32 >>> ((3 : Int32) &&& 31).toUInt32).toInt32) &&& (1 : Int32)))]))
    refine own_stW (fun _ k => XS.iloadN X101.here hx rfl (hb hby at_20) rfl  k) ?_
    show own_GoesW p e below s _ _ (T101.setTop (mkF m 21 #[iv p0, iv p1, iv p2, iv p3, iv p4, rv b101, .unset, .unset, .unset, .unset] [(.int p0), (.int (((p0.toUInt32 >>> ((3 : Int32) &&& 31).toUInt32).toInt32) &&& (1 : Int32)))]))
    refine own_stW (fun _ k => XS.iconst X101.here hx rfl (hb hby at_21) k) ?_
    show own_GoesW p e below s _ _ (T101.setTop (mkF m 22 #[iv p0, iv p1, iv p2, iv p3, iv p4, rv b101, .unset, .unset, .unset, .unset] [(.int (4 : Int32)), (.int p0), (.int (((p0.toUInt32 >>> ((3 : Int32) &&& 31).toUInt32).toInt32) &&& (1 : Int32)))]))
    refine own_stW (fun _ k => XS.iushr X101.here hx rfl (hb hby at_22) rfl k) ?_
    show own_GoesW p e below s _ _ (T101.setTop (mkF m 23 #[iv p0, iv p1, iv p2, iv p3, iv p4, rv b101, .unset, .unset, .unset, .unset] [(.int ((p0.toUInt32 >>> ((4 : Int32) &&& 31).toUInt32).toInt32)), (.int (((p0.toUInt32 >>> ((3 : Int32) &&& 31).toUInt32).toInt32) &&& (1 : Int32)))]))
    refine own_stW (fun _ k => XS.iconst X101.here hx rfl (hb hby at_23) k) ?_
    show own_GoesW p e below s _ _ (T101.setTop (mkF m 24 #[iv p0, iv p1, iv p2, iv p3, iv p4, rv b101, .unset, .unset, .unset, .unset] [(.int (3 : Int32)), (.int ((p0.toUInt32 >>> ((4 : Int32) &&& 31).toUInt32).toInt32)), (.int (((p0.toUInt32 >>> ((3 : Int32) &&& 31).toUInt32).toInt32) &&& (1 : Int32)))]))
    refine own_stW (fun _ k => XS.iand X101.here hx rfl (hb hby at_24) rfl k) ?_
    show own_GoesW p e below s _ _ (T101.setTop (mkF m 25 #[iv p0, iv p1, iv p2, iv p3, iv p4, rv b101, .unset, .unset, .unset, .unset] [(.int (((p0.toUInt32 >>> ((4 : Int32) &&& 31).toUInt32).toInt32) &&& (3 : Int32))), (.int (((p0.toUInt32 >>> ((3 : Int32) &&& 31).toUInt32).toInt32) &&& (1 : Int32)))]))
    refine own_stW (fun _ k => XS.iloadN X101.here hx rfl (hb hby at_25) rfl  k) ?_
    show own_GoesW p e below s _ _ (T101.setTop (mkF m 26 #[iv p0, iv p1, iv p2, iv p3, iv p4, rv b101, .unset, .unset, .unset, .unset] [(.int p3), (.int (((p0.toUInt32 >>> ((4 : Int32) &&& 31).toUInt32).toInt32) &&& (3 : Int32))), (.int (((p0.toUInt32 >>> ((3 : Int32) &&& 31).toUInt32).toInt32) &&& (1 : Int32)))]))
    refine own_stW (fun _ k => XS.iload X101.here hx rfl (hb hby at_26) rfl  k) ?_
    show own_GoesW p e below s _ _ (T101.setTop (mkF m 28 #[iv p0, iv p1, iv p2, iv p3, iv p4, rv b101, .unset, .unset, .unset, .unset] [(.int p4), (.int p3), (.int (((p0.toUInt32 >>> ((4 : Int32) &&& 31).toUInt32).toInt32) &&& (3 : Int32))), (.int (((p0.toUInt32 >>> ((3 : Int32) &&& 31).toUInt32).toInt32) &&& (1 : Int32)))]))
    have f121 := (own_sta_keep S1 K101 own_pl0)
    obtain ⟨v120, T120, L120, vm120, k120, X120, hS, hk120, hZ, hown, Q120, st120⟩ := own_callSW X101 hS (by omega) hx hZ (y := (⟨"jakarta/faces/application/FacesMessageGetDetailPinLaw", "mk", "(IIII)Ljava/lang/String;"⟩ : MethodName)) hown (hw _ (List.mem_of_getElem? (i := 0) rfl)) (hw _ (List.mem_of_getElem? (i := 1) rfl)) (hw _ (List.mem_of_getElem? (i := 2) rfl)) (hw _ (List.mem_of_getElem? (i := 3) rfl)) (by decide) (W := 0) (rest := []) (argsL := [(.int (((p0.toUInt32 >>> ((3 : Int32) &&& 31).toUInt32).toInt32) &&& (1 : Int32))), (.int (((p0.toUInt32 >>> ((4 : Int32) &&& 31).toUInt32).toInt32) &&& (3 : Int32))), (.int p3), (.int p4)]) (Pv := fun vm => own_E Z T101.heap vm) (rmMk l Z a0 hw [] (((p0.toUInt32 >>> ((3 : Int32) &&& 31).toUInt32).toInt32) &&& (1 : Int32)) (((p0.toUInt32 >>> ((4 : Int32) &&& 31).toUInt32).toInt32) &&& (3 : Int32)) p3 p4 cs T101.heap n0 (by omega) f121 hcs (own_HK HK ((Keep.refl h0 []).trans K101 all0)) CH CW) (fun _ q => own_E.top F101E q) (by decide) (by decide) (by decide) (by decide) rfl own_pd7 rfl (g := (mkF m 28 #[iv p0, iv p1, iv p2, iv p3, iv p4, rv b101, .unset, .unset, .unset, .unset] [(.int p4), (.int p3), (.int (((p0.toUInt32 >>> ((4 : Int32) &&& 31).toUInt32).toInt32) &&& (3 : Int32))), (.int (((p0.toUInt32 >>> ((3 : Int32) &&& 31).toUInt32).toInt32) &&& (1 : Int32)))])) rfl (by rw [hml]; rfl) rfl (by show 2 * 0 + _ ≤ _; exact Nat.le_of_eq rfl) (hb hby at_28)
    obtain ⟨w120, rfl, hw120, N120q, K120, F120E⟩ := Q120
    have z120 := K120.1
    have N120 := Fr.app N101 N120q
    refine own_stW st120 ?_
    show own_GoesW p e below s _ _ (T120.setTop (mkF m 31 #[iv p0, iv p1, iv p2, iv p3, iv p4, rv b101, .unset, .unset, .unset, .unset] [w120]))
    rcases hw120 with rfl | ⟨b120, rfl, B120⟩
    · show own_GoesW p e below s _ _ (T120.setTop (mkF m 31 #[iv p0, iv p1, iv p2, iv p3, iv p4, rv b101, .unset, .unset, .unset, .unset] [.null]))
      refine own_stW (fun _ k => XS.astore X120.here hx rfl (hb hby at_31) rfl rfl (l' := #[iv p0, iv p1, iv p2, iv p3, iv p4, rv b101, .val .null, .unset, .unset, .unset]) rfl k) ?_
      show own_GoesW p e below s _ _ (T120.setTop (mkF m 33 #[iv p0, iv p1, iv p2, iv p3, iv p4, rv b101, .val .null, .unset, .unset, .unset] []))
      obtain ⟨T122, h122, X122, e122, E122, A122, D122, -, st122⟩ := newO X120 hx hZ hown (hw _ (List.mem_of_getElem? (i := 4) rfl)) (hw _ (List.mem_of_getElem? (i := 5) rfl)) (hw _ (List.mem_of_getElem? (i := 6) rfl)) rfl (g := (mkF m 33 #[iv p0, iv p1, iv p2, iv p3, iv p4, rv b101, .val .null, .unset, .unset, .unset] [])) rfl (hb hby at_33) (by decide) (by decide)
      obtain ⟨b122, g122⟩ : ∃ z, z = T120.heap.size := ⟨_, rfl⟩
      rw [← g122] at A122 D122 st122
      have y122 := own_lt A122.lt
      have z122 := E122.1
      have F122_severity : Fld Z h122 b122 "jakarta/faces/application/FacesMessage" "severity" "Ljakarta/faces/application/FacesMessage$Severity;" .null := D122 (Or.inl (hw _ (List.mem_of_getElem? (i := 22) rfl))) (ty := (.object "jakarta/faces/application/FacesMessage$Severity")) (by decide)
      have F122_summary : Fld Z h122 b122 "jakarta/faces/application/FacesMessage" "summary" "Ljava/lang/String;" .null := D122 (Or.inl (hw _ (List.mem_of_getElem? (i := 24) rfl))) (ty := (.object "java/lang/String")) (by decide)
      have F122_detail : Fld Z h122 b122 "jakarta/faces/application/FacesMessage" "detail" "Ljava/lang/String;" .null := D122 (Or.inl (hw _ (List.mem_of_getElem? (i := 26) rfl))) (ty := (.object "java/lang/String")) (by decide)
      refine own_stW st122 ?_
      show own_GoesW p e below s _ _ (T122.setTop (mkF m 36 #[iv p0, iv p1, iv p2, iv p3, iv p4, rv b101, .val .null, .unset, .unset, .unset] [(.ref b122)]))
      refine own_stW (fun _ k => XS.dup X122.here hx rfl (hb hby at_36) rfl rfl k) ?_
      show own_GoesW p e below s _ _ (T122.setTop (mkF m 37 #[iv p0, iv p1, iv p2, iv p3, iv p4, rv b101, .val .null, .unset, .unset, .unset] [(.ref b122), (.ref b122)]))
      have f124 := ((own_sta_keep (own_sta_keep S2 K101 own_pl0) K120 own_pl0).ext E122)
      obtain ⟨v123, T123, L123, X123, Q123, st123⟩ := own_callI X122 hx hZ (y := (⟨"jakarta/faces/application/FacesMessage", "<init>", "()V"⟩ : MethodName)) hown (hw _ (List.mem_of_getElem? (i := 7) rfl)) (hw _ (List.mem_of_getElem? (i := 8) rfl)) (hw _ (List.mem_of_getElem? (i := 6) rfl)) (hw _ (List.mem_of_getElem? (i := 9) rfl)) rfl (by decide) (W := 1) (rest := [(.ref b122)]) (argsL := []) (a := b122) (rmI0 l Z a0 hw [] b122 sv _ _ _  h122 n0 (by omega) A122 F122_severity F122_summary F122_detail (by omega) f124) (by decide) (by decide) (by decide) (by decide) e122 own_pd8 rfl (g := (mkF m 37 #[iv p0, iv p1, iv p2, iv p3, iv p4, rv b101, .val .null, .unset, .unset, .unset] [(.ref b122), (.ref b122)])) rfl (by rw [hml]; rfl) rfl (by show 2 * 0 + _ ≤ _; exact Nat.le_of_eq rfl) (hb hby at_37)
      obtain ⟨rfl, N123q, K123, A123, Fs123, Fd123⟩ := Q123
      have z123 := K123.1
      have N123 := Fr.app N120 N123q
      refine own_stW st123 ?_
      show own_GoesW p e below s _ _ (T123.setTop (mkF m 40 #[iv p0, iv p1, iv p2, iv p3, iv p4, rv b101, .val .null, .unset, .unset, .unset] [(.ref b122)]))
      refine own_stW (fun _ k => XS.astore X123.here hx rfl (hb hby at_40) rfl rfl (l' := #[iv p0, iv p1, iv p2, iv p3, iv p4, rv b101, .val .null, rv b122, .unset, .unset]) rfl k) ?_
      show own_GoesW p e below s _ _ (T123.setTop (mkF m 42 #[iv p0, iv p1, iv p2, iv p3, iv p4, rv b101, .val .null, rv b122, .unset, .unset] []))
      refine own_stW (fun _ k => XS.aload X123.here hx rfl (hb hby at_42) rfl rfl  k) ?_
      show own_GoesW p e below s _ _ (T123.setTop (mkF m 44 #[iv p0, iv p1, iv p2, iv p3, iv p4, rv b101, .val .null, rv b122, .unset, .unset] [(.ref b122)]))
      refine own_stW (fun _ k => XS.aload X123.here hx rfl (hb hby at_44) rfl rfl  k) ?_
      show own_GoesW p e below s _ _ (T123.setTop (mkF m 46 #[iv p0, iv p1, iv p2, iv p3, iv p4, rv b101, .val .null, rv b122, .unset, .unset] [(.ref b101), (.ref b122)]))
      obtain ⟨v125, T125, L125, X125, Q125, st125⟩ := own_callV X123 hx hZ (C := "jakarta/faces/application/FacesMessage") (y := (⟨"jakarta/faces/application/FacesMessage", "setSummary", "(Ljava/lang/String;)V"⟩ : MethodName)) hown (hw _ (List.mem_of_getElem? (i := 27) rfl)) (hw _ (List.mem_of_getElem? (i := 28) rfl)) (hw _ (List.mem_of_getElem? (i := 30) rfl)) (hw _ (List.mem_of_getElem? (i := 29) rfl)) (hw _ (List.mem_of_getElem? (i := 6) rfl)) (hw _ (List.mem_of_getElem? (i := 31) rfl)) (by decide) (W := 0) (rest := []) (argsL := [(.ref b101)]) (a := b122) (rmSS l Z a0 hw [] b122 (.ref b101) _ _ T123.heap n0 (by omega) rfl A123 Fs123 Fd123 (by omega)) (by decide) (by decide) (by decide) (by decide) rfl A123 own_pd9 rfl (g := (mkF m 46 #[iv p0, iv p1, iv p2, iv p3, iv p4, rv b101, .val .null, rv b122, .unset, .unset] [(.ref b101), (.ref b122)])) rfl (by rw [hml]; rfl) rfl (by show 2 * 0 + _ ≤ _; exact Nat.le_of_eq rfl) (hb hby at_46)
      obtain ⟨rfl, N125q, K125, A125, Fs125, Fd125⟩ := Q125
      have z125 := K125.1
      have N125 := Fr.app N123 N125q
      refine own_stW st125 ?_
      show own_GoesW p e below s _ _ (T125.setTop (mkF m 49 #[iv p0, iv p1, iv p2, iv p3, iv p4, rv b101, .val .null, rv b122, .unset, .unset] []))
      refine own_stW (fun _ k => XS.aload X125.here hx rfl (hb hby at_49) rfl rfl  k) ?_
      show own_GoesW p e below s _ _ (T125.setTop (mkF m 51 #[iv p0, iv p1, iv p2, iv p3, iv p4, rv b101, .val .null, rv b122, .unset, .unset] [(.ref b122)]))
      refine own_stW (fun _ k => XS.aload X125.here hx rfl (hb hby at_51) rfl rfl  k) ?_
      show own_GoesW p e below s _ _ (T125.setTop (mkF m 53 #[iv p0, iv p1, iv p2, iv p3, iv p4, rv b101, .val .null, rv b122, .unset, .unset] [.null, (.ref b122)]))
      obtain ⟨v126, T126, L126, X126, Q126, st126⟩ := own_callV X125 hx hZ (C := "jakarta/faces/application/FacesMessage") (y := (⟨"jakarta/faces/application/FacesMessage", "setDetail", "(Ljava/lang/String;)V"⟩ : MethodName)) hown (hw _ (List.mem_of_getElem? (i := 32) rfl)) (hw _ (List.mem_of_getElem? (i := 33) rfl)) (hw _ (List.mem_of_getElem? (i := 35) rfl)) (hw _ (List.mem_of_getElem? (i := 34) rfl)) (hw _ (List.mem_of_getElem? (i := 6) rfl)) (hw _ (List.mem_of_getElem? (i := 36) rfl)) (by decide) (W := 0) (rest := []) (argsL := [.null]) (a := b122) (rmSD l Z a0 hw [] b122 .null _ _ T125.heap n0 (by omega) rfl A125 Fs125 Fd125 (by omega)) (by decide) (by decide) (by decide) (by decide) rfl A125 own_pd9 rfl (g := (mkF m 53 #[iv p0, iv p1, iv p2, iv p3, iv p4, rv b101, .val .null, rv b122, .unset, .unset] [.null, (.ref b122)])) rfl (by rw [hml]; rfl) rfl (by show 2 * 0 + _ ≤ _; exact Nat.le_of_eq rfl) (hb hby at_53)
      obtain ⟨rfl, N126q, K126, A126, Fs126, Fd126⟩ := Q126
      have z126 := K126.1
      have N126 := Fr.app N125 N126q
      refine own_stW st126 ?_
      show own_GoesW p e below s _ _ (T126.setTop (mkF m 56 #[iv p0, iv p1, iv p2, iv p3, iv p4, rv b101, .val .null, rv b122, .unset, .unset] []))
      refine own_stW (fun _ k => XS.aload X126.here hx rfl (hb hby at_56) rfl rfl  k) ?_
      show own_GoesW p e below s _ _ (T126.setTop (mkF m 58 #[iv p0, iv p1, iv p2, iv p3, iv p4, rv b101, .val .null, rv b122, .unset, .unset] [(.ref b122)]))
      obtain ⟨v127, T127, L127, X127, Q127, st127⟩ := own_callV X126 hx hZ (C := "jakarta/faces/application/FacesMessage") (y := (⟨"jakarta/faces/application/FacesMessage", "getDetail", "()Ljava/lang/String;"⟩ : MethodName)) hown (hw _ (List.mem_of_getElem? (i := 37) rfl)) (hw _ (List.mem_of_getElem? (i := 38) rfl)) (hw _ (List.mem_of_getElem? (i := 40) rfl)) (hw _ (List.mem_of_getElem? (i := 39) rfl)) (hw _ (List.mem_of_getElem? (i := 6) rfl)) (hw _ (List.mem_of_getElem? (i := 41) rfl)) (by decide) (W := 0) (rest := []) (argsL := []) (a := b122) (rmD1 l Z a0 hw [] b122 (.ref b101) 0 T126.heap n0 (by omega) rfl Fs126 Fd126) (by decide) (by decide) (by decide) (by decide) rfl A126 own_pd10 rfl (g := (mkF m 58 #[iv p0, iv p1, iv p2, iv p3, iv p4, rv b101, .val .null, rv b122, .unset, .unset] [(.ref b122)])) rfl (by rw [hml]; rfl) rfl (by show 2 * 0 + _ ≤ _; exact Nat.le_of_eq rfl) (hb hby at_58)
      obtain ⟨rfl, N127q, e127⟩ := Q127
      have N127 := Fr.app N126 N127q
      refine own_stW st127 ?_
      show own_GoesW p e below s _ _ (T127.setTop (mkF m 61 #[iv p0, iv p1, iv p2, iv p3, iv p4, rv b101, .val .null, rv b122, .unset, .unset] [(.ref b101)]))
      refine own_stW (fun _ k => XS.astore X127.here hx rfl (hb hby at_61) rfl rfl (l' := #[iv p0, iv p1, iv p2, iv p3, iv p4, rv b101, .val .null, rv b122, rv b101, .unset]) rfl k) ?_
      show own_GoesW p e below s _ _ (T127.setTop (mkF m 63 #[iv p0, iv p1, iv p2, iv p3, iv p4, rv b101, .val .null, rv b122, rv b101, .unset] []))
      refine own_stW (fun _ k => XS.aload X127.here hx rfl (hb hby at_63) rfl rfl  k) ?_
      show own_GoesW p e below s _ _ (T127.setTop (mkF m 65 #[iv p0, iv p1, iv p2, iv p3, iv p4, rv b101, .val .null, rv b122, rv b101, .unset] [.null]))
      refine own_stW (fun _ k => XS.ifnullYes X127.here hx rfl (pc0 := 65) (pc' := 80) rfl (hb hby at_65) rfl (by decide) (by decide) k) ?_
      show own_GoesW p e below s _ _ (T127.setTop (mkF m 80 #[iv p0, iv p1, iv p2, iv p3, iv p4, rv b101, .val .null, rv b122, rv b101, .unset] []))
      refine own_stW (fun _ k => XS.aload X127.here hx rfl (hb hby at_80) rfl rfl  k) ?_
      show own_GoesW p e below s _ _ (T127.setTop (mkF m 82 #[iv p0, iv p1, iv p2, iv p3, iv p4, rv b101, .val .null, rv b122, rv b101, .unset] [(.ref b101)]))
      refine own_stW (fun _ k => XS.ifnullNo X127.here hx rfl (hb hby at_82) rfl k) ?_
      show own_GoesW p e below s _ _ (T127.setTop (mkF m 85 #[iv p0, iv p1, iv p2, iv p3, iv p4, rv b101, .val .null, rv b122, rv b101, .unset] []))
      refine own_stW (fun _ k => XS.aload X127.here hx rfl (hb hby at_85) rfl rfl  k) ?_
      show own_GoesW p e below s _ _ (T127.setTop (mkF m 87 #[iv p0, iv p1, iv p2, iv p3, iv p4, rv b101, .val .null, rv b122, rv b101, .unset] [(.ref b101)]))
      refine own_stW (fun _ k => XS.aload X127.here hx rfl (hb hby at_87) rfl rfl  k) ?_
      show own_GoesW p e below s _ _ (T127.setTop (mkF m 89 #[iv p0, iv p1, iv p2, iv p3, iv p4, rv b101, .val .null, rv b122, rv b101, .unset] [(.ref b101), (.ref b101)]))
      have f129 := (((((B101.keep K120).ext E122).keep K123).keep K125).keep K126)
      obtain ⟨v128, T128, L128, X128, Q128, st128⟩ := own_callV X127 hx hZ (C := "java/lang/String") (y := (⟨"java/lang/String", "equals", "(Ljava/lang/Object;)Z"⟩ : MethodName)) hown (hw _ (List.mem_of_getElem? (i := 75) rfl)) (hw _ (List.mem_of_getElem? (i := 76) rfl)) (hw _ (List.mem_of_getElem? (i := 78) rfl)) (hw _ (List.mem_of_getElem? (i := 77) rfl)) (hw _ (List.mem_of_getElem? (i := 49) rfl)) (hw _ (List.mem_of_getElem? (i := 79) rfl)) (by decide) (W := 0) (rest := []) (argsL := [(.ref b101)]) (a := b101) (rmEq l Z a0 hw [] b101 T126.heap n0 (by omega)) (by decide) (by decide) (by decide) (by decide) e127 f129 own_pd11 rfl (g := (mkF m 89 #[iv p0, iv p1, iv p2, iv p3, iv p4, rv b101, .val .null, rv b122, rv b101, .unset] [(.ref b101), (.ref b101)])) rfl (by rw [hml]; rfl) rfl (by show 2 * 0 + _ ≤ _; exact Nat.le_of_eq rfl) (hb hby at_89)
      obtain ⟨rfl, N128q, e128⟩ := Q128
      have N128 := Fr.app N127 N128q
      refine own_stW st128 ?_
      show own_GoesW p e below s _ _ (T128.setTop (mkF m 92 #[iv p0, iv p1, iv p2, iv p3, iv p4, rv b101, .val .null, rv b122, rv b101, .unset] [(.int (1 : Int32))]))
      refine own_stW (fun _ k => XS.istore X128.here hx rfl (hb hby at_92) rfl (l' := #[iv p0, iv p1, iv p2, iv p3, iv p4, rv b101, .val .null, rv b122, rv b101, iv (1 : Int32)]) rfl k) ?_
      show own_GoesW p e below s _ _ (T128.setTop (mkF m 94 #[iv p0, iv p1, iv p2, iv p3, iv p4, rv b101, .val .null, rv b122, rv b101, iv (1 : Int32)] []))
      refine own_stW (fun _ k => XS.goto X128.here hx rfl (pc0 := 94) (pc' := 109) rfl (hb hby at_94) (by decide) (by decide) k) ?_
      show own_GoesW p e below s _ _ (T128.setTop (mkF m 109 #[iv p0, iv p1, iv p2, iv p3, iv p4, rv b101, .val .null, rv b122, rv b101, iv (1 : Int32)] []))
      refine own_stW (fun _ k => XS.iload X128.here hx rfl (hb hby at_109) rfl  k) ?_
      show own_GoesW p e below s _ _ (T128.setTop (mkF m 111 #[iv p0, iv p1, iv p2, iv p3, iv p4, rv b101, .val .null, rv b122, rv b101, iv (1 : Int32)] [(.int (1 : Int32))]))
      refine own_stW (fun _ k => XS.ifNo X128.here hx rfl (hb hby at_111) rfl ((if0 _ _).trans (feq (by decide : ¬ ((1 : Int32) = (0 : Int32)))).1) k) ?_
      show own_GoesW p e below s _ _ (T128.setTop (mkF m 114 #[iv p0, iv p1, iv p2, iv p3, iv p4, rv b101, .val .null, rv b122, rv b101, iv (1 : Int32)] []))
      refine own_stW (fun _ k => XS.aload X128.here hx rfl (hb hby at_114) rfl rfl  k) ?_
      show own_GoesW p e below s _ _ (T128.setTop (mkF m 116 #[iv p0, iv p1, iv p2, iv p3, iv p4, rv b101, .val .null, rv b122, rv b101, iv (1 : Int32)] [(.ref b122)]))
      obtain ⟨v130, T130, L130, X130, Q130, st130⟩ := own_callV X128 hx hZ (C := "jakarta/faces/application/FacesMessage") (y := (⟨"jakarta/faces/application/FacesMessage", "getSummary", "()Ljava/lang/String;"⟩ : MethodName)) hown (hw _ (List.mem_of_getElem? (i := 42) rfl)) (hw _ (List.mem_of_getElem? (i := 43) rfl)) (hw _ (List.mem_of_getElem? (i := 45) rfl)) (hw _ (List.mem_of_getElem? (i := 44) rfl)) (hw _ (List.mem_of_getElem? (i := 6) rfl)) (hw _ (List.mem_of_getElem? (i := 46) rfl)) (by decide) (W := 0) (rest := []) (argsL := []) (a := b122) (rmGS l Z a0 hw [] b122 (.ref b101) T126.heap n0 (by omega) rfl Fs126) (by decide) (by decide) (by decide) (by decide) e128 A126 own_pd10 rfl (g := (mkF m 116 #[iv p0, iv p1, iv p2, iv p3, iv p4, rv b101, .val .null, rv b122, rv b101, iv (1 : Int32)] [(.ref b122)])) rfl (by rw [hml]; rfl) rfl (by show 2 * 0 + _ ≤ _; exact Nat.le_of_eq rfl) (hb hby at_116)
      obtain ⟨rfl, N130q, e130⟩ := Q130
      have N130 := Fr.app N128 N130q
      refine own_stW st130 ?_
      show own_GoesW p e below s _ _ (T130.setTop (mkF m 119 #[iv p0, iv p1, iv p2, iv p3, iv p4, rv b101, .val .null, rv b122, rv b101, iv (1 : Int32)] [(.ref b101)]))
      refine own_stW (fun _ k => XS.aload X130.here hx rfl (hb hby at_119) rfl rfl  k) ?_
      show own_GoesW p e below s _ _ (T130.setTop (mkF m 121 #[iv p0, iv p1, iv p2, iv p3, iv p4, rv b101, .val .null, rv b122, rv b101, iv (1 : Int32)] [(.ref b101), (.ref b101)]))
      refine own_stW (fun _ k => Jvm.RoadKit.acmp (g := (mkF m 121 #[iv p0, iv p1, iv p2, iv p3, iv p4, rv b101, .val .null, rv b122, rv b101, iv (1 : Int32)] [(.ref b101), (.ref b101)])) X130 hx rfl rfl rfl (pc0 := 121) (pc' := 124) (same := true) rfl (hb hby at_121) rfl (decide_eq_true rfl) (by decide) (by decide) k) ?_
      show own_GoesW p e below s _ _ (T130.setTop (mkF m 124 #[iv p0, iv p1, iv p2, iv p3, iv p4, rv b101, .val .null, rv b122, rv b101, iv (1 : Int32)] []))
      refine own_stW (fun _ k => XS.iconst X130.here hx rfl (hb hby at_124) k) ?_
      show own_GoesW p e below s _ _ (T130.setTop (mkF m 125 #[iv p0, iv p1, iv p2, iv p3, iv p4, rv b101, .val .null, rv b122, rv b101, iv (1 : Int32)] [(.int (1 : Int32))]))
      refine own_stW (fun _ k => XS.goto X130.here hx rfl (pc0 := 125) (pc' := 129) rfl (hb hby at_125) (by decide) (by decide) k) ?_
      show own_GoesW p e below s _ _ (T130.setTop (mkF m 129 #[iv p0, iv p1, iv p2, iv p3, iv p4, rv b101, .val .null, rv b122, rv b101, iv (1 : Int32)] [(.int (1 : Int32))]))
      exact own_retNW X130 hx hS (by rw [e130]; omega) hlk (1 : Int32) hret (Or.inl rfl) rfl (hb hby at_129) (by decide) (by decide) ⟨rfl, N130⟩
    · have y120 := own_lt B120.lt
      show own_GoesW p e below s _ _ (T120.setTop (mkF m 31 #[iv p0, iv p1, iv p2, iv p3, iv p4, rv b101, .unset, .unset, .unset, .unset] [(.ref b120)]))
      refine own_stW (fun _ k => XS.astore X120.here hx rfl (hb hby at_31) rfl rfl (l' := #[iv p0, iv p1, iv p2, iv p3, iv p4, rv b101, rv b120, .unset, .unset, .unset]) rfl k) ?_
      show own_GoesW p e below s _ _ (T120.setTop (mkF m 33 #[iv p0, iv p1, iv p2, iv p3, iv p4, rv b101, rv b120, .unset, .unset, .unset] []))
      obtain ⟨T131, h131, X131, e131, E131, A131, D131, -, st131⟩ := newO X120 hx hZ hown (hw _ (List.mem_of_getElem? (i := 4) rfl)) (hw _ (List.mem_of_getElem? (i := 5) rfl)) (hw _ (List.mem_of_getElem? (i := 6) rfl)) rfl (g := (mkF m 33 #[iv p0, iv p1, iv p2, iv p3, iv p4, rv b101, rv b120, .unset, .unset, .unset] [])) rfl (hb hby at_33) (by decide) (by decide)
      obtain ⟨b131, g131⟩ : ∃ z, z = T120.heap.size := ⟨_, rfl⟩
      rw [← g131] at A131 D131 st131
      have y131 := own_lt A131.lt
      have z131 := E131.1
      have F131_severity : Fld Z h131 b131 "jakarta/faces/application/FacesMessage" "severity" "Ljakarta/faces/application/FacesMessage$Severity;" .null := D131 (Or.inl (hw _ (List.mem_of_getElem? (i := 22) rfl))) (ty := (.object "jakarta/faces/application/FacesMessage$Severity")) (by decide)
      have F131_summary : Fld Z h131 b131 "jakarta/faces/application/FacesMessage" "summary" "Ljava/lang/String;" .null := D131 (Or.inl (hw _ (List.mem_of_getElem? (i := 24) rfl))) (ty := (.object "java/lang/String")) (by decide)
      have F131_detail : Fld Z h131 b131 "jakarta/faces/application/FacesMessage" "detail" "Ljava/lang/String;" .null := D131 (Or.inl (hw _ (List.mem_of_getElem? (i := 26) rfl))) (ty := (.object "java/lang/String")) (by decide)
      refine own_stW st131 ?_
      show own_GoesW p e below s _ _ (T131.setTop (mkF m 36 #[iv p0, iv p1, iv p2, iv p3, iv p4, rv b101, rv b120, .unset, .unset, .unset] [(.ref b131)]))
      refine own_stW (fun _ k => XS.dup X131.here hx rfl (hb hby at_36) rfl rfl k) ?_
      show own_GoesW p e below s _ _ (T131.setTop (mkF m 37 #[iv p0, iv p1, iv p2, iv p3, iv p4, rv b101, rv b120, .unset, .unset, .unset] [(.ref b131), (.ref b131)]))
      have f133 := ((own_sta_keep (own_sta_keep S2 K101 own_pl0) K120 own_pl0).ext E131)
      obtain ⟨v132, T132, L132, X132, Q132, st132⟩ := own_callI X131 hx hZ (y := (⟨"jakarta/faces/application/FacesMessage", "<init>", "()V"⟩ : MethodName)) hown (hw _ (List.mem_of_getElem? (i := 7) rfl)) (hw _ (List.mem_of_getElem? (i := 8) rfl)) (hw _ (List.mem_of_getElem? (i := 6) rfl)) (hw _ (List.mem_of_getElem? (i := 9) rfl)) rfl (by decide) (W := 1) (rest := [(.ref b131)]) (argsL := []) (a := b131) (rmI0 l Z a0 hw [] b131 sv _ _ _  h131 n0 (by omega) A131 F131_severity F131_summary F131_detail (by omega) f133) (by decide) (by decide) (by decide) (by decide) e131 own_pd8 rfl (g := (mkF m 37 #[iv p0, iv p1, iv p2, iv p3, iv p4, rv b101, rv b120, .unset, .unset, .unset] [(.ref b131), (.ref b131)])) rfl (by rw [hml]; rfl) rfl (by show 2 * 0 + _ ≤ _; exact Nat.le_of_eq rfl) (hb hby at_37)
      obtain ⟨rfl, N132q, K132, A132, Fs132, Fd132⟩ := Q132
      have z132 := K132.1
      have N132 := Fr.app N120 N132q
      refine own_stW st132 ?_
      show own_GoesW p e below s _ _ (T132.setTop (mkF m 40 #[iv p0, iv p1, iv p2, iv p3, iv p4, rv b101, rv b120, .unset, .unset, .unset] [(.ref b131)]))
      refine own_stW (fun _ k => XS.astore X132.here hx rfl (hb hby at_40) rfl rfl (l' := #[iv p0, iv p1, iv p2, iv p3, iv p4, rv b101, rv b120, rv b131, .unset, .unset]) rfl k) ?_
      show own_GoesW p e below s _ _ (T132.setTop (mkF m 42 #[iv p0, iv p1, iv p2, iv p3, iv p4, rv b101, rv b120, rv b131, .unset, .unset] []))
      refine own_stW (fun _ k => XS.aload X132.here hx rfl (hb hby at_42) rfl rfl  k) ?_
      show own_GoesW p e below s _ _ (T132.setTop (mkF m 44 #[iv p0, iv p1, iv p2, iv p3, iv p4, rv b101, rv b120, rv b131, .unset, .unset] [(.ref b131)]))
      refine own_stW (fun _ k => XS.aload X132.here hx rfl (hb hby at_44) rfl rfl  k) ?_
      show own_GoesW p e below s _ _ (T132.setTop (mkF m 46 #[iv p0, iv p1, iv p2, iv p3, iv p4, rv b101, rv b120, rv b131, .unset, .unset] [(.ref b101), (.ref b131)]))
      obtain ⟨v134, T134, L134, X134, Q134, st134⟩ := own_callV X132 hx hZ (C := "jakarta/faces/application/FacesMessage") (y := (⟨"jakarta/faces/application/FacesMessage", "setSummary", "(Ljava/lang/String;)V"⟩ : MethodName)) hown (hw _ (List.mem_of_getElem? (i := 27) rfl)) (hw _ (List.mem_of_getElem? (i := 28) rfl)) (hw _ (List.mem_of_getElem? (i := 30) rfl)) (hw _ (List.mem_of_getElem? (i := 29) rfl)) (hw _ (List.mem_of_getElem? (i := 6) rfl)) (hw _ (List.mem_of_getElem? (i := 31) rfl)) (by decide) (W := 0) (rest := []) (argsL := [(.ref b101)]) (a := b131) (rmSS l Z a0 hw [] b131 (.ref b101) _ _ T132.heap n0 (by omega) rfl A132 Fs132 Fd132 (by omega)) (by decide) (by decide) (by decide) (by decide) rfl A132 own_pd9 rfl (g := (mkF m 46 #[iv p0, iv p1, iv p2, iv p3, iv p4, rv b101, rv b120, rv b131, .unset, .unset] [(.ref b101), (.ref b131)])) rfl (by rw [hml]; rfl) rfl (by show 2 * 0 + _ ≤ _; exact Nat.le_of_eq rfl) (hb hby at_46)
      obtain ⟨rfl, N134q, K134, A134, Fs134, Fd134⟩ := Q134
      have z134 := K134.1
      have N134 := Fr.app N132 N134q
      refine own_stW st134 ?_
      show own_GoesW p e below s _ _ (T134.setTop (mkF m 49 #[iv p0, iv p1, iv p2, iv p3, iv p4, rv b101, rv b120, rv b131, .unset, .unset] []))
      refine own_stW (fun _ k => XS.aload X134.here hx rfl (hb hby at_49) rfl rfl  k) ?_
      show own_GoesW p e below s _ _ (T134.setTop (mkF m 51 #[iv p0, iv p1, iv p2, iv p3, iv p4, rv b101, rv b120, rv b131, .unset, .unset] [(.ref b131)]))
      refine own_stW (fun _ k => XS.aload X134.here hx rfl (hb hby at_51) rfl rfl  k) ?_
      show own_GoesW p e below s _ _ (T134.setTop (mkF m 53 #[iv p0, iv p1, iv p2, iv p3, iv p4, rv b101, rv b120, rv b131, .unset, .unset] [(.ref b120), (.ref b131)]))
      obtain ⟨v135, T135, L135, X135, Q135, st135⟩ := own_callV X134 hx hZ (C := "jakarta/faces/application/FacesMessage") (y := (⟨"jakarta/faces/application/FacesMessage", "setDetail", "(Ljava/lang/String;)V"⟩ : MethodName)) hown (hw _ (List.mem_of_getElem? (i := 32) rfl)) (hw _ (List.mem_of_getElem? (i := 33) rfl)) (hw _ (List.mem_of_getElem? (i := 35) rfl)) (hw _ (List.mem_of_getElem? (i := 34) rfl)) (hw _ (List.mem_of_getElem? (i := 6) rfl)) (hw _ (List.mem_of_getElem? (i := 36) rfl)) (by decide) (W := 0) (rest := []) (argsL := [(.ref b120)]) (a := b131) (rmSD l Z a0 hw [] b131 (.ref b120) _ _ T134.heap n0 (by omega) rfl A134 Fs134 Fd134 (by omega)) (by decide) (by decide) (by decide) (by decide) rfl A134 own_pd9 rfl (g := (mkF m 53 #[iv p0, iv p1, iv p2, iv p3, iv p4, rv b101, rv b120, rv b131, .unset, .unset] [(.ref b120), (.ref b131)])) rfl (by rw [hml]; rfl) rfl (by show 2 * 0 + _ ≤ _; exact Nat.le_of_eq rfl) (hb hby at_53)
      obtain ⟨rfl, N135q, K135, A135, Fs135, Fd135⟩ := Q135
      have z135 := K135.1
      have N135 := Fr.app N134 N135q
      refine own_stW st135 ?_
      show own_GoesW p e below s _ _ (T135.setTop (mkF m 56 #[iv p0, iv p1, iv p2, iv p3, iv p4, rv b101, rv b120, rv b131, .unset, .unset] []))
      refine own_stW (fun _ k => XS.aload X135.here hx rfl (hb hby at_56) rfl rfl  k) ?_
      show own_GoesW p e below s _ _ (T135.setTop (mkF m 58 #[iv p0, iv p1, iv p2, iv p3, iv p4, rv b101, rv b120, rv b131, .unset, .unset] [(.ref b131)]))
      obtain ⟨v136, T136, L136, X136, Q136, st136⟩ := own_callV X135 hx hZ (C := "jakarta/faces/application/FacesMessage") (y := (⟨"jakarta/faces/application/FacesMessage", "getDetail", "()Ljava/lang/String;"⟩ : MethodName)) hown (hw _ (List.mem_of_getElem? (i := 37) rfl)) (hw _ (List.mem_of_getElem? (i := 38) rfl)) (hw _ (List.mem_of_getElem? (i := 40) rfl)) (hw _ (List.mem_of_getElem? (i := 39) rfl)) (hw _ (List.mem_of_getElem? (i := 6) rfl)) (hw _ (List.mem_of_getElem? (i := 41) rfl)) (by decide) (W := 0) (rest := []) (argsL := []) (a := b131) (rmD0 l Z a0 hw [] b131 (.ref b101) b120 T135.heap n0 (by omega) rfl Fs135 Fd135) (by decide) (by decide) (by decide) (by decide) rfl A135 own_pd10 rfl (g := (mkF m 58 #[iv p0, iv p1, iv p2, iv p3, iv p4, rv b101, rv b120, rv b131, .unset, .unset] [(.ref b131)])) rfl (by rw [hml]; rfl) rfl (by show 2 * 0 + _ ≤ _; exact Nat.le_of_eq rfl) (hb hby at_58)
      obtain ⟨rfl, N136q, e136⟩ := Q136
      have N136 := Fr.app N135 N136q
      refine own_stW st136 ?_
      show own_GoesW p e below s _ _ (T136.setTop (mkF m 61 #[iv p0, iv p1, iv p2, iv p3, iv p4, rv b101, rv b120, rv b131, .unset, .unset] [(.ref b120)]))
      refine own_stW (fun _ k => XS.astore X136.here hx rfl (hb hby at_61) rfl rfl (l' := #[iv p0, iv p1, iv p2, iv p3, iv p4, rv b101, rv b120, rv b131, rv b120, .unset]) rfl k) ?_
      show own_GoesW p e below s _ _ (T136.setTop (mkF m 63 #[iv p0, iv p1, iv p2, iv p3, iv p4, rv b101, rv b120, rv b131, rv b120, .unset] []))
      refine own_stW (fun _ k => XS.aload X136.here hx rfl (hb hby at_63) rfl rfl  k) ?_
      show own_GoesW p e below s _ _ (T136.setTop (mkF m 65 #[iv p0, iv p1, iv p2, iv p3, iv p4, rv b101, rv b120, rv b131, rv b120, .unset] [(.ref b120)]))
      refine own_stW (fun _ k => XS.ifnullNo X136.here hx rfl (hb hby at_65) rfl k) ?_
      show own_GoesW p e below s _ _ (T136.setTop (mkF m 68 #[iv p0, iv p1, iv p2, iv p3, iv p4, rv b101, rv b120, rv b131, rv b120, .unset] []))
      refine own_stW (fun _ k => XS.aload X136.here hx rfl (hb hby at_68) rfl rfl  k) ?_
      show own_GoesW p e below s _ _ (T136.setTop (mkF m 70 #[iv p0, iv p1, iv p2, iv p3, iv p4, rv b101, rv b120, rv b131, rv b120, .unset] [(.ref b120)]))
      refine own_stW (fun _ k => XS.aload X136.here hx rfl (hb hby at_70) rfl rfl  k) ?_
      show own_GoesW p e below s _ _ (T136.setTop (mkF m 72 #[iv p0, iv p1, iv p2, iv p3, iv p4, rv b101, rv b120, rv b131, rv b120, .unset] [(.ref b120), (.ref b120)]))
      have f138 := ((((B120.ext E131).keep K132).keep K134).keep K135)
      obtain ⟨v137, T137, L137, X137, Q137, st137⟩ := own_callV X136 hx hZ (C := "java/lang/String") (y := (⟨"java/lang/String", "equals", "(Ljava/lang/Object;)Z"⟩ : MethodName)) hown (hw _ (List.mem_of_getElem? (i := 75) rfl)) (hw _ (List.mem_of_getElem? (i := 76) rfl)) (hw _ (List.mem_of_getElem? (i := 78) rfl)) (hw _ (List.mem_of_getElem? (i := 77) rfl)) (hw _ (List.mem_of_getElem? (i := 49) rfl)) (hw _ (List.mem_of_getElem? (i := 79) rfl)) (by decide) (W := 0) (rest := []) (argsL := [(.ref b120)]) (a := b120) (rmEq l Z a0 hw [] b120 T135.heap n0 (by omega)) (by decide) (by decide) (by decide) (by decide) e136 f138 own_pd11 rfl (g := (mkF m 72 #[iv p0, iv p1, iv p2, iv p3, iv p4, rv b101, rv b120, rv b131, rv b120, .unset] [(.ref b120), (.ref b120)])) rfl (by rw [hml]; rfl) rfl (by show 2 * 0 + _ ≤ _; exact Nat.le_of_eq rfl) (hb hby at_72)
      obtain ⟨rfl, N137q, e137⟩ := Q137
      have N137 := Fr.app N136 N137q
      refine own_stW st137 ?_
      show own_GoesW p e below s _ _ (T137.setTop (mkF m 75 #[iv p0, iv p1, iv p2, iv p3, iv p4, rv b101, rv b120, rv b131, rv b120, .unset] [(.int (1 : Int32))]))
      refine own_stW (fun _ k => XS.istore X137.here hx rfl (hb hby at_75) rfl (l' := #[iv p0, iv p1, iv p2, iv p3, iv p4, rv b101, rv b120, rv b131, rv b120, iv (1 : Int32)]) rfl k) ?_
      show own_GoesW p e below s _ _ (T137.setTop (mkF m 77 #[iv p0, iv p1, iv p2, iv p3, iv p4, rv b101, rv b120, rv b131, rv b120, iv (1 : Int32)] []))
      refine own_stW (fun _ k => XS.goto X137.here hx rfl (pc0 := 77) (pc' := 109) rfl (hb hby at_77) (by decide) (by decide) k) ?_
      show own_GoesW p e below s _ _ (T137.setTop (mkF m 109 #[iv p0, iv p1, iv p2, iv p3, iv p4, rv b101, rv b120, rv b131, rv b120, iv (1 : Int32)] []))
      refine own_stW (fun _ k => XS.iload X137.here hx rfl (hb hby at_109) rfl  k) ?_
      show own_GoesW p e below s _ _ (T137.setTop (mkF m 111 #[iv p0, iv p1, iv p2, iv p3, iv p4, rv b101, rv b120, rv b131, rv b120, iv (1 : Int32)] [(.int (1 : Int32))]))
      refine own_stW (fun _ k => XS.ifNo X137.here hx rfl (hb hby at_111) rfl ((if0 _ _).trans (feq (by decide : ¬ ((1 : Int32) = (0 : Int32)))).1) k) ?_
      show own_GoesW p e below s _ _ (T137.setTop (mkF m 114 #[iv p0, iv p1, iv p2, iv p3, iv p4, rv b101, rv b120, rv b131, rv b120, iv (1 : Int32)] []))
      refine own_stW (fun _ k => XS.aload X137.here hx rfl (hb hby at_114) rfl rfl  k) ?_
      show own_GoesW p e below s _ _ (T137.setTop (mkF m 116 #[iv p0, iv p1, iv p2, iv p3, iv p4, rv b101, rv b120, rv b131, rv b120, iv (1 : Int32)] [(.ref b131)]))
      obtain ⟨v139, T139, L139, X139, Q139, st139⟩ := own_callV X137 hx hZ (C := "jakarta/faces/application/FacesMessage") (y := (⟨"jakarta/faces/application/FacesMessage", "getSummary", "()Ljava/lang/String;"⟩ : MethodName)) hown (hw _ (List.mem_of_getElem? (i := 42) rfl)) (hw _ (List.mem_of_getElem? (i := 43) rfl)) (hw _ (List.mem_of_getElem? (i := 45) rfl)) (hw _ (List.mem_of_getElem? (i := 44) rfl)) (hw _ (List.mem_of_getElem? (i := 6) rfl)) (hw _ (List.mem_of_getElem? (i := 46) rfl)) (by decide) (W := 0) (rest := []) (argsL := []) (a := b131) (rmGS l Z a0 hw [] b131 (.ref b101) T135.heap n0 (by omega) rfl Fs135) (by decide) (by decide) (by decide) (by decide) e137 A135 own_pd10 rfl (g := (mkF m 116 #[iv p0, iv p1, iv p2, iv p3, iv p4, rv b101, rv b120, rv b131, rv b120, iv (1 : Int32)] [(.ref b131)])) rfl (by rw [hml]; rfl) rfl (by show 2 * 0 + _ ≤ _; exact Nat.le_of_eq rfl) (hb hby at_116)
      obtain ⟨rfl, N139q, e139⟩ := Q139
      have N139 := Fr.app N137 N139q
      refine own_stW st139 ?_
      show own_GoesW p e below s _ _ (T139.setTop (mkF m 119 #[iv p0, iv p1, iv p2, iv p3, iv p4, rv b101, rv b120, rv b131, rv b120, iv (1 : Int32)] [(.ref b101)]))
      refine own_stW (fun _ k => XS.aload X139.here hx rfl (hb hby at_119) rfl rfl  k) ?_
      show own_GoesW p e below s _ _ (T139.setTop (mkF m 121 #[iv p0, iv p1, iv p2, iv p3, iv p4, rv b101, rv b120, rv b131, rv b120, iv (1 : Int32)] [(.ref b101), (.ref b101)]))
      refine own_stW (fun _ k => Jvm.RoadKit.acmp (g := (mkF m 121 #[iv p0, iv p1, iv p2, iv p3, iv p4, rv b101, rv b120, rv b131, rv b120, iv (1 : Int32)] [(.ref b101), (.ref b101)])) X139 hx rfl rfl rfl (pc0 := 121) (pc' := 124) (same := true) rfl (hb hby at_121) rfl (decide_eq_true rfl) (by decide) (by decide) k) ?_
      show own_GoesW p e below s _ _ (T139.setTop (mkF m 124 #[iv p0, iv p1, iv p2, iv p3, iv p4, rv b101, rv b120, rv b131, rv b120, iv (1 : Int32)] []))
      refine own_stW (fun _ k => XS.iconst X139.here hx rfl (hb hby at_124) k) ?_
      show own_GoesW p e below s _ _ (T139.setTop (mkF m 125 #[iv p0, iv p1, iv p2, iv p3, iv p4, rv b101, rv b120, rv b131, rv b120, iv (1 : Int32)] [(.int (1 : Int32))]))
      refine own_stW (fun _ k => XS.goto X139.here hx rfl (pc0 := 125) (pc' := 129) rfl (hb hby at_125) (by decide) (by decide) k) ?_
      show own_GoesW p e below s _ _ (T139.setTop (mkF m 129 #[iv p0, iv p1, iv p2, iv p3, iv p4, rv b101, rv b120, rv b131, rv b120, iv (1 : Int32)] [(.int (1 : Int32))]))
      exact own_retNW X139 hx hS (by rw [e139]; omega) hlk (1 : Int32) hret (Or.inl rfl) rfl (hb hby at_129) (by decide) (by decide) ⟨rfl, N139⟩
set_option maxRecDepth 65536 in
set_option maxHeartbeats 40000000 in
theorem comes_1 {Post : Tables → Env → Array Value → State → Outcome → State → Prop} (hpost : ∀ tb e args s v u, (limb_1_1.after args s (.returned v) u = true ∧ limb_1_2.after args s (.returned v) u = true ∧ True) → ReturnedEndW s (.returned v) u (Jvm.fieldLocs frame_1_writes args s ++ Jvm.arrayLocs frame_1_arrays args s ++ Jvm.staticLocs frame_1_statics s) 24 1152 → Post tb e args s (.returned v) u) :
    ArmFor flags0 classFile x code maxLocals ret World_1 tables_1 room_1 Calls_1 rest_1 Pre_1 Post := by
  intro l hfl _ _ p e ha hc hk s m args below hf hA hF happ hP
  obtain ⟨hcalls, hrest, hpre⟩ := hP
  obtain ⟨-, -, -, hnamed, -, -, -, hat⟩ := (Spec.applies_iff hf).mp happ
  obtain ⟨hg, hn⟩ := and_e (Cond.before_iff.mp (show (Jvm.Cond.and given_1 narrow_1).before args s = true from hpre))
  obtain ⟨hcnt, q0⟩ := and_e hg
  obtain ⟨u0, q1⟩ := and_e q0
  obtain ⟨u1, q2⟩ := and_e q1
  obtain ⟨u2, q3⟩ := and_e q2
  obtain ⟨u3, q4⟩ := and_e q3
  obtain ⟨w0, w1, w2, w3, w4, rfl⟩ : ∃ w0 w1 w2 w3 w4 : Value, args = #[w0, w1, w2, w3, w4] := by
    have hs : args.size = 5 := by simpa [Cond.value, given_1] using hcnt
    obtain ⟨L⟩ := args
    match L, hs with
    | [w0, w1, w2, w3, w4], _ => exact ⟨w0, w1, w2, w3, w4, rfl⟩
  have hw := fun d (hd : d ∈ tables_1) => atoms_spec (ws := Jvm.Cond.code x code maxLocals ret :: tables_1) hat d (List.mem_cons_of_mem _ hd)
  have hfit : Fit s := fun {y c} hc i hi => by
    obtain ⟨ha, rfl⟩ := Array.getElem?_eq_some_iff.mp hc
    have q := List.all_eq_true.mp ((Array.all_eq_true_iff_forall_mem.mp hF) _ (Array.getElem_mem ha)) i (List.mem_range.mpr hi)
    simpa [Array.getElem?_eq_getElem hi] using q
  obtain ⟨hsets, hown0⟩ := atoms_of _ (rest_1_c_eq ▸ (show rest_1_c.before _ s = true from hrest))
  obtain ⟨i0, ei0⟩ := is_v u0
  obtain rfl : w0 = (.int i0) := Option.some.inj ei0
  obtain ⟨i1, ei1⟩ := is_v u1
  obtain rfl : w1 = (.int i1) := Option.some.inj ei1
  obtain ⟨i2, ei2⟩ := is_v u2
  obtain rfl : w2 = (.int i2) := Option.some.inj ei2
  obtain ⟨i3, ei3⟩ := is_v u3
  obtain rfl : w3 = (.int i3) := Option.some.inj ei3
  obtain ⟨i4, ei4⟩ := is_v q4
  obtain rfl : w4 = (.int i4) := Option.some.inj ei4
  obtain ⟨cs, S1, hcs⟩ := own_compact (Cond.before_iff.mp (hsets _ (List.mem_of_getElem? (i := 1) rfl))) (Cond.before_iff.mp (hsets _ (List.mem_of_getElem? (i := 2) rfl))) (hsets _ (List.mem_of_getElem? (i := 0) rfl))
  have CH : Jvm.Lit.constHeld s "java/lang/String" 7 := hcalls.1 ("java/lang/String", 7) (by simp [consts_1])
  obtain ⟨sv, -, S2, -⟩ := own_static hn (hw _ (List.mem_of_getElem? (i := 6) rfl)) (hw _ (List.mem_of_getElem? (i := 11) rfl))
  obtain ⟨n, o, h1, h2, h3, _, L, rfl, ⟨rfl, N⟩, hq⟩ := rm0 l s _ hw tables_1 i0 i1 i2 i3 i4 cs sv s.heap s.heap.size (Nat.le_refl _) S1 S2 hcs (fun _ _ q => q) CH (hsets _ (List.mem_of_getElem? (i := 2) rfl)) p e ha hc hk s m _ below hf ((Spec.applies_iff_loose hf).mp happ).1 ⟨rfl, State.Warmed39.refl s, rfl, Or.inl IB.start⟩ trivial
  refine ⟨n, _, h1, h2, h3, hpost _ _ _ _ _ _ ⟨Cond.after_iff.mpr rfl, Cond.after_iff.mpr (eq_i res_at (Term.int_eval (1)) rfl), trivial⟩ ⟨hq.1, hq.2.1, hq.2.2.1, (hq.2.2.2.sift fun y hy => Or.inr (N y hy)).mono (by decide) (by decide)⟩⟩
theorem main_1_1 : Claimed_1_1 := comes_1 fun _ _ _ _ _ _ h hF => ⟨h.1, hF⟩
theorem main_1_2 : Claimed_1_2 := comes_1 fun _ _ _ _ _ _ h hF => ⟨h.2.1, hF⟩
end Jvm.Pilot.@@N@@
namespace Jvm.Pilot.@@N@@
open Jvm Jvm.ClassFile Sem Op Lib Jvm.Free Jvm.Stand Jvm.Pilot.@@N@@.Jvm.D
/-! MADE BY PROGRAM (witnessworld.py) out of the Statement's table words and the real class files: 21 classes; the members and pool entries that the words name. The judged class is class 1, her method 2. -/
namespace start1
open Jvm.ClassFile
def u (s : String) : CpInfo := .utf8 (stringToUtf16 s)
/-- a pool by its gaps: so many unusable entries, then the entry; so many at the end -/
def gap : Nat → List CpInfo → List CpInfo
  | 0, r => r
  | n + 1, r => .unusable :: gap n r
def poolList (es : List (Nat × CpInfo)) (last : Nat) : List CpInfo := es.foldr (fun e r => gap e.1 (e.2 :: r)) (gap last [])
def pool (es : List (Nat × CpInfo)) (last : Nat) : Array CpInfo := ⟨poolList es last⟩
def fileOf (pool : Array CpInfo) (this : Nat) (attrs : Array Attribute := #[]) (ms : Array MethodInfo := #[]) (fl : Nat := 33) (sup : Nat := 0) (ifs : Array Nat := #[]) (fds : Array FieldInfo := #[]) : ClassFile where
  minorVersion := 0
  majorVersion := 65
  constantPool := pool
  accessFlags := fl
  thisClass := this
  superClass := sup
  interfaces := ifs
  fields := fds
  methods := ms
  attributes := attrs
def plain (name : String) (sup : Option ClassId) : Class where
  name := name
  kind := .ordinary
  loader := none
  accessFlags := 33
  super := sup
  interfaces := #[]
  cf := none
  fields := #[]
  methods := #[]
  instanceTypes := #[]
  staticTypes := #[]
  resolved := #[]
  callSites := []
  init := .initialized
  statics := none
  mirror := none

def pool0 : Array CpInfo := pool [(5, u "<init>"), (0, u "()V"), (1, .class_ 10), (1, u "java/lang/Object")] 113

def k0c0 : Code := { maxStack := 0, maxLocals := 1, code := object_method_1_code, exceptionTable := #[], attributes := #[] }
def k0m0 : Method := { name := "<init>", desc := "()V", sig := { parameters := [], returnType := none }, accessFlags := 1, code := some k0c0 }
/-- java/lang/Object -/
def k0 : Class := { plain "java/lang/Object" none with
  accessFlags := 33
  interfaces := #[]
  cf := some (fileOf pool0 8 #[] #[{ accessFlags := 1, nameIndex := 5, descriptorIndex := 6, attributes := #[] }] 33 0 #[] #[])
  fields := #[]
  methods := #[k0m0]
  instanceTypes := #[]
  staticTypes := #[]
  resolved := Array.replicate 124 none
  statics := none }

def pool1 : Array CpInfo := pool [(2, .class_ 4), (0, .nameAndType 5 6), (0, u "java/lang/Object"), (0, u "<init>"), (0, u "()V"), (0, .class_ 8), (0, u "java/lang/String"), (0, .methodref 7 10), (0, .nameAndType 5 11), (0, u "([C)V"), (0, .methodref 13 14), (0, .class_ 15), (0, .nameAndType 16 17), (0, u "jakarta/faces/application/FacesMessageGetDetailPinLaw"), (0, u "mk"), (0, u "(IIII)Ljava/lang/String;"), (0, .class_ 19), (0, u "jakarta/faces/application/FacesMessage"), (0, .methodref 18 3), (0, .methodref 18 22), (0, .nameAndType 23 24), (0, u "setSummary"), (0, u "(Ljava/lang/String;)V"), (0, .methodref 18 26), (0, .nameAndType 27 24), (0, u "setDetail"), (0, .methodref 18 29), (0, .nameAndType 30 31), (0, u "getDetail"), (0, u "()Ljava/lang/String;"), (0, .methodref 7 33), (0, .nameAndType 34 35), (0, u "equals"), (0, u "(Ljava/lang/Object;)Z"), (0, .methodref 18 37), (0, .nameAndType 38 31), (0, u "getSummary"), (3, u "law"), (0, u "(IIIII)Z")] 2

def k1m0 : Method := { name := "<init>", desc := "()V", sig := { parameters := [], returnType := none }, accessFlags := 1, code := none }
def k1c1 : Code := { maxStack := 6, maxLocals := 6, code := method_2_code, exceptionTable := #[], attributes := #[] }
def k1m1 : Method := { name := "mk", desc := "(IIII)Ljava/lang/String;", sig := { parameters := [.int, .int, .int, .int], returnType := some (.object "java/lang/String") }, accessFlags := 10, code := some k1c1 }
def k1c2 : Code := { maxStack := 4, maxLocals := 10, code := code, exceptionTable := #[], attributes := #[] }
def k1m2 : Method := { name := "law", desc := "(IIIII)Z", sig := { parameters := [.int, .int, .int, .int, .int], returnType := some .boolean }, accessFlags := 9, code := some k1c2 }
/-- jakarta/faces/application/FacesMessageGetDetailPinLaw -/
def k1 : Class := { plain "jakarta/faces/application/FacesMessageGetDetailPinLaw" (some 0) with
  accessFlags := 49
  interfaces := #[]
  cf := some (fileOf pool1 13 #[] #[{ accessFlags := 1, nameIndex := 5, descriptorIndex := 6, attributes := #[] }, { accessFlags := 10, nameIndex := 16, descriptorIndex := 17, attributes := #[] }, { accessFlags := 9, nameIndex := 42, descriptorIndex := 43, attributes := #[] }] 49 2 #[] #[])
  fields := #[]
  methods := #[k1m0, k1m1, k1m2]
  instanceTypes := #[]
  staticTypes := #[]
  resolved := Array.replicate 46 none
  statics := none }

def pool2 : Array CpInfo := pool [(1, .class_ 2), (0, u "java/io/Serializable"), (0, .class_ 4), (0, u "java/lang/Object")] 2

/-- java/io/Serializable -/
def k2 : Class := { plain "java/io/Serializable" (some 0) with
  accessFlags := 1537
  interfaces := #[]
  cf := some (fileOf pool2 1 #[] #[] 1537 3 #[] #[])
  fields := #[]
  methods := #[]
  instanceTypes := #[]
  staticTypes := #[]
  resolved := Array.replicate 7 none
  statics := none }

def pool3 : Array CpInfo := pool [(1, .fieldref 2 3), (0, .class_ 4), (0, .nameAndType 5 6), (0, u "jakarta/faces/application/FacesMessage"), (0, u "SEVERITY_INFO"), (0, u "Ljakarta/faces/application/FacesMessage$Severity;"), (0, .methodref 2 8), (0, .nameAndType 9 10), (0, u "<init>"), (0, u "(Ljakarta/faces/application/FacesMessage$Severity;Ljava/lang/String;Ljava/lang/String;)V"), (0, .methodref 12 13), (0, .class_ 14), (0, .nameAndType 9 15), (0, u "java/lang/Object"), (0, u "()V"), (0, .methodref 2 17), (0, .nameAndType 18 19), (0, u "requireSeverity"), (0, u "(Ljakarta/faces/application/FacesMessage$Severity;)Ljakarta/faces/application/FacesMessage$Severity;"), (0, .fieldref 2 21), (0, .nameAndType 22 6), (0, u "severity"), (0, .fieldref 2 24), (0, .nameAndType 25 26), (0, u "summary"), (0, u "Ljava/lang/String;"), (0, .fieldref 2 28), (0, .nameAndType 29 26), (0, u "detail"), (2, u "rendered"), (0, u "Z"), (6, u "(Ljava/lang/String;)V"), (6, .class_ 49), (1, u "jakarta/faces/application/FacesMessage$Severity"), (16, u "VALUES"), (0, u "Ljava/util/List;"), (28, u "SEVERITY_WARN"), (4, u "SEVERITY_ERROR"), (4, u "SEVERITY_FATAL"), (33, u "VALUES_MAP"), (0, u "Ljava/util/Map;"), (0, .class_ 143), (0, u "java/io/Serializable"), (0, u "FACES_MESSAGES"), (6, u "serialVersionUID"), (0, u "J"), (9, u "getSummary"), (0, u "()Ljava/lang/String;"), (0, u "setSummary"), (0, u "getDetail"), (3, u "setDetail")] 46

def k3c0 : Code := { maxStack := 4, maxLocals := 1, code := prog_23_method_1_code, exceptionTable := #[], attributes := #[] }
def k3m0 : Method := { name := "<init>", desc := "()V", sig := { parameters := [], returnType := none }, accessFlags := 1, code := some k3c0 }
def k3c1 : Code := { maxStack := 2, maxLocals := 4, code := prog_23_method_4_code, exceptionTable := #[], attributes := #[] }
def k3m1 : Method := { name := "<init>", desc := "(Ljakarta/faces/application/FacesMessage$Severity;Ljava/lang/String;Ljava/lang/String;)V", sig := { parameters := [(.object "jakarta/faces/application/FacesMessage$Severity"), (.object "java/lang/String"), (.object "java/lang/String")], returnType := none }, accessFlags := 1, code := some k3c1 }
def k3c2 : Code := { maxStack := 1, maxLocals := 1, code := prog_23_method_7_code, exceptionTable := #[], attributes := #[] }
def k3m2 : Method := { name := "getSummary", desc := "()Ljava/lang/String;", sig := { parameters := [], returnType := some (.object "java/lang/String") }, accessFlags := 1, code := some k3c2 }
def k3c3 : Code := { maxStack := 2, maxLocals := 2, code := prog_23_method_8_code, exceptionTable := #[], attributes := #[] }
def k3m3 : Method := { name := "setSummary", desc := "(Ljava/lang/String;)V", sig := { parameters := [(.object "java/lang/String")], returnType := none }, accessFlags := 1, code := some k3c3 }
def k3c4 : Code := { maxStack := 1, maxLocals := 2, code := prog_23_method_9_code, exceptionTable := #[], attributes := #[] }
def k3m4 : Method := { name := "getDetail", desc := "()Ljava/lang/String;", sig := { parameters := [], returnType := some (.object "java/lang/String") }, accessFlags := 1, code := some k3c4 }
def k3c5 : Code := { maxStack := 2, maxLocals := 2, code := prog_23_method_10_code, exceptionTable := #[], attributes := #[] }
def k3m5 : Method := { name := "setDetail", desc := "(Ljava/lang/String;)V", sig := { parameters := [(.object "java/lang/String")], returnType := none }, accessFlags := 1, code := some k3c5 }
def k3c6 : Code := { maxStack := 3, maxLocals := 1, code := prog_23_method_13_code, exceptionTable := #[], attributes := #[] }
def k3m6 : Method := { name := "requireSeverity", desc := "(Ljakarta/faces/application/FacesMessage$Severity;)Ljakarta/faces/application/FacesMessage$Severity;", sig := { parameters := [(.object "jakarta/faces/application/FacesMessage$Severity")], returnType := some (.object "jakarta/faces/application/FacesMessage$Severity") }, accessFlags := 10, code := some k3c6 }
/-- jakarta/faces/application/FacesMessage -/
def k3 : Class := { plain "jakarta/faces/application/FacesMessage" (some 0) with
  accessFlags := 33
  interfaces := #[2]
  cf := some (fileOf pool3 2 #[.nestMembers #[47]] #[{ accessFlags := 1, nameIndex := 9, descriptorIndex := 15, attributes := #[] }, { accessFlags := 1, nameIndex := 9, descriptorIndex := 10, attributes := #[] }, { accessFlags := 1, nameIndex := 162, descriptorIndex := 163, attributes := #[] }, { accessFlags := 1, nameIndex := 164, descriptorIndex := 40, attributes := #[] }, { accessFlags := 1, nameIndex := 165, descriptorIndex := 163, attributes := #[] }, { accessFlags := 1, nameIndex := 169, descriptorIndex := 40, attributes := #[] }, { accessFlags := 10, nameIndex := 18, descriptorIndex := 19, attributes := #[] }] 33 12 #[142] #[{ accessFlags := 25, nameIndex := 144, descriptorIndex := 26, attributes := #[] }, { accessFlags := 25, nameIndex := 5, descriptorIndex := 6, attributes := #[] }, { accessFlags := 25, nameIndex := 96, descriptorIndex := 6, attributes := #[] }, { accessFlags := 25, nameIndex := 101, descriptorIndex := 6, attributes := #[] }, { accessFlags := 25, nameIndex := 106, descriptorIndex := 6, attributes := #[] }, { accessFlags := 25, nameIndex := 66, descriptorIndex := 67, attributes := #[] }, { accessFlags := 25, nameIndex := 140, descriptorIndex := 141, attributes := #[] }, { accessFlags := 26, nameIndex := 151, descriptorIndex := 152, attributes := #[] }, { accessFlags := 130, nameIndex := 22, descriptorIndex := 6, attributes := #[] }, { accessFlags := 2, nameIndex := 25, descriptorIndex := 26, attributes := #[] }, { accessFlags := 2, nameIndex := 29, descriptorIndex := 26, attributes := #[] }, { accessFlags := 2, nameIndex := 32, descriptorIndex := 33, attributes := #[] }])
  fields := #[{ name := "FACES_MESSAGES", type := (.object "java/lang/String"), accessFlags := 25, slot := 0, constantValue := 0 }, { name := "SEVERITY_INFO", type := (.object "jakarta/faces/application/FacesMessage$Severity"), accessFlags := 25, slot := 1, constantValue := 0 }, { name := "SEVERITY_WARN", type := (.object "jakarta/faces/application/FacesMessage$Severity"), accessFlags := 25, slot := 2, constantValue := 0 }, { name := "SEVERITY_ERROR", type := (.object "jakarta/faces/application/FacesMessage$Severity"), accessFlags := 25, slot := 3, constantValue := 0 }, { name := "SEVERITY_FATAL", type := (.object "jakarta/faces/application/FacesMessage$Severity"), accessFlags := 25, slot := 4, constantValue := 0 }, { name := "VALUES", type := (.object "java/util/List"), accessFlags := 25, slot := 5, constantValue := 0 }, { name := "VALUES_MAP", type := (.object "java/util/Map"), accessFlags := 25, slot := 6, constantValue := 0 }, { name := "serialVersionUID", type := .long, accessFlags := 26, slot := 7, constantValue := 0 }, { name := "severity", type := (.object "jakarta/faces/application/FacesMessage$Severity"), accessFlags := 130, slot := 0, constantValue := 0 }, { name := "summary", type := (.object "java/lang/String"), accessFlags := 2, slot := 1, constantValue := 0 }, { name := "detail", type := (.object "java/lang/String"), accessFlags := 2, slot := 2, constantValue := 0 }, { name := "rendered", type := .boolean, accessFlags := 2, slot := 3, constantValue := 0 }]
  methods := #[k3m0, k3m1, k3m2, k3m3, k3m4, k3m5, k3m6]
  instanceTypes := #[(.object "jakarta/faces/application/FacesMessage$Severity"), (.object "java/lang/String"), (.object "java/lang/String"), .boolean]
  staticTypes := #[(.object "java/lang/String"), (.object "jakarta/faces/application/FacesMessage$Severity"), (.object "jakarta/faces/application/FacesMessage$Severity"), (.object "jakarta/faces/application/FacesMessage$Severity"), (.object "jakarta/faces/application/FacesMessage$Severity"), (.object "java/util/List"), (.object "java/util/Map"), .long]
  resolved := Array.replicate 216 none
  statics := some 0 }

def pool4 : Array CpInfo := pool [(1, .class_ 2), (0, u "java/lang/Comparable"), (0, .class_ 4), (0, u "java/lang/Object")] 7

/-- java/lang/Comparable -/
def k4 : Class := { plain "java/lang/Comparable" (some 0) with
  accessFlags := 1537
  interfaces := #[]
  cf := some (fileOf pool4 1 #[] #[] 1537 3 #[] #[])
  fields := #[]
  methods := #[]
  instanceTypes := #[]
  staticTypes := #[]
  resolved := Array.replicate 12 none
  statics := none }

def pool5 : Array CpInfo := pool [(2, .class_ 4), (1, u "java/lang/CharSequence"), (42, .class_ 48), (0, u "java/lang/CharSequence$1CodePointIterator"), (10, .class_ 60), (0, u "java/lang/CharSequence$1CharIterator"), (5, .class_ 67), (0, u "java/lang/Object")] 63

/-- java/lang/CharSequence -/
def k5 : Class := { plain "java/lang/CharSequence" (some 0) with
  accessFlags := 1537
  interfaces := #[]
  cf := some (fileOf pool5 2 #[.nestMembers #[47, 59]] #[] 1537 66 #[] #[])
  fields := #[]
  methods := #[]
  instanceTypes := #[]
  staticTypes := #[]
  resolved := Array.replicate 131 none
  statics := none }

def pool6 : Array CpInfo := pool [(1, .class_ 2), (0, u "java/lang/constant/Constable"), (0, .class_ 4), (0, u "java/lang/Object")] 6

/-- java/lang/constant/Constable -/
def k6 : Class := { plain "java/lang/constant/Constable" (some 0) with
  accessFlags := 1537
  interfaces := #[]
  cf := some (fileOf pool6 1 #[] #[] 1537 3 #[] #[])
  fields := #[]
  methods := #[]
  instanceTypes := #[]
  staticTypes := #[]
  resolved := Array.replicate 11 none
  statics := none }

def pool7 : Array CpInfo := pool [(1, .class_ 2), (0, u "java/lang/constant/ConstantDesc"), (0, .class_ 4), (0, u "java/lang/Object")] 32

/-- java/lang/constant/ConstantDesc -/
def k7 : Class := { plain "java/lang/constant/ConstantDesc" (some 0) with
  accessFlags := 1537
  interfaces := #[]
  cf := some (fileOf pool7 1 #[] #[] 1537 3 #[] #[])
  fields := #[]
  methods := #[]
  instanceTypes := #[]
  staticTypes := #[]
  resolved := Array.replicate 37 none
  statics := none }

def pool8 : Array CpInfo := pool [(1, .methodref 2 3), (0, .class_ 4), (0, .nameAndType 5 6), (0, u "java/lang/Object"), (0, u "<init>"), (0, u "()V"), (0, .string 8), (0, u ""), (0, .fieldref 10 11), (0, .class_ 12), (0, .nameAndType 13 14), (0, u "java/lang/String"), (0, u "value"), (0, u "[B"), (0, .fieldref 10 16), (0, .nameAndType 17 18), (0, u "coder"), (0, u "B"), (2, u "hash"), (0, u "I"), (2, u "hashIsZero"), (0, u "Z"), (0, .methodref 10 28), (0, .nameAndType 5 29), (0, u "([CIILjava/lang/Void;)V"), (8, .fieldref 10 39), (0, .nameAndType 40 26), (0, u "COMPACT_STRINGS"), (1, .class_ 44), (1, u "java/lang/StringUTF16"), (0, u "compress"), (1, .methodref 42 48), (0, .nameAndType 49 50), (0, u "coderFromArrayLen"), (0, u "([BI)B"), (126, .methodref 42 178), (0, .nameAndType 45 179), (0, u "([CII)[B"), (363, u "equals"), (29, u "(Ljava/lang/Object;)Z"), (1, .class_ 576), (0, u "java/lang/CharSequence"), (22, u "CASE_INSENSITIVE_ORDER"), (0, u "Ljava/util/Comparator;"), (409, u "([C)V"), (90, u "serialPersistentFields"), (0, u "[Ljava/io/ObjectStreamField;"), (0, .class_ 1104), (0, u "java/lang/String$CaseInsensitiveComparator"), (1, .class_ 1107), (0, u "java/io/Serializable"), (0, .class_ 1109), (0, u "java/lang/Comparable"), (0, .class_ 1111), (0, u "java/lang/constant/Constable"), (0, .class_ 1113), (0, u "java/lang/constant/ConstantDesc"), (2, u "serialVersionUID"), (0, u "J"), (3, u "REPL"), (0, u "C"), (2, u "LATIN1"), (1, u "UTF16")] 323

def k8m0 : Method := { name := "<init>", desc := "()V", sig := { parameters := [], returnType := none }, accessFlags := 1, code := none }
def k8c1 : Code := { maxStack := 5, maxLocals := 2, code := jdk_42_method_3_code, exceptionTable := #[], attributes := #[] }
def k8m1 : Method := { name := "<init>", desc := "([C)V", sig := { parameters := [(.array .char)], returnType := none }, accessFlags := 1, code := some k8c1 }
def k8c2 : Code := { maxStack := 2, maxLocals := 3, code := jdk_42_method_66_code, exceptionTable := #[], attributes := #[] }
def k8m2 : Method := { name := "equals", desc := "(Ljava/lang/Object;)Z", sig := { parameters := [(.object "java/lang/Object")], returnType := some .boolean }, accessFlags := 1, code := some k8c2 }
def k8c3 : Code := { maxStack := 4, maxLocals := 6, code := jdk_42_method_149_code, exceptionTable := #[], attributes := #[] }
def k8m3 : Method := { name := "<init>", desc := "([CIILjava/lang/Void;)V", sig := { parameters := [(.array .char), .int, .int, (.object "java/lang/Void")], returnType := none }, accessFlags := 2, code := some k8c3 }
/-- java/lang/String -/
def k8 : Class := { plain "java/lang/String" (some 0) with
  accessFlags := 49
  interfaces := #[2, 4, 5, 6, 7]
  cf := some (fileOf pool8 10 #[.nestMembers #[1103]] #[{ accessFlags := 1, nameIndex := 5, descriptorIndex := 6, attributes := #[] }, { accessFlags := 1, nameIndex := 5, descriptorIndex := 1010, attributes := #[] }, { accessFlags := 1, nameIndex := 543, descriptorIndex := 573, attributes := #[] }, { accessFlags := 2, nameIndex := 5, descriptorIndex := 29, attributes := #[] }] 49 2 #[1106, 1108, 575, 1110, 1112] #[{ accessFlags := 18, nameIndex := 13, descriptorIndex := 14, attributes := #[] }, { accessFlags := 18, nameIndex := 17, descriptorIndex := 18, attributes := #[] }, { accessFlags := 2, nameIndex := 21, descriptorIndex := 22, attributes := #[] }, { accessFlags := 2, nameIndex := 25, descriptorIndex := 26, attributes := #[] }, { accessFlags := 26, nameIndex := 1116, descriptorIndex := 1117, attributes := #[] }, { accessFlags := 24, nameIndex := 40, descriptorIndex := 26, attributes := #[] }, { accessFlags := 26, nameIndex := 1101, descriptorIndex := 1102, attributes := #[] }, { accessFlags := 26, nameIndex := 1121, descriptorIndex := 1122, attributes := #[] }, { accessFlags := 25, nameIndex := 599, descriptorIndex := 600, attributes := #[] }, { accessFlags := 24, nameIndex := 1125, descriptorIndex := 18, attributes := #[] }, { accessFlags := 24, nameIndex := 1127, descriptorIndex := 18, attributes := #[] }])
  fields := #[{ name := "value", type := (.array .byte), accessFlags := 18, slot := 0, constantValue := 0 }, { name := "coder", type := .byte, accessFlags := 18, slot := 1, constantValue := 0 }, { name := "hash", type := .int, accessFlags := 2, slot := 2, constantValue := 0 }, { name := "hashIsZero", type := .boolean, accessFlags := 2, slot := 3, constantValue := 0 }, { name := "serialVersionUID", type := .long, accessFlags := 26, slot := 0, constantValue := 0 }, { name := "COMPACT_STRINGS", type := .boolean, accessFlags := 24, slot := 1, constantValue := 0 }, { name := "serialPersistentFields", type := (.array (.object "java/io/ObjectStreamField")), accessFlags := 26, slot := 2, constantValue := 0 }, { name := "REPL", type := .char, accessFlags := 26, slot := 3, constantValue := 0 }, { name := "CASE_INSENSITIVE_ORDER", type := (.object "java/util/Comparator"), accessFlags := 25, slot := 4, constantValue := 0 }, { name := "LATIN1", type := .byte, accessFlags := 24, slot := 5, constantValue := 0 }, { name := "UTF16", type := .byte, accessFlags := 24, slot := 6, constantValue := 0 }]
  methods := #[k8m0, k8m1, k8m2, k8m3]
  instanceTypes := #[(.array .byte), .byte, .int, .boolean]
  staticTypes := #[.long, .boolean, (.array (.object "java/io/ObjectStreamField")), .char, (.object "java/util/Comparator"), .byte, .byte]
  resolved := Array.replicate 1451 none
  statics := some 1 }

def pool9 : Array CpInfo := pool [(6, .class_ 8), (1, u "java/lang/Object"), (0, u "<init>"), (0, u "()V"), (1, .class_ 14), (1, u "java/lang/StringUTF16"), (31, u "$assertionsDisabled"), (0, u "Z"), (13, u "HI_BYTE_SHIFT"), (0, u "I"), (2, u "LO_BYTE_SHIFT"), (49, .methodref 12 116), (0, .nameAndType 117 118), (0, u "compress"), (0, u "([CI[BII)I"), (3, u "([CII)[B"), (138, u "coderFromArrayLen"), (0, u "([BI)B"), (106, .class_ 371), (1, u "java/lang/StringUTF16$LinesSpliterator"), (58, u "MAX_LENGTH"), (196, .class_ 628), (0, u "java/lang/StringUTF16$CodePointsSpliterator"), (0, .class_ 630), (0, u "java/lang/StringUTF16$CharsSpliterator")] 4

def k9m0 : Method := { name := "<init>", desc := "()V", sig := { parameters := [], returnType := none }, accessFlags := 0, code := none }
def k9c1 : Code := { maxStack := 2, maxLocals := 2, code := jdk_52_method_15_code, exceptionTable := #[], attributes := #[] }
def k9m1 : Method := { name := "coderFromArrayLen", desc := "([BI)B", sig := { parameters := [(.array .byte), .int], returnType := some .byte }, accessFlags := 8, code := some k9c1 }
def k9c2 : Code := { maxStack := 5, maxLocals := 6, code := jdk_52_method_16_code, exceptionTable := #[], attributes := #[] }
def k9m2 : Method := { name := "compress", desc := "([CII)[B", sig := { parameters := [(.array .char), .int, .int], returnType := some (.array .byte) }, accessFlags := 9, code := some k9c2 }
def k9c3 : Code := { maxStack := 3, maxLocals := 7, code := jdk_52_method_21_code, exceptionTable := #[], attributes := #[] }
def k9m3 : Method := { name := "compress", desc := "([CI[BII)I", sig := { parameters := [(.array .char), .int, (.array .byte), .int, .int], returnType := some .int }, accessFlags := 9, code := some k9c3 }
/-- java/lang/StringUTF16 -/
def k9 : Class := { plain "java/lang/StringUTF16" (some 0) with
  accessFlags := 48
  interfaces := #[]
  cf := some (fileOf pool9 12 #[.nestMembers #[627, 629, 369]] #[{ accessFlags := 0, nameIndex := 9, descriptorIndex := 10, attributes := #[] }, { accessFlags := 8, nameIndex := 261, descriptorIndex := 262, attributes := #[] }, { accessFlags := 9, nameIndex := 117, descriptorIndex := 122, attributes := #[] }, { accessFlags := 9, nameIndex := 117, descriptorIndex := 118, attributes := #[] }] 48 6 #[] #[{ accessFlags := 26, nameIndex := 61, descriptorIndex := 62, attributes := #[] }, { accessFlags := 26, nameIndex := 65, descriptorIndex := 62, attributes := #[] }, { accessFlags := 24, nameIndex := 430, descriptorIndex := 62, attributes := #[] }, { accessFlags := 4120, nameIndex := 46, descriptorIndex := 47, attributes := #[] }])
  fields := #[{ name := "HI_BYTE_SHIFT", type := .int, accessFlags := 26, slot := 0, constantValue := 0 }, { name := "LO_BYTE_SHIFT", type := .int, accessFlags := 26, slot := 1, constantValue := 0 }, { name := "MAX_LENGTH", type := .int, accessFlags := 24, slot := 2, constantValue := 0 }, { name := "$assertionsDisabled", type := .boolean, accessFlags := 4120, slot := 3, constantValue := 0 }]
  methods := #[k9m0, k9m1, k9m2, k9m3]
  instanceTypes := #[]
  staticTypes := #[.int, .int, .int, .boolean]
  resolved := Array.replicate 635 none
  statics := none }

def pool10 : Array CpInfo := pool [(4, .class_ 6), (1, u "java/lang/Object"), (0, u "<init>"), (0, u "()V"), (5, .class_ 16), (1, u "java/lang/StringLatin1"), (104, u "$assertionsDisabled"), (0, u "Z"), (98, .class_ 223), (1, u "java/lang/StringLatin1$LinesSpliterator"), (166, .class_ 391), (0, u "java/lang/StringLatin1$CharsSpliterator")] 3

def k10m0 : Method := { name := "<init>", desc := "()V", sig := { parameters := [], returnType := none }, accessFlags := 0, code := none }
/-- java/lang/StringLatin1 -/
def k10 : Class := { plain "java/lang/StringLatin1" (some 0) with
  accessFlags := 48
  interfaces := #[]
  cf := some (fileOf pool10 14 #[.nestMembers #[390, 221]] #[{ accessFlags := 0, nameIndex := 7, descriptorIndex := 8, attributes := #[] }] 48 4 #[] #[{ accessFlags := 4120, nameIndex := 121, descriptorIndex := 122, attributes := #[] }])
  fields := #[{ name := "$assertionsDisabled", type := .boolean, accessFlags := 4120, slot := 0, constantValue := 0 }]
  methods := #[k10m0]
  instanceTypes := #[]
  staticTypes := #[.boolean]
  resolved := Array.replicate 395 none
  statics := none }

def pool11 : Array CpInfo := pool [(2, .class_ 4), (1, u "java/lang/Object"), (0, u "<init>"), (0, u "()V"), (17, .class_ 26), (1, u "jdk/internal/util/Preconditions"), (28, .class_ 56), (0, u "jdk/internal/util/Preconditions$4"), (57, .class_ 115), (0, u "jdk/internal/util/Preconditions$1"), (7, u "SIOOBE_FORMATTER"), (0, u "Ljava/util/function/BiFunction;"), (0, .class_ 126), (0, u "jdk/internal/util/Preconditions$2"), (3, u "AIOOBE_FORMATTER"), (0, .class_ 132), (0, u "jdk/internal/util/Preconditions$3"), (3, u "IOOBE_FORMATTER")] 57

def k11m0 : Method := { name := "<init>", desc := "()V", sig := { parameters := [], returnType := none }, accessFlags := 1, code := none }
/-- jdk/internal/util/Preconditions -/
def k11 : Class := { plain "jdk/internal/util/Preconditions" (some 0) with
  accessFlags := 33
  interfaces := #[]
  cf := some (fileOf pool11 24 #[.nestMembers #[55, 131, 125, 114]] #[{ accessFlags := 1, nameIndex := 5, descriptorIndex := 6, attributes := #[] }] 33 2 #[] #[{ accessFlags := 25, nameIndex := 123, descriptorIndex := 124, attributes := #[] }, { accessFlags := 25, nameIndex := 130, descriptorIndex := 124, attributes := #[] }, { accessFlags := 25, nameIndex := 136, descriptorIndex := 124, attributes := #[] }])
  fields := #[{ name := "SIOOBE_FORMATTER", type := (.object "java/util/function/BiFunction"), accessFlags := 25, slot := 0, constantValue := 0 }, { name := "AIOOBE_FORMATTER", type := (.object "java/util/function/BiFunction"), accessFlags := 25, slot := 1, constantValue := 0 }, { name := "IOOBE_FORMATTER", type := (.object "java/util/function/BiFunction"), accessFlags := 25, slot := 2, constantValue := 0 }]
  methods := #[k11m0]
  instanceTypes := #[]
  staticTypes := #[(.object "java/util/function/BiFunction"), (.object "java/util/function/BiFunction"), (.object "java/util/function/BiFunction")]
  resolved := Array.replicate 194 none
  statics := some 2 }

def pool12 : Array CpInfo := pool [(9, u "<init>"), (6, .class_ 18), (1, u "java/lang/Object"), (0, u "()V"), (1, .class_ 23), (1, u "jdk/internal/util/ArraysSupport"), (0, u "LOG2_ARRAY_LONG_INDEX_SCALE"), (0, u "I"), (2, u "U"), (0, u "Ljdk/internal/misc/Unsafe;"), (8, u "BIG_ENDIAN"), (0, u "Z"), (8, u "LOG2_BYTE_BIT_SIZE"), (4, u "LOG2_ARRAY_INT_INDEX_SCALE"), (54, u "JLA"), (0, u "Ljdk/internal/access/JavaLangAccess;"), (11, u "LOG2_ARRAY_BOOLEAN_INDEX_SCALE"), (9, u "LOG2_ARRAY_BYTE_INDEX_SCALE"), (5, u "LOG2_ARRAY_CHAR_INDEX_SCALE"), (5, u "LOG2_ARRAY_SHORT_INDEX_SCALE"), (18, u "LOG2_ARRAY_FLOAT_INDEX_SCALE"), (24, u "LOG2_ARRAY_DOUBLE_INDEX_SCALE"), (89, u "T_BOOLEAN"), (2, u "T_CHAR"), (1, u "T_FLOAT"), (1, u "T_DOUBLE"), (1, u "T_BYTE"), (1, u "T_SHORT"), (1, u "T_INT"), (1, u "T_LONG"), (1, u "SOFT_MAX_ARRAY_LENGTH")] 83

def k12m0 : Method := { name := "<init>", desc := "()V", sig := { parameters := [], returnType := none }, accessFlags := 2, code := none }
/-- jdk/internal/util/ArraysSupport -/
def k12 : Class := { plain "jdk/internal/util/ArraysSupport" (some 0) with
  accessFlags := 33
  interfaces := #[]
  cf := some (fileOf pool12 21 #[] #[{ accessFlags := 2, nameIndex := 9, descriptorIndex := 19, attributes := #[] }] 33 16 #[] #[{ accessFlags := 24, nameIndex := 28, descriptorIndex := 29, attributes := #[] }, { accessFlags := 26, nameIndex := 38, descriptorIndex := 39, attributes := #[] }, { accessFlags := 25, nameIndex := 121, descriptorIndex := 25, attributes := #[] }, { accessFlags := 25, nameIndex := 131, descriptorIndex := 25, attributes := #[] }, { accessFlags := 25, nameIndex := 137, descriptorIndex := 25, attributes := #[] }, { accessFlags := 25, nameIndex := 143, descriptorIndex := 25, attributes := #[] }, { accessFlags := 25, nameIndex := 53, descriptorIndex := 25, attributes := #[] }, { accessFlags := 25, nameIndex := 24, descriptorIndex := 25, attributes := #[] }, { accessFlags := 25, nameIndex := 162, descriptorIndex := 25, attributes := #[] }, { accessFlags := 25, nameIndex := 187, descriptorIndex := 25, attributes := #[] }, { accessFlags := 26, nameIndex := 48, descriptorIndex := 25, attributes := #[] }, { accessFlags := 25, nameIndex := 277, descriptorIndex := 25, attributes := #[] }, { accessFlags := 25, nameIndex := 280, descriptorIndex := 25, attributes := #[] }, { accessFlags := 25, nameIndex := 282, descriptorIndex := 25, attributes := #[] }, { accessFlags := 25, nameIndex := 284, descriptorIndex := 25, attributes := #[] }, { accessFlags := 25, nameIndex := 286, descriptorIndex := 25, attributes := #[] }, { accessFlags := 25, nameIndex := 288, descriptorIndex := 25, attributes := #[] }, { accessFlags := 25, nameIndex := 290, descriptorIndex := 25, attributes := #[] }, { accessFlags := 25, nameIndex := 292, descriptorIndex := 25, attributes := #[] }, { accessFlags := 26, nameIndex := 108, descriptorIndex := 109, attributes := #[] }, { accessFlags := 25, nameIndex := 294, descriptorIndex := 25, attributes := #[] }])
  fields := #[{ name := "U", type := (.object "jdk/internal/misc/Unsafe"), accessFlags := 24, slot := 0, constantValue := 0 }, { name := "BIG_ENDIAN", type := .boolean, accessFlags := 26, slot := 1, constantValue := 0 }, { name := "LOG2_ARRAY_BOOLEAN_INDEX_SCALE", type := .int, accessFlags := 25, slot := 2, constantValue := 0 }, { name := "LOG2_ARRAY_BYTE_INDEX_SCALE", type := .int, accessFlags := 25, slot := 3, constantValue := 0 }, { name := "LOG2_ARRAY_CHAR_INDEX_SCALE", type := .int, accessFlags := 25, slot := 4, constantValue := 0 }, { name := "LOG2_ARRAY_SHORT_INDEX_SCALE", type := .int, accessFlags := 25, slot := 5, constantValue := 0 }, { name := "LOG2_ARRAY_INT_INDEX_SCALE", type := .int, accessFlags := 25, slot := 6, constantValue := 0 }, { name := "LOG2_ARRAY_LONG_INDEX_SCALE", type := .int, accessFlags := 25, slot := 7, constantValue := 0 }, { name := "LOG2_ARRAY_FLOAT_INDEX_SCALE", type := .int, accessFlags := 25, slot := 8, constantValue := 0 }, { name := "LOG2_ARRAY_DOUBLE_INDEX_SCALE", type := .int, accessFlags := 25, slot := 9, constantValue := 0 }, { name := "LOG2_BYTE_BIT_SIZE", type := .int, accessFlags := 26, slot := 10, constantValue := 0 }, { name := "T_BOOLEAN", type := .int, accessFlags := 25, slot := 11, constantValue := 0 }, { name := "T_CHAR", type := .int, accessFlags := 25, slot := 12, constantValue := 0 }, { name := "T_FLOAT", type := .int, accessFlags := 25, slot := 13, constantValue := 0 }, { name := "T_DOUBLE", type := .int, accessFlags := 25, slot := 14, constantValue := 0 }, { name := "T_BYTE", type := .int, accessFlags := 25, slot := 15, constantValue := 0 }, { name := "T_SHORT", type := .int, accessFlags := 25, slot := 16, constantValue := 0 }, { name := "T_INT", type := .int, accessFlags := 25, slot := 17, constantValue := 0 }, { name := "T_LONG", type := .int, accessFlags := 25, slot := 18, constantValue := 0 }, { name := "JLA", type := (.object "jdk/internal/access/JavaLangAccess"), accessFlags := 26, slot := 19, constantValue := 0 }, { name := "SOFT_MAX_ARRAY_LENGTH", type := .int, accessFlags := 25, slot := 20, constantValue := 0 }]
  methods := #[k12m0]
  instanceTypes := #[]
  staticTypes := #[(.object "jdk/internal/misc/Unsafe"), .boolean, .int, .int, .int, .int, .int, .int, .int, .int, .int, .int, .int, .int, .int, .int, .int, .int, .int, (.object "jdk/internal/access/JavaLangAccess"), .int]
  resolved := Array.replicate 378 none
  statics := none }

def pool13 : Array CpInfo := pool [(2, .class_ 4), (1, u "java/lang/Object"), (3, .class_ 10), (1, u "jakarta/faces/application/FacesMessage$Severity"), (0, u "name"), (0, u "Ljava/lang/String;"), (2, u "ordinal"), (0, u "I"), (10, .class_ 28), (0, u "java/lang/Comparable"), (14, .class_ 44), (0, u "jakarta/faces/application/FacesMessage")] 2

/-- jakarta/faces/application/FacesMessage$Severity -/
def k13 : Class := { plain "jakarta/faces/application/FacesMessage$Severity" (some 0) with
  accessFlags := 33
  interfaces := #[4]
  cf := some (fileOf pool13 8 #[.nestHost 43] #[] 33 2 #[27] #[{ accessFlags := 18, nameIndex := 11, descriptorIndex := 12, attributes := #[] }, { accessFlags := 18, nameIndex := 15, descriptorIndex := 16, attributes := #[] }])
  fields := #[{ name := "name", type := (.object "java/lang/String"), accessFlags := 18, slot := 0, constantValue := 0 }, { name := "ordinal", type := .int, accessFlags := 18, slot := 1, constantValue := 0 }]
  methods := #[]
  instanceTypes := #[(.object "java/lang/String"), .int]
  staticTypes := #[]
  resolved := Array.replicate 47 none
  statics := none }

def pool14 : Array CpInfo := pool [(1, u "java/lang/Cloneable"), (0, .class_ 1), (0, u "java/lang/Object"), (0, .class_ 3)] 3

/-- java/lang/Cloneable -/
def k14 : Class := { plain "java/lang/Cloneable" (some 0) with
  accessFlags := 1537
  interfaces := #[]
  cf := some (fileOf pool14 2 #[] #[] 1537 4 #[] #[])
  fields := #[]
  methods := #[]
  instanceTypes := #[]
  staticTypes := #[]
  resolved := Array.replicate 8 none
  statics := none }

/-- the primitive byte -/
def k15 : Class := { plain "byte" none with kind := .primitive 'B', accessFlags := 0x411 }
/-- [B -/
def k16 : Class := { plain "[B" (some 0) with kind := .array 15 .byte, interfaces := #[14, 2], accessFlags := 1041 }

/-- the primitive char -/
def k17 : Class := { plain "char" none with kind := .primitive 'C', accessFlags := 0x411 }
/-- [C -/
def k18 : Class := { plain "[C" (some 0) with kind := .array 17 .char, interfaces := #[14, 2], accessFlags := 1041 }

/-- the primitive int -/
def k19 : Class := { plain "int" none with kind := .primitive 'I', accessFlags := 0x411 }
/-- [I -/
def k20 : Class := { plain "[I" (some 0) with kind := .array 19 .int, interfaces := #[14, 2], accessFlags := 1041 }

def heap : Heap := #[{ cls := 3, slots := #[.null, .ref 3, .null, .null, .null, .null, .null, .long 0], vm := .statics 3 },
  { cls := 8, slots := #[.long 0, .int 1, .null, .int 0, .null, .int 0, .int 0], vm := .statics 8 },
  { cls := 11, slots := #[.null, .null, .null], vm := .statics 11 },
  { cls := 13, slots := #[.null, .int 0], vm := .none }]
def classes : Array Class := #[k0, k1, k2, k3, k4, k5, k6, k7, k8, k9, k10, k11, k12, k13, k14, k15, k16, k17, k18, k19, k20]
def interned : List (Array UInt16 × Addr) := []
def slotsUsed : Nat := 20
def theMethod : MethodId := ⟨1, 2⟩
def args0 : Array Value := #[.int 1, .int 2, .int 3, .int 4, .int 5]
def aboutOver (below : List Frame) : State where
  vm := { classes := classes, interned := interned.toArray }
  heap := heap
  slotsUsed := slotsUsed
  threads := #[{ frames := .invoking theMethod args0 :: below }]
def below0 : List Frame := [.native { method := ⟨0, 0⟩, args := #[] }]
def about1 : State := aboutOver below0
def p0 : Program := .bare "" "" ""
def e0 : Env := launch0.env 0 0 0
theorem w_frames : about1.frames = Frame.invoking theMethod args0 :: below0 := rfl
set_option maxRecDepth 65536 in
theorem w_args : argsFit about1.vm theMethod args0 = true := by decide +kernel
set_option maxRecDepth 65536 in
theorem w_heap : heapFits about1 = true := by decide +kernel
set_option maxRecDepth 65536 in
theorem w_runnable : about1.curStatus? = some .runnable := by decide +kernel
set_option maxRecDepth 65536 in
theorem w_alone : about1.alone = true := by decide +kernel
set_option maxRecDepth 65536 in
theorem w_named : about1.methodNamed? x = some theMethod := by decide +kernel
set_option maxRecDepth 65536 in
theorem w_hears : about1.hears theMethod below0 = true := by decide +kernel
set_option maxRecDepth 65536 in
theorem w_ripe : about1.ripe theMethod args0 below0 = true := by decide +kernel
theorem w_running : about1.status = .running := rfl
set_option maxRecDepth 65536 in
theorem w_room : about1.hasRoom e0.platform room_1 = true :=
  launch0.hasRoom_least _ room_1 (by decide +kernel) (by decide +kernel) (by decide +kernel) (by decide +kernel) (by decide +kernel) (by decide +kernel)
theorem allAtoms_all (ts : List Jvm.Cond) (a : Array Jvm.Value) (st : Jvm.State) : (allAtoms ts).before a st = ts.all (fun c => c.before a st) := by
  induction ts with
  | nil => rfl
  | cons c t ih =>
    show (Jvm.Cond.and c (allAtoms t)).before a st = _
    rw [Jvm.Cond.before_and, ih, List.all_cons]
def words1 : List Jvm.Cond := Jvm.Cond.code x code maxLocals ret :: tables_1
/-- a 'code' word, met by the world's own term for the bytes: nothing is compared byte by byte -/
theorem code_word {y : MethodName} {bytes : ByteArray} {mx : Nat} {rt : Option FieldType} {a : Array Value} {s : State} {m : MethodId} {meth : Method} {c : Code} (h1 : s.methodNamed? y = some m) (h2 : s.vm.method? m = some meth) (h3 : meth.code = some c) (h4 : c.code = bytes)
    (h5 : (c.maxLocals == mx && c.exceptionTable.isEmpty && decide (c.maxStack ≤ mostOperands) && decide (meth.sig.returnType = rt) && !meth.locks && decide (parseMethodDescriptor y.desc = some meth.sig)) = true) : (Jvm.Cond.code y bytes mx rt).before a s = true := by
  simp only [Bool.and_eq_true, beq_iff_eq, Bool.not_eq_true', decide_eq_true_eq] at h5
  obtain ⟨⟨⟨⟨⟨g1, g2⟩, g3⟩, g4⟩, g5⟩, g6⟩ := h5
  simp [Cond.before, Cond.holds, Cond.value, h1, h2, h3, h4, g1, g2, g3, g4, g5, g6]
def isCode : Jvm.Cond → Bool
  | .code _ _ _ _ => true
  | _ => false
theorem all_split {L : List Jvm.Cond} {P : Jvm.Cond → Bool} (h1 : L.all (fun c => isCode c || P c) = true) (h2 : ∀ c ∈ L.filter isCode, P c = true) : L.all P = true := by
  refine List.all_eq_true.mpr fun c hc => ?_
  have h := List.all_eq_true.mp h1 c hc
  rcases Bool.eq_false_or_eq_true (isCode c) with hi | hi
  · exact h2 c (List.mem_filter.mpr ⟨hc, hi⟩)
  · simpa [hi] using h
set_option maxRecDepth 65536 in
theorem w_c0 : (Jvm.Cond.code x code maxLocals ret).before args0 about1 = true := code_word (m := ⟨1, 2⟩) (meth := k1m2) (c := k1c2) (by decide +kernel) rfl rfl rfl (by decide +kernel)
set_option maxRecDepth 65536 in
theorem w_c1 : (Jvm.Cond.code ({ cls := "jakarta/faces/application/FacesMessageGetDetailPinLaw", name := "mk", desc := "(IIII)Ljava/lang/String;" } : Jvm.MethodName) method_2_code (6 : Nat) (Option.some (Jvm.ClassFile.FieldType.object "java/lang/String"))).before args0 about1 = true := code_word (m := ⟨1, 1⟩) (meth := k1m1) (c := k1c1) (by decide +kernel) rfl rfl rfl (by decide +kernel)
set_option maxRecDepth 65536 in
theorem w_c2 : (Jvm.Cond.code ({ cls := "jakarta/faces/application/FacesMessage", name := "<init>", desc := "()V" } : Jvm.MethodName) prog_23_method_1_code (1 : Nat) (Option.none : Option Jvm.ClassFile.FieldType)).before args0 about1 = true := code_word (m := ⟨3, 0⟩) (meth := k3m0) (c := k3c0) (by decide +kernel) rfl rfl rfl (by decide +kernel)
set_option maxRecDepth 65536 in
theorem w_c3 : (Jvm.Cond.code ({ cls := "jakarta/faces/application/FacesMessage", name := "<init>", desc := "(Ljakarta/faces/application/FacesMessage$Severity;Ljava/lang/String;Ljava/lang/String;)V" } : Jvm.MethodName) prog_23_method_4_code (4 : Nat) (Option.none : Option Jvm.ClassFile.FieldType)).before args0 about1 = true := code_word (m := ⟨3, 1⟩) (meth := k3m1) (c := k3c1) (by decide +kernel) rfl rfl rfl (by decide +kernel)
set_option maxRecDepth 65536 in
theorem w_c4 : (Jvm.Cond.code ({ cls := "java/lang/Object", name := "<init>", desc := "()V" } : Jvm.MethodName) object_method_1_code (1 : Nat) (Option.none : Option Jvm.ClassFile.FieldType)).before args0 about1 = true := code_word (m := ⟨0, 0⟩) (meth := k0m0) (c := k0c0) (by decide +kernel) rfl rfl rfl (by decide +kernel)
set_option maxRecDepth 65536 in
theorem w_c5 : (Jvm.Cond.code ({ cls := "jakarta/faces/application/FacesMessage", name := "requireSeverity", desc := "(Ljakarta/faces/application/FacesMessage$Severity;)Ljakarta/faces/application/FacesMessage$Severity;" } : Jvm.MethodName) prog_23_method_13_code (1 : Nat) (Option.some (Jvm.ClassFile.FieldType.object "jakarta/faces/application/FacesMessage$Severity"))).before args0 about1 = true := code_word (m := ⟨3, 6⟩) (meth := k3m6) (c := k3c6) (by decide +kernel) rfl rfl rfl (by decide +kernel)
set_option maxRecDepth 65536 in
theorem w_c6 : (Jvm.Cond.code ({ cls := "jakarta/faces/application/FacesMessage", name := "setSummary", desc := "(Ljava/lang/String;)V" } : Jvm.MethodName) prog_23_method_8_code (2 : Nat) (Option.none : Option Jvm.ClassFile.FieldType)).before args0 about1 = true := code_word (m := ⟨3, 3⟩) (meth := k3m3) (c := k3c3) (by decide +kernel) rfl rfl rfl (by decide +kernel)
set_option maxRecDepth 65536 in
theorem w_c7 : (Jvm.Cond.code ({ cls := "jakarta/faces/application/FacesMessage", name := "setDetail", desc := "(Ljava/lang/String;)V" } : Jvm.MethodName) prog_23_method_10_code (2 : Nat) (Option.none : Option Jvm.ClassFile.FieldType)).before args0 about1 = true := code_word (m := ⟨3, 5⟩) (meth := k3m5) (c := k3c5) (by decide +kernel) rfl rfl rfl (by decide +kernel)
set_option maxRecDepth 65536 in
theorem w_c8 : (Jvm.Cond.code ({ cls := "jakarta/faces/application/FacesMessage", name := "getDetail", desc := "()Ljava/lang/String;" } : Jvm.MethodName) prog_23_method_9_code (2 : Nat) (Option.some (Jvm.ClassFile.FieldType.object "java/lang/String"))).before args0 about1 = true := code_word (m := ⟨3, 4⟩) (meth := k3m4) (c := k3c4) (by decide +kernel) rfl rfl rfl (by decide +kernel)
set_option maxRecDepth 65536 in
theorem w_c9 : (Jvm.Cond.code ({ cls := "jakarta/faces/application/FacesMessage", name := "getSummary", desc := "()Ljava/lang/String;" } : Jvm.MethodName) prog_23_method_7_code (1 : Nat) (Option.some (Jvm.ClassFile.FieldType.object "java/lang/String"))).before args0 about1 = true := code_word (m := ⟨3, 2⟩) (meth := k3m2) (c := k3c2) (by decide +kernel) rfl rfl rfl (by decide +kernel)
set_option maxRecDepth 65536 in
theorem w_c10 : (Jvm.Cond.code ({ cls := "java/lang/String", name := "<init>", desc := "([C)V" } : Jvm.MethodName) jdk_42_method_3_code (2 : Nat) (Option.none : Option Jvm.ClassFile.FieldType)).before args0 about1 = true := code_word (m := ⟨8, 1⟩) (meth := k8m1) (c := k8c1) (by decide +kernel) rfl rfl rfl (by decide +kernel)
set_option maxRecDepth 65536 in
theorem w_c11 : (Jvm.Cond.code ({ cls := "java/lang/String", name := "<init>", desc := "([CIILjava/lang/Void;)V" } : Jvm.MethodName) jdk_42_method_149_code (6 : Nat) (Option.none : Option Jvm.ClassFile.FieldType)).before args0 about1 = true := code_word (m := ⟨8, 3⟩) (meth := k8m3) (c := k8c3) (by decide +kernel) rfl rfl rfl (by decide +kernel)
set_option maxRecDepth 65536 in
theorem w_c12 : (Jvm.Cond.code ({ cls := "java/lang/StringUTF16", name := "compress", desc := "([CII)[B" } : Jvm.MethodName) jdk_52_method_16_code (6 : Nat) (Option.some (Jvm.ClassFile.FieldType.array Jvm.ClassFile.FieldType.byte))).before args0 about1 = true := code_word (m := ⟨9, 2⟩) (meth := k9m2) (c := k9c2) (by decide +kernel) rfl rfl rfl (by decide +kernel)
set_option maxRecDepth 65536 in
theorem w_c13 : (Jvm.Cond.code ({ cls := "java/lang/StringUTF16", name := "compress", desc := "([CI[BII)I" } : Jvm.MethodName) jdk_52_method_21_code (7 : Nat) (Option.some Jvm.ClassFile.FieldType.int)).before args0 about1 = true := code_word (m := ⟨9, 3⟩) (meth := k9m3) (c := k9c3) (by decide +kernel) rfl rfl rfl (by decide +kernel)
set_option maxRecDepth 65536 in
theorem w_c14 : (Jvm.Cond.code ({ cls := "java/lang/StringUTF16", name := "coderFromArrayLen", desc := "([BI)B" } : Jvm.MethodName) jdk_52_method_15_code (2 : Nat) (Option.some Jvm.ClassFile.FieldType.byte)).before args0 about1 = true := code_word (m := ⟨9, 1⟩) (meth := k9m1) (c := k9c1) (by decide +kernel) rfl rfl rfl (by decide +kernel)
set_option maxRecDepth 65536 in
theorem w_c15 : (Jvm.Cond.code ({ cls := "java/lang/String", name := "equals", desc := "(Ljava/lang/Object;)Z" } : Jvm.MethodName) jdk_42_method_66_code (3 : Nat) (Option.some Jvm.ClassFile.FieldType.boolean)).before args0 about1 = true := code_word (m := ⟨8, 2⟩) (meth := k8m2) (c := k8c2) (by decide +kernel) rfl rfl rfl (by decide +kernel)
def codes1 : List Jvm.Cond := [Jvm.Cond.code x code maxLocals ret, Jvm.Cond.code ({ cls := "jakarta/faces/application/FacesMessageGetDetailPinLaw", name := "mk", desc := "(IIII)Ljava/lang/String;" } : Jvm.MethodName) method_2_code (6 : Nat) (Option.some (Jvm.ClassFile.FieldType.object "java/lang/String")), Jvm.Cond.code ({ cls := "jakarta/faces/application/FacesMessage", name := "<init>", desc := "()V" } : Jvm.MethodName) prog_23_method_1_code (1 : Nat) (Option.none : Option Jvm.ClassFile.FieldType), Jvm.Cond.code ({ cls := "jakarta/faces/application/FacesMessage", name := "<init>", desc := "(Ljakarta/faces/application/FacesMessage$Severity;Ljava/lang/String;Ljava/lang/String;)V" } : Jvm.MethodName) prog_23_method_4_code (4 : Nat) (Option.none : Option Jvm.ClassFile.FieldType), Jvm.Cond.code ({ cls := "java/lang/Object", name := "<init>", desc := "()V" } : Jvm.MethodName) object_method_1_code (1 : Nat) (Option.none : Option Jvm.ClassFile.FieldType), Jvm.Cond.code ({ cls := "jakarta/faces/application/FacesMessage", name := "requireSeverity", desc := "(Ljakarta/faces/application/FacesMessage$Severity;)Ljakarta/faces/application/FacesMessage$Severity;" } : Jvm.MethodName) prog_23_method_13_code (1 : Nat) (Option.some (Jvm.ClassFile.FieldType.object "jakarta/faces/application/FacesMessage$Severity")), Jvm.Cond.code ({ cls := "jakarta/faces/application/FacesMessage", name := "setSummary", desc := "(Ljava/lang/String;)V" } : Jvm.MethodName) prog_23_method_8_code (2 : Nat) (Option.none : Option Jvm.ClassFile.FieldType), Jvm.Cond.code ({ cls := "jakarta/faces/application/FacesMessage", name := "setDetail", desc := "(Ljava/lang/String;)V" } : Jvm.MethodName) prog_23_method_10_code (2 : Nat) (Option.none : Option Jvm.ClassFile.FieldType), Jvm.Cond.code ({ cls := "jakarta/faces/application/FacesMessage", name := "getDetail", desc := "()Ljava/lang/String;" } : Jvm.MethodName) prog_23_method_9_code (2 : Nat) (Option.some (Jvm.ClassFile.FieldType.object "java/lang/String")), Jvm.Cond.code ({ cls := "jakarta/faces/application/FacesMessage", name := "getSummary", desc := "()Ljava/lang/String;" } : Jvm.MethodName) prog_23_method_7_code (1 : Nat) (Option.some (Jvm.ClassFile.FieldType.object "java/lang/String")), Jvm.Cond.code ({ cls := "java/lang/String", name := "<init>", desc := "([C)V" } : Jvm.MethodName) jdk_42_method_3_code (2 : Nat) (Option.none : Option Jvm.ClassFile.FieldType), Jvm.Cond.code ({ cls := "java/lang/String", name := "<init>", desc := "([CIILjava/lang/Void;)V" } : Jvm.MethodName) jdk_42_method_149_code (6 : Nat) (Option.none : Option Jvm.ClassFile.FieldType), Jvm.Cond.code ({ cls := "java/lang/StringUTF16", name := "compress", desc := "([CII)[B" } : Jvm.MethodName) jdk_52_method_16_code (6 : Nat) (Option.some (Jvm.ClassFile.FieldType.array Jvm.ClassFile.FieldType.byte)), Jvm.Cond.code ({ cls := "java/lang/StringUTF16", name := "compress", desc := "([CI[BII)I" } : Jvm.MethodName) jdk_52_method_21_code (7 : Nat) (Option.some Jvm.ClassFile.FieldType.int), Jvm.Cond.code ({ cls := "java/lang/StringUTF16", name := "coderFromArrayLen", desc := "([BI)B" } : Jvm.MethodName) jdk_52_method_15_code (2 : Nat) (Option.some Jvm.ClassFile.FieldType.byte), Jvm.Cond.code ({ cls := "java/lang/String", name := "equals", desc := "(Ljava/lang/Object;)Z" } : Jvm.MethodName) jdk_42_method_66_code (3 : Nat) (Option.some Jvm.ClassFile.FieldType.boolean)]
set_option maxRecDepth 65536 in
theorem codes_eq : words1.filter isCode = codes1 := rfl
theorem w_codes : ∀ c ∈ words1.filter isCode, c.before args0 about1 = true := by
  rw [codes_eq]
  intro c hc
  simp only [codes1, List.mem_cons, List.not_mem_nil, or_false] at hc
  rcases hc with rfl | rfl | rfl | rfl | rfl | rfl | rfl | rfl | rfl | rfl | rfl | rfl | rfl | rfl | rfl | rfl
  · exact w_c0
  · exact w_c1
  · exact w_c2
  · exact w_c3
  · exact w_c4
  · exact w_c5
  · exact w_c6
  · exact w_c7
  · exact w_c8
  · exact w_c9
  · exact w_c10
  · exact w_c11
  · exact w_c12
  · exact w_c13
  · exact w_c14
  · exact w_c15
set_option maxRecDepth 65536 in
theorem w_t1 : (words1.take 24).all (fun c => isCode c || c.before args0 about1) = true := by decide +kernel
set_option maxRecDepth 65536 in
theorem w_t2 : ((words1.drop 24).take 24).all (fun c => isCode c || c.before args0 about1) = true := by decide +kernel
set_option maxRecDepth 65536 in
theorem w_t3 : (((words1.drop 24).drop 24).take 24).all (fun c => isCode c || c.before args0 about1) = true := by decide +kernel
set_option maxRecDepth 65536 in
theorem w_t4 : (((words1.drop 24).drop 24).drop 24).all (fun c => isCode c || c.before args0 about1) = true := by decide +kernel
theorem w_tables : (allAtoms (Jvm.Cond.code x code maxLocals ret :: tables_1)).before args0 about1 = true := by
  rw [allAtoms_all]
  show words1.all (fun c => c.before args0 about1) = true
  refine all_split ?_ w_codes
  rw [← List.take_append_drop 24 words1, List.all_append, w_t1, ← List.take_append_drop 24 (words1.drop 24), List.all_append, w_t2, ← List.take_append_drop 24 ((words1.drop 24).drop 24), List.all_append, w_t3, w_t4]
  rfl
set_option maxRecDepth 65536 in
theorem w_rest : rest_1_c.before args0 about1 = true := by decide +kernel
set_option maxRecDepth 65536 in
theorem w_case : (Jvm.Cond.and given_1 narrow_1).before args0 about1 = true := by decide +kernel
set_option maxRecDepth 65536 in
theorem w_consts : constsHeld consts_1 about1 := Jvm.Lit.constsHeldB_iff.mp (by decide +kernel)
theorem w_applies : (headSpec (Jvm.Cond.code x code maxLocals ret :: tables_1) room_1).applies x e0.platform about1 = true :=
  (Spec.applies_iff w_frames).mpr ⟨w_running, w_runnable, w_alone, w_named, w_hears, w_ripe, w_room, w_tables⟩
theorem atStart : AtStart classFile x code maxLocals ret World_1 tables_1 room_1 Calls_1 rest_1 Pre_1 launch0 p0 e0 about1 theMethod args0 below0 :=
  ⟨lists_1, trivial, launch0.admits_env _ _ _, launch0.least_env, fairChoices_fair.cas, fairChoices_fair.clock, w_frames, w_args, w_heap, w_applies, ⟨w_consts, trivial⟩, w_rest, w_case⟩
end start1
theorem witness_1 : WitnessClaimed_1 := ⟨start1.p0, start1.e0, start1.about1, start1.theMethod, start1.args0, start1.below0, start1.atStart⟩
end Jvm.Pilot.@@N@@
