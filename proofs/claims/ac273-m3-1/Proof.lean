import JvmDerived
import JvmDerived.Pilot.@@N@@Statement
import JvmDerived.Pilot.@@N@@Code
set_option linter.unusedVariables false
set_option linter.unusedSimpArgs false
namespace Jvm.Pilot.@@N@@
open Jvm Jvm.ClassFile Sem Op Lib Jvm.Free Jvm.Stand Jvm.LawKit Jvm.RoadKit Bundle Jvm.Pilot.@@N@@.Jvm.D
/-- Java's >>> on longs and on ints -/
def own_sr (x : Int64) (k : Int32) : Int64 := ((x.toUInt64 >>> (k &&& 0x3f).toInt64.toUInt64).toInt64)
def own_sri (x : Int32) (k : Int32) : Int32 := ((x.toUInt32 >>> (k &&& 31).toUInt32).toInt32)
section Own
variable {p : Program} {l : Launch} {e : Env} {R : Room} {s : State} {m : MethodId} {args : Array Value} {below : List Frame} {meth : Method} {c : Code} {T : State} {locs : List Loc} {cells slots : Nat} {Z : State} {a0 : Array Value} {h : Heap} {Q : Option Value → Heap → List Loc → Prop} {kc kn : Nat}
/-- from the state A the body comes to an end that answers Q -/
def own_Go (tb : Tables) (e : Env) (below : List Frame) (s : State) (Q : Option Value → Heap → List Loc → Prop) (kc kn : Nat) (A : State) : Prop :=
  ∃ s₂ o, Steps tb e below A s₂ ∧ s₂.status = .running ∧ Ended s₂ below o ∧ ∃ v L, o = .returned v ∧ Q v s₂.heap L ∧ FrameEnd s o s₂ L kc kn
theorem own_by {tb : Tables} {A B : State} (g : ∀ t, Steps tb e below B t → Steps tb e below A t) (k : own_Go tb e below s Q kc kn B) : own_Go tb e below s Q kc kn A := by
  obtain ⟨s₂, o, h1, r⟩ := k
  exact ⟨s₂, o, g s₂ h1, r⟩
theorem own_end (X : Stand p l e R s m args below meth c T locs cells slots) {v : Option Value} (hv : meth.sig.returnType = none → v = none) (hlocks : meth.locks = false) {A : State}
    (hA : ∀ fs : List Frame, (∀ (f : JFrame) (acts : List Action), f.method = m → f.locked = none → f.entered = [] → (doReturn e (T.setTop f) acts v).1 = T.setFrames fs) → Steps p.tables e below A (T.setFrames fs)) (hk : cells ≤ kc) (hn : slots ≤ kn) (hQ : Q v T.heap locs) : own_Go p.tables e below s Q kc kn A := by
  obtain ⟨fs, hr, hrun, hended, hW, hsame⟩ := X.leave hv hlocks
  exact ⟨_, _, hA fs hr, hrun, hended, _, _, rfl, hQ, ⟨_, rfl⟩, hW, hsame.mono hk hn⟩
theorem own_retZ (X : Stand p l e R s m args below meth c T locs cells slots) (hx : p.tables.exec = Jvm.exec) (hlocks : meth.locks = false) (hret : meth.sig.returnType = some .boolean) {pc : Nat} {Ls : Array Slot} {z : Int32} {rest : List Value} (hd : decode c.code pc = .ok (.ireturn, 1)) (hk : cells ≤ kc) (hn : slots ≤ kn) (hQ : Q (some (.int (z &&& 1))) T.heap locs) : own_Go p.tables e below s Q kc kn (T.setTop (mkF m pc Ls (.int z :: rest))) :=
  own_end X (v := some (.int (z &&& 1))) (fun q => by rw [hret] at q; cases q) hlocks (fun fs hr => retN X hx (t := .boolean) hret (by simp) hd hr) hk hn hQ
theorem own_retI (X : Stand p l e R s m args below meth c T locs cells slots) (hx : p.tables.exec = Jvm.exec) (hlocks : meth.locks = false) (hret : meth.sig.returnType = some .int) {pc : Nat} {Ls : Array Slot} {z : Int32} {rest : List Value} (hd : decode c.code pc = .ok (.ireturn, 1)) (hk : cells ≤ kc) (hn : slots ≤ kn) (hQ : Q (some (.int z)) T.heap locs) : own_Go p.tables e below s Q kc kn (T.setTop (mkF m pc Ls (.int z :: rest))) :=
  own_end X (v := some (.int z)) (fun q => by rw [hret] at q; cases q) hlocks (fun fs hr => retOut X hx hret rfl (Or.inl ⟨rfl, Or.inl rfl, z, rfl⟩) hd hr) hk hn hQ
theorem own_retJ (X : Stand p l e R s m args below meth c T locs cells slots) (hx : p.tables.exec = Jvm.exec) (hlocks : meth.locks = false) (hret : meth.sig.returnType = some .long) {pc : Nat} {Ls : Array Slot} {z : Int64} {rest : List Value} (hd : decode c.code pc = .ok (.lreturn, 1)) (hk : cells ≤ kc) (hn : slots ≤ kn) (hQ : Q (some (.long z)) T.heap locs) : own_Go p.tables e below s Q kc kn (T.setTop (mkF m pc Ls (.long z :: rest))) :=
  own_end X (v := some (.long z)) (fun q => by rw [hret] at q; cases q) hlocks (fun fs hr => retOut X hx hret rfl (Or.inr (Or.inl ⟨rfl, rfl, z, rfl⟩)) hd hr) hk hn hQ
theorem own_retA (X : Stand p l e R s m args below meth c T locs cells slots) (hx : p.tables.exec = Jvm.exec) (hlocks : meth.locks = false) {t : FieldType} (hret : meth.sig.returnType = some t) (ht : t.isReference = true) {pc : Nat} {Ls : Array Slot} {a : Addr} {rest : List Value} (hd : decode c.code pc = .ok (.areturn, 1)) (hk : cells ≤ kc) (hn : slots ≤ kn) (hQ : Q (some (.ref a)) T.heap locs) : own_Go p.tables e below s Q kc kn (T.setTop (mkF m pc Ls (.ref a :: rest))) :=
  own_end X (v := some (.ref a)) (fun q => by rw [hret] at q; cases q) hlocks (fun fs hr => retOut X hx hret (by cases t <;> first | rfl | cases ht) (Or.inr (Or.inr (Or.inr (Or.inr ⟨rfl, ht, rfl⟩)))) hd hr) hk hn hQ
theorem own_retV (X : Stand p l e R s m args below meth c T locs cells slots) (hx : p.tables.exec = Jvm.exec) (hlocks : meth.locks = false) (hret : meth.sig.returnType = none) {pc : Nat} {Ls : Array Slot} (hd : decode c.code pc = .ok (.return_, 1)) (hk : cells ≤ kc) (hn : slots ≤ kn) (hQ : Q none T.heap locs) : own_Go p.tables e below s Q kc kn (T.setTop (mkF m pc Ls [])) :=
  own_end X (v := none) (fun _ => rfl) hlocks (fun fs hr => X.returnOut hx hret hd hr) hk hn hQ
/-- what a body of this text answers: from these arguments, at this heap -/
abbrev own_Met (l : Launch) (Z : State) (y : MethodName) (bytes : ByteArray) (maxL : Nat) (ret : Option FieldType) (ws : List Jvm.Cond) (rm : Room) (as' : Array Value) (h0 : Heap) (Q : Option Value → Heap → List Loc → Prop) : Prop :=
  MetFree l y (head1 (Jvm.Cond.code y bytes maxL ret :: ws) rm) (fun a U => a = as' ∧ Z.Warmed39 U.vm ∧ U.heap = h0) (fun _ _ _ _ _ => True) (fun _ U o U' => ∃ v L, o = .returned v ∧ Q v U'.heap L ∧ FrameEnd U o U' L rm.cells rm.slots)
theorem own_callS (X : Stand p l e R s m args below meth c T locs cells slots) (hx : p.tables.exec = Jvm.exec) (hZ : Z.Warmed39 s.vm) {own : String} {index : Nat} {y : MethodName} {bytes : ByteArray} {maxL : Nat} {ret : Option FieldType} {rm : Room} {as' : Array Value}
    (hown : s.vm.findClass own = some m.cls) (w1 : (Jvm.Cond.methodLink own index y).before a0 Z = true) (w2 : (Jvm.Cond.static y).before a0 Z = true) (w3 : (Jvm.Cond.initialized y.cls).before a0 Z = true) (w4 : (Jvm.Cond.code y bytes maxL ret).before a0 Z = true)
    (hy : y.cls ≠ "java/lang/invoke/MethodHandle" ∧ y.cls ≠ "java/lang/invoke/VarHandle") (hM : own_Met l Z y bytes maxL ret [] rm as' h Q) {W : Nat} (hf : rm.frames + 1 ≤ R.frames) (hl : W + (maxL + 11) + rm.locals ≤ R.locals) (eT : T.heap = h)
    {g : JFrame} (hg : g.method = m) (hsize : g.locals.size = c.maxLocals) {argsL rest : List Value} (hlen : ∀ sig, parseMethodDescriptor y.desc = some sig → argsL.length = sig.parameters.length) (hstack : g.stack = argsL.reverse ++ rest) (has : argsL.toArray = as')
    (hW : 2 * g.monitorRoom + (rest.map fun v => v.category).sum ≤ W) (hdg : decode c.code g.pc = .ok (.invokestatic index, 3)) (hc : cells + rm.cells ≤ R.cells) (hn : slots + rm.slots ≤ R.slots) :
    ∃ (v : Option Value) (T' : State) (L : List Loc), Stand p l e R s m args below meth c T' (locs ++ L) (cells + rm.cells) (slots + rm.slots) ∧ Q v T'.heap L ∧ ∀ t, Steps p.tables e below (T'.setTop { g with pc := g.pc + 3, stack := v.toList ++ rest }) t → Steps p.tables e below (T.setTop g) t := by
  subst eT
  obtain ⟨v, vm₁, ⟨T', L', k', n'⟩, -, X', ⟨Lc, hQ, l1, y1, z1⟩, st⟩ := Jvm.LawKit.callS X hx (y := y) hown (mvT hZ w1) (mvT hZ w2) (mvT hZ w3) (mvT hZ w4) hy (backOf (W := W) hM hZ w4 w3 hf hl) hg hsize (argsL := argsL) (rest := rest) hlen hstack hW hdg (fun _ _ => ⟨has, rfl, hc, hn⟩)
  dsimp only [Pt.U, Pt.locs, Pt.cells, Pt.slots] at X' l1 y1 z1 st hQ
  subst l1 y1 z1
  exact ⟨v, T', Lc, X', hQ, st⟩
theorem own_callI (X : Stand p l e R s m args below meth c T locs cells slots) (hx : p.tables.exec = Jvm.exec) (hZ : Z.Warmed39 s.vm) {own : String} {index : Nat} {y : MethodName} {bytes : ByteArray} {maxL : Nat} {rm : Room} {as' : Array Value} (hy1 : y.name = "<init>")
    (hown : s.vm.findClass own = some m.cls) (w1 : (Jvm.Cond.methodLink own index y).before a0 Z = true) (w2 : (Jvm.Cond.instanceMethod y).before a0 Z = true) (w3 : (Jvm.Cond.initialized y.cls).before a0 Z = true) (w4 : (Jvm.Cond.code y bytes maxL none).before a0 Z = true)
    (hy : y.cls ≠ "java/lang/invoke/MethodHandle" ∧ y.cls ≠ "java/lang/invoke/VarHandle") (hM : own_Met l Z y bytes maxL none [] rm as' h Q) {W : Nat} (hf : rm.frames + 1 ≤ R.frames) (hl : W + (maxL + 11) + rm.locals ≤ R.locals) (eT : T.heap = h)
    {g : JFrame} (hg : g.method = m) (hsize : g.locals.size = c.maxLocals) {a : Addr} {argsL rest : List Value} (hlen : ∀ sig, parseMethodDescriptor y.desc = some sig → argsL.length = sig.parameters.length) (hstack : g.stack = argsL.reverse ++ .ref a :: rest) (has : (Value.ref a :: argsL).toArray = as')
    (hW : 2 * g.monitorRoom + (rest.map fun v => v.category).sum ≤ W) (hdg : decode c.code g.pc = .ok (.invokespecial index, 3)) (hc : cells + rm.cells ≤ R.cells) (hn : slots + rm.slots ≤ R.slots) :
    ∃ (v : Option Value) (T' : State) (L : List Loc), Stand p l e R s m args below meth c T' (locs ++ L) (cells + rm.cells) (slots + rm.slots) ∧ Q v T'.heap L ∧ ∀ t, Steps p.tables e below (T'.setTop { g with pc := g.pc + 3, stack := v.toList ++ rest }) t → Steps p.tables e below (T.setTop g) t := by
  subst eT
  obtain ⟨v, vm₁, ⟨T', L', k', n'⟩, -, X', ⟨Lc, hQ, l1, y1, z1⟩, st⟩ := X.specialBack hx (y := y) hy1 hown (mvT hZ w1) (mvT hZ w2) (mvT hZ w4) hy (backOf (W := W) hM hZ w4 w3 hf hl) hg hsize (Steps.refl _) (a := a) (argsL := argsL) (rest := rest) hlen hstack hW hdg (fun _ _ => ⟨has, rfl, hc, hn⟩)
  dsimp only [Pt.U, Pt.locs, Pt.cells, Pt.slots] at X' l1 y1 z1 st hQ
  subst l1 y1 z1
  exact ⟨v, T', Lc, X', hQ, fun t k => st.trans k⟩
theorem own_callV (X : Stand p l e R s m args below meth c T locs cells slots) (hx : p.tables.exec = Jvm.exec) (hZ : Z.Warmed39 s.vm) {own : String} {index : Nat} {y : MethodName} {bytes : ByteArray} {maxL : Nat} {ret : Option FieldType} {rm : Room} {as' : Array Value}
    (hown : s.vm.findClass own = some m.cls) (w1 : (Jvm.Cond.methodLink own index y).before a0 Z = true) (w5 : (Jvm.Cond.declares y).before a0 Z = true) (w6 : (Jvm.Cond.selects y.cls y y).before a0 Z = true) (w2 : (Jvm.Cond.instanceMethod y).before a0 Z = true) (w3 : (Jvm.Cond.initialized y.cls).before a0 Z = true) (w4 : (Jvm.Cond.code y bytes maxL ret).before a0 Z = true)
    (hy : y.cls ≠ "java/lang/invoke/MethodHandle" ∧ y.cls ≠ "java/lang/invoke/VarHandle") (hM : own_Met l Z y bytes maxL ret [] rm as' h Q) {W : Nat} (hf : rm.frames + 1 ≤ R.frames) (hl : W + (maxL + 11) + rm.locals ≤ R.locals) (eT : T.heap = h) {a : Addr} (E : Exa Z h a y.cls)
    {g : JFrame} (hg : g.method = m) (hsize : g.locals.size = c.maxLocals) {argsL rest : List Value} (hlen : ∀ sig, parseMethodDescriptor y.desc = some sig → argsL.length = sig.parameters.length) (hstack : g.stack = argsL.reverse ++ .ref a :: rest) (has : (Value.ref a :: argsL).toArray = as')
    (hW : 2 * g.monitorRoom + (rest.map fun v => v.category).sum ≤ W) (hdg : decode c.code g.pc = .ok (.invokevirtual index, 3)) (hc : cells + rm.cells ≤ R.cells) (hn : slots + rm.slots ≤ R.slots) :
    ∃ (v : Option Value) (T' : State) (L : List Loc), Stand p l e R s m args below meth c T' (locs ++ L) (cells + rm.cells) (slots + rm.slots) ∧ Q v T'.heap L ∧ ∀ t, Steps p.tables e below (T'.setTop { g with pc := g.pc + 3, stack := v.toList ++ rest }) t → Steps p.tables e below (T.setTop g) t := by
  subst eT
  obtain ⟨cq, kq, qa, qb, qc⟩ := isOf hZ rfl E
  obtain ⟨v, vm₁, ⟨T', L', k', n'⟩, -, X', ⟨Lc, hQ, l1, y1, z1⟩, st⟩ := X.virtualBack hx (y := y) (z := y) hown (mvT hZ w1) (mvT hZ w5) (notFace_of_selects (args := #[]) (mvT hZ w6)) (mvT hZ w6) (mvT hZ w2) hy (backOf (W := W) hM hZ w4 w3 hf hl) qa qc hg hsize (Steps.refl _) (argsL := argsL) (rest := rest) hlen hstack hW hdg (fun _ _ => ⟨has, rfl, hc, hn⟩)
  dsimp only [Pt.U, Pt.locs, Pt.cells, Pt.slots] at X' l1 y1 z1 st hQ
  subst l1 y1 z1
  exact ⟨v, T', Lc, X', hQ, fun t k => st.trans k⟩
end Own

/-! the plain law -/
theorem own_lt (x y : Int32) : x < y ↔ x.toInt < y.toInt := Int32.lt_iff_toInt_lt
theorem own_eq (x y : Int32) : x = y ↔ x.toInt = y.toInt := Int32.toInt_inj.symm
theorem own_ltL (x y : Int64) : x < y ↔ x.toInt < y.toInt := Int64.lt_iff_toInt_lt
def own_act (m : Int64) (n a b : Int32) : Int32 := if 0 < m.toInt ∨ 0 < n.toInt ∨ 0 < a.toInt ∨ 0 < b.toInt then 1 else 0
theorem own_act1 {m : Int64} {n a b : Int32} (h : 0 < m.toInt ∨ 0 < n.toInt ∨ 0 < a.toInt ∨ 0 < b.toInt) : own_act m n a b = 1 := if_pos h
theorem own_act0 {m : Int64} {n a b : Int32} (h : ¬ (0 < m.toInt ∨ 0 < n.toInt ∨ 0 < a.toInt ∨ 0 < b.toInt)) : own_act m n a b = 0 := if_neg h
theorem own_lits : (0 : Int32).toInt = 0 ∧ (1 : Int32).toInt = 1 ∧ (2 : Int32).toInt = 2 ∧ (0 : Int64).toInt = 0 ∧ (1 : Int64).toInt = 1 := by decide

theorem d2_0 : decode jdk_30_method_1_code 0 = .ok (.aload_n 0, 1) := by decide +kernel
theorem d2_1 : decode jdk_30_method_1_code 1 = .ok (.invokespecial 1, 3) := by decide +kernel
theorem d2_4 : decode jdk_30_method_1_code 4 = .ok (.return_, 1) := by decide +kernel
theorem pf_2 : plainFor (⟨"java/lang/Record", "<init>", "()V"⟩ : MethodName) = true := by first | exact plainFor_of_name (by first | (simp [plainName, overriddenIn]; done) | decide +kernel) | decide +kernel
theorem pd_2 : parseMethodDescriptor "()V" = some ⟨[], none⟩ := by decide +kernel
theorem ef_2 (m : MethodId) (p0 : Addr) : entryFrame m #[(.ref p0)] 1 = mkF m 0 #[.val (.ref p0)] [] := by first | (simp [entryFrame, mkF, argsToLocals, Value.category]; done) | rfl
def Q2 (p0 : Addr) (h0 : Heap) (n0 : Nat) (v : Option Value) (h : Heap) (L : List Loc) : Prop := v = none ∧ Fr n0 L ∧ h = h0
set_option maxRecDepth 65536 in
set_option maxHeartbeats 40000000 in
theorem rm2 (l : Launch) (Z : State) (a0 : Array Value) (hw : ∀ d ∈ tables_1, d.before a0 Z = true) (ws : List Jvm.Cond) (p0 : Addr) (h0 : Heap) (n0 : Nat) (Z0 : n0 ≤ h0.size)  :
    own_Met l Z (⟨"java/lang/Record", "<init>", "()V"⟩ : MethodName) jdk_30_method_1_code 1 none ws ({ frames := 1, cells := 0, slots := 0, locals := 12 } : Room) #[(.ref p0)] h0 (Q2 p0 h0 n0) := by
  refine MetFree.of_bodySF pf_2 hisR ?_
  intro p e s m args below meth c s₁ Bd hml0 hP hK
  obtain ⟨rfl, hZ, hh⟩ := hP
  have hx := Bd.exec
  have hby := Bd.bytes
  have hlk : meth.locks = false := BodyLoose.notSynchronized Bd
  have hml : c.maxLocals = 1 := hml0
  have hown : s.vm.findClass "java/lang/Record" = some m.cls := findClass_of_methodNamed Bd.named
  have hnm := (name_of_methodNamed Bd.named Bd.method).1
  have X0 : Stand p l e ({ frames := 1, cells := 0, slots := 0, locals := 12 } : Room) s m #[(.ref p0)] below meth c s₁ [] 0 0 := Stand.of_body Bd
  have e0 : s₁.heap = h0 := by rw [← hh, Bd.state]; rfl
  have N0 := Fr.nil n0
  show own_Go p.tables e below s (Q2 p0 h0 n0) ({ frames := 1, cells := 0, slots := 0, locals := 12 } : Room).cells ({ frames := 1, cells := 0, slots := 0, locals := 12 } : Room).slots _
  refine own_by (fun _ k => castTop (ef_2 m p0) k) ?_
  show own_Go p.tables e below s _ _ _ (s₁.setTop (mkF m 0 #[.val (.ref p0)] []))
  refine own_by (fun _ k => XS.aloadN X0.here hx rfl (hb hby d2_0) rfl rfl k) ?_
  show own_Go p.tables e below s _ _ _ (s₁.setTop (mkF m 1 #[.val (.ref p0)] [(.ref p0)]))
  obtain ⟨T1, X1, e1, st1⟩ := initO X0 hx hZ hown (hw _ (List.mem_of_getElem? (i := 12) rfl)) (hw _ (List.mem_of_getElem? (i := 13) rfl)) (hw _ (List.mem_of_getElem? (i := 14) rfl)) e0 (g := (mkF m 1 #[.val (.ref p0)] [(.ref p0)])) rfl (by rw [hml]; rfl) rfl (hb hby d2_1) (by decide) (W := 0) (by show 2 * 0 + _ ≤ _; exact Nat.le_of_eq rfl) (by decide)
  refine own_by st1 ?_
  show own_Go p.tables e below s _ _ _ (T1.setTop (mkF m 4 #[.val (.ref p0)] []))
  exact own_retV X1 hx hlk Bd.returns (hb hby d2_4) (by decide) (by decide) ⟨rfl, N0, e1⟩
theorem d1_0 : decode prog_24_method_1_code 0 = .ok (.aload_n 0, 1) := by decide +kernel
theorem d1_1 : decode prog_24_method_1_code 1 = .ok (.invokespecial 1, 3) := by decide +kernel
theorem d1_4 : decode prog_24_method_1_code 4 = .ok (.aload_n 0, 1) := by decide +kernel
theorem d1_5 : decode prog_24_method_1_code 5 = .ok (.lload_n 1, 1) := by decide +kernel
theorem d1_6 : decode prog_24_method_1_code 6 = .ok (.putfield 7, 3) := by decide +kernel
theorem d1_9 : decode prog_24_method_1_code 9 = .ok (.aload_n 0, 1) := by decide +kernel
theorem d1_10 : decode prog_24_method_1_code 10 = .ok (.aload_n 3, 1) := by decide +kernel
theorem d1_11 : decode prog_24_method_1_code 11 = .ok (.putfield 13, 3) := by decide +kernel
theorem d1_14 : decode prog_24_method_1_code 14 = .ok (.aload_n 0, 1) := by decide +kernel
theorem d1_15 : decode prog_24_method_1_code 15 = .ok (.iload 4, 2) := by decide +kernel
theorem d1_17 : decode prog_24_method_1_code 17 = .ok (.putfield 17, 3) := by decide +kernel
theorem d1_20 : decode prog_24_method_1_code 20 = .ok (.aload_n 0, 1) := by decide +kernel
theorem d1_21 : decode prog_24_method_1_code 21 = .ok (.iload 5, 2) := by decide +kernel
theorem d1_23 : decode prog_24_method_1_code 23 = .ok (.putfield 21, 3) := by decide +kernel
theorem d1_26 : decode prog_24_method_1_code 26 = .ok (.aload_n 0, 1) := by decide +kernel
theorem d1_27 : decode prog_24_method_1_code 27 = .ok (.iload 6, 2) := by decide +kernel
theorem d1_29 : decode prog_24_method_1_code 29 = .ok (.putfield 24, 3) := by decide +kernel
theorem d1_32 : decode prog_24_method_1_code 32 = .ok (.aload_n 0, 1) := by decide +kernel
theorem d1_33 : decode prog_24_method_1_code 33 = .ok (.iload 7, 2) := by decide +kernel
theorem d1_35 : decode prog_24_method_1_code 35 = .ok (.putfield 27, 3) := by decide +kernel
theorem d1_38 : decode prog_24_method_1_code 38 = .ok (.return_, 1) := by decide +kernel
theorem pf_1 : plainFor (⟨"cyclebreak/cluster/Control$Status", "<init>", "(J[IIIIZ)V"⟩ : MethodName) = true := by first | exact plainFor_of_name (by first | (simp [plainName, overriddenIn]; done) | decide +kernel) | decide +kernel
theorem pd_1 : parseMethodDescriptor "(J[IIIIZ)V" = some ⟨[.long, (.array .int), .int, .int, .int, .boolean], none⟩ := by decide +kernel
theorem ef_1 (m : MethodId) (p0 : Addr) (p1 : Int64) (p3 : Addr) (p4 : Int32) (p5 : Int32) (p6 : Int32) (p7 : Int32) : entryFrame m #[(.ref p0), (.long p1), (.ref p3), (.int p4), (.int p5), (.int p6), (.int p7)] 8 = mkF m 0 #[.val (.ref p0), .val (.long p1), .second, .val (.ref p3), .val (.int p4), .val (.int p5), .val (.int p6), .val (.int p7)] [] := by first | (simp [entryFrame, mkF, argsToLocals, Value.category]; done) | rfl
def Q1 (Z : State) (p0 : Addr) (p1 : Int64) (p3 : Addr) (p5 : Int32) (p6 : Int32) (h0 : Heap) (n0 : Nat) (v : Option Value) (h : Heap) (L : List Loc) : Prop := v = none ∧ Fr n0 L ∧ Keep h0 h [p0] ∧ Fld Z h p0 "cyclebreak/cluster/Control$Status" "messages" "J" (.long p1) ∧ Fld Z h p0 "cyclebreak/cluster/Control$Status" "reclaimed" "[I" (.ref p3) ∧ Fld Z h p0 "cyclebreak/cluster/Control$Status" "applied" "I" (.int p5) ∧ Fld Z h p0 "cyclebreak/cluster/Control$Status" "arrived" "I" (.int p6)
set_option maxRecDepth 65536 in
set_option maxHeartbeats 40000000 in
theorem rm1 (l : Launch) (Z : State) (a0 : Array Value) (hw : ∀ d ∈ tables_1, d.before a0 Z = true) (ws : List Jvm.Cond) (p0 : Addr) (p1 : Int64) (p3 : Addr) (p4 : Int32) (p5 : Int32) (p6 : Int32) (p7 : Int32) (h0 : Heap) (n0 : Nat) (Z0 : n0 ≤ h0.size) (Ex0 : Exa Z h0 p0 "cyclebreak/cluster/Control$Status") (Famessages : Fld Z h0 p0 "cyclebreak/cluster/Control$Status" "messages" "J" (.long (0 : Int64))) (Fareclaimed : Fld Z h0 p0 "cyclebreak/cluster/Control$Status" "reclaimed" "[I" .null) (Fafreed : Fld Z h0 p0 "cyclebreak/cluster/Control$Status" "freed" "I" (.int (0 : Int32))) (Faapplied : Fld Z h0 p0 "cyclebreak/cluster/Control$Status" "applied" "I" (.int (0 : Int32))) (Faarrived : Fld Z h0 p0 "cyclebreak/cluster/Control$Status" "arrived" "I" (.int (0 : Int32))) (Fasettled : Fld Z h0 p0 "cyclebreak/cluster/Control$Status" "settled" "Z" (.int (0 : Int32))) (ge0 : n0 ≤ p0) :
    own_Met l Z (⟨"cyclebreak/cluster/Control$Status", "<init>", "(J[IIIIZ)V"⟩ : MethodName) prog_24_method_1_code 8 none ws ({ frames := 2, cells := 0, slots := 0, locals := 24 } : Room) #[(.ref p0), (.long p1), (.ref p3), (.int p4), (.int p5), (.int p6), (.int p7)] h0 (Q1 Z p0 p1 p3 p5 p6 h0 n0) := by
  refine MetFree.of_bodySF pf_1 hisR ?_
  intro p e s m args below meth c s₁ Bd hml0 hP hK
  obtain ⟨rfl, hZ, hh⟩ := hP
  have hx := Bd.exec
  have hby := Bd.bytes
  have hlk : meth.locks = false := BodyLoose.notSynchronized Bd
  have hml : c.maxLocals = 8 := hml0
  have hown : s.vm.findClass "cyclebreak/cluster/Control$Status" = some m.cls := findClass_of_methodNamed Bd.named
  have hnm := (name_of_methodNamed Bd.named Bd.method).1
  have X0 : Stand p l e ({ frames := 2, cells := 0, slots := 0, locals := 24 } : Room) s m #[(.ref p0), (.long p1), (.ref p3), (.int p4), (.int p5), (.int p6), (.int p7)] below meth c s₁ [] 0 0 := Stand.of_body Bd
  have e0 : s₁.heap = h0 := by rw [← hh, Bd.state]; rfl
  have N0 := Fr.nil n0
  have K0 := Keep.refl h0 [p0]
  show own_Go p.tables e below s (Q1 Z p0 p1 p3 p5 p6 h0 n0) ({ frames := 2, cells := 0, slots := 0, locals := 24 } : Room).cells ({ frames := 2, cells := 0, slots := 0, locals := 24 } : Room).slots _
  refine own_by (fun _ k => castTop (ef_1 m p0 p1 p3 p4 p5 p6 p7) k) ?_
  show own_Go p.tables e below s _ _ _ (s₁.setTop (mkF m 0 #[.val (.ref p0), .val (.long p1), .second, .val (.ref p3), .val (.int p4), .val (.int p5), .val (.int p6), .val (.int p7)] []))
  refine own_by (fun _ k => XS.aloadN X0.here hx rfl (hb hby d1_0) rfl rfl k) ?_
  show own_Go p.tables e below s _ _ _ (s₁.setTop (mkF m 1 #[.val (.ref p0), .val (.long p1), .second, .val (.ref p3), .val (.int p4), .val (.int p5), .val (.int p6), .val (.int p7)] [(.ref p0)]))
  obtain ⟨v1, T1, L1, X1, q1, st1⟩ := own_callI X0 hx hZ rfl hown (hw _ (List.mem_of_getElem? (i := 7) rfl)) (hw _ (List.mem_of_getElem? (i := 8) rfl)) (hw _ (List.mem_of_getElem? (i := 10) rfl)) (hw _ (List.mem_of_getElem? (i := 11) rfl)) (by decide) (rm2 l Z a0 hw [] p0 h0 n0 Z0) (W := 0) (by decide) (by decide) e0 (g := (mkF m 1 #[.val (.ref p0), .val (.long p1), .second, .val (.ref p3), .val (.int p4), .val (.int p5), .val (.int p6), .val (.int p7)] [(.ref p0)])) rfl (by rw [hml]; rfl) (a := p0) (argsL := []) (rest := []) (lenOf pd_2 rfl) rfl rfl (by show 2 * 0 + _ ≤ _; exact Nat.le_of_eq rfl) (hb hby d1_1) (by decide) (by decide)
  obtain ⟨rfl, Nq1, hh1⟩ := q1
  have N1 := Fr.app N0 Nq1
  refine own_by st1 ?_
  show own_Go p.tables e below s _ _ _ (T1.setTop (mkF m 4 #[.val (.ref p0), .val (.long p1), .second, .val (.ref p3), .val (.int p4), .val (.int p5), .val (.int p6), .val (.int p7)] []))
  refine own_by (fun _ k => XS.aloadN X1.here hx rfl (hb hby d1_4) rfl rfl k) ?_
  show own_Go p.tables e below s _ _ _ (T1.setTop (mkF m 5 #[.val (.ref p0), .val (.long p1), .second, .val (.ref p3), .val (.int p4), .val (.int p5), .val (.int p6), .val (.int p7)] [(.ref p0)]))
  refine own_by (fun _ k => XS.lloadN X1.here hx rfl (hb hby d1_5) rfl k) ?_
  show own_Go p.tables e below s _ _ _ (T1.setTop (mkF m 6 #[.val (.ref p0), .val (.long p1), .second, .val (.ref p3), .val (.int p4), .val (.int p5), .val (.int p6), .val (.int p7)] [(.long p1), (.ref p0)]))
  obtain ⟨T2, h2, X2, e2, W2, st2⟩ := putF X1 hx hZ hown (host := "") (Or.inl (hw _ (List.mem_of_getElem? (i := 15) rfl))) Via.refl hh1 Famessages Ex0 (Or.inr ⟨ (hw _ (List.mem_of_getElem? (i := 16) rfl)), rfl, hnm⟩) (hw _ (List.mem_of_getElem? (i := 2) rfl)) (ty := .long) (by decide) rfl rfl (g := (mkF m 6 #[.val (.ref p0), .val (.long p1), .second, .val (.ref p3), .val (.int p4), .val (.int p5), .val (.int p6), .val (.int p7)] [(.long p1), (.ref p0)])) rfl rfl (hb hby d1_6)
  have N2 := Fr.snoc X2 N1 ge0
  have Z2 : n0 ≤ h2.size := by rw [W2.size]; exact Z0
  have K2 := K0.wr W2 (Or.inl (List.mem_of_getElem? (i := 0) rfl))
  have Ex0_h2 := Ex0.wr W2
  have Famessages_h2 := Famessages.same W2
  have Fareclaimed_h2 := Fareclaimed.other W2 (Or.inr (slot_ne (Or.inr (hw _ (List.mem_of_getElem? (i := 18) rfl))) (Or.inr (hw _ (List.mem_of_getElem? (i := 16) rfl))) (by decide) (by decide : parseFieldDescriptor "[I" = some (.array .int)) (by decide : parseFieldDescriptor "J" = some .long)))
  have Fafreed_h2 := Fafreed.other W2 (Or.inr (slot_ne (Or.inr (hw _ (List.mem_of_getElem? (i := 20) rfl))) (Or.inr (hw _ (List.mem_of_getElem? (i := 16) rfl))) (by decide) (by decide : parseFieldDescriptor "I" = some .int) (by decide : parseFieldDescriptor "J" = some .long)))
  have Faapplied_h2 := Faapplied.other W2 (Or.inr (slot_ne (Or.inr (hw _ (List.mem_of_getElem? (i := 22) rfl))) (Or.inr (hw _ (List.mem_of_getElem? (i := 16) rfl))) (by decide) (by decide : parseFieldDescriptor "I" = some .int) (by decide : parseFieldDescriptor "J" = some .long)))
  have Faarrived_h2 := Faarrived.other W2 (Or.inr (slot_ne (Or.inr (hw _ (List.mem_of_getElem? (i := 24) rfl))) (Or.inr (hw _ (List.mem_of_getElem? (i := 16) rfl))) (by decide) (by decide : parseFieldDescriptor "I" = some .int) (by decide : parseFieldDescriptor "J" = some .long)))
  have Fasettled_h2 := Fasettled.other W2 (Or.inr (slot_ne (Or.inr (hw _ (List.mem_of_getElem? (i := 26) rfl))) (Or.inr (hw _ (List.mem_of_getElem? (i := 16) rfl))) (by decide) (by decide : parseFieldDescriptor "Z" = some .boolean) (by decide : parseFieldDescriptor "J" = some .long)))
  refine own_by st2 ?_
  show own_Go p.tables e below s _ _ _ (T2.setTop (mkF m 9 #[.val (.ref p0), .val (.long p1), .second, .val (.ref p3), .val (.int p4), .val (.int p5), .val (.int p6), .val (.int p7)] []))
  refine own_by (fun _ k => XS.aloadN X2.here hx rfl (hb hby d1_9) rfl rfl k) ?_
  show own_Go p.tables e below s _ _ _ (T2.setTop (mkF m 10 #[.val (.ref p0), .val (.long p1), .second, .val (.ref p3), .val (.int p4), .val (.int p5), .val (.int p6), .val (.int p7)] [(.ref p0)]))
  refine own_by (fun _ k => XS.aloadN X2.here hx rfl (hb hby d1_10) rfl rfl k) ?_
  show own_Go p.tables e below s _ _ _ (T2.setTop (mkF m 11 #[.val (.ref p0), .val (.long p1), .second, .val (.ref p3), .val (.int p4), .val (.int p5), .val (.int p6), .val (.int p7)] [(.ref p3), (.ref p0)]))
  obtain ⟨T3, h3, X3, e3, W3, st3⟩ := putF X2 hx hZ hown (host := "") (Or.inl (hw _ (List.mem_of_getElem? (i := 17) rfl))) Via.refl e2 Fareclaimed_h2 Ex0_h2 (Or.inr ⟨ (hw _ (List.mem_of_getElem? (i := 18) rfl)), rfl, hnm⟩) (hw _ (List.mem_of_getElem? (i := 2) rfl)) (ty := (.array .int)) (by decide) rfl rfl (g := (mkF m 11 #[.val (.ref p0), .val (.long p1), .second, .val (.ref p3), .val (.int p4), .val (.int p5), .val (.int p6), .val (.int p7)] [(.ref p3), (.ref p0)])) rfl rfl (hb hby d1_11)
  have N3 := Fr.snoc X3 N2 ge0
  have Z3 : n0 ≤ h3.size := by rw [W3.size]; exact Z2
  have K3 := K2.wr W3 (Or.inl (List.mem_of_getElem? (i := 0) rfl))
  have Ex0_h3 := Ex0_h2.wr W3
  have Famessages_h3 := Famessages_h2.other W3 (Or.inr (slot_ne (Or.inr (hw _ (List.mem_of_getElem? (i := 16) rfl))) (Or.inr (hw _ (List.mem_of_getElem? (i := 18) rfl))) (by decide) (by decide : parseFieldDescriptor "J" = some .long) (by decide : parseFieldDescriptor "[I" = some (.array .int))))
  have Fareclaimed_h3 := Fareclaimed_h2.same W3
  have Fafreed_h3 := Fafreed_h2.other W3 (Or.inr (slot_ne (Or.inr (hw _ (List.mem_of_getElem? (i := 20) rfl))) (Or.inr (hw _ (List.mem_of_getElem? (i := 18) rfl))) (by decide) (by decide : parseFieldDescriptor "I" = some .int) (by decide : parseFieldDescriptor "[I" = some (.array .int))))
  have Faapplied_h3 := Faapplied_h2.other W3 (Or.inr (slot_ne (Or.inr (hw _ (List.mem_of_getElem? (i := 22) rfl))) (Or.inr (hw _ (List.mem_of_getElem? (i := 18) rfl))) (by decide) (by decide : parseFieldDescriptor "I" = some .int) (by decide : parseFieldDescriptor "[I" = some (.array .int))))
  have Faarrived_h3 := Faarrived_h2.other W3 (Or.inr (slot_ne (Or.inr (hw _ (List.mem_of_getElem? (i := 24) rfl))) (Or.inr (hw _ (List.mem_of_getElem? (i := 18) rfl))) (by decide) (by decide : parseFieldDescriptor "I" = some .int) (by decide : parseFieldDescriptor "[I" = some (.array .int))))
  have Fasettled_h3 := Fasettled_h2.other W3 (Or.inr (slot_ne (Or.inr (hw _ (List.mem_of_getElem? (i := 26) rfl))) (Or.inr (hw _ (List.mem_of_getElem? (i := 18) rfl))) (by decide) (by decide : parseFieldDescriptor "Z" = some .boolean) (by decide : parseFieldDescriptor "[I" = some (.array .int))))
  refine own_by st3 ?_
  show own_Go p.tables e below s _ _ _ (T3.setTop (mkF m 14 #[.val (.ref p0), .val (.long p1), .second, .val (.ref p3), .val (.int p4), .val (.int p5), .val (.int p6), .val (.int p7)] []))
  refine own_by (fun _ k => XS.aloadN X3.here hx rfl (hb hby d1_14) rfl rfl k) ?_
  show own_Go p.tables e below s _ _ _ (T3.setTop (mkF m 15 #[.val (.ref p0), .val (.long p1), .second, .val (.ref p3), .val (.int p4), .val (.int p5), .val (.int p6), .val (.int p7)] [(.ref p0)]))
  refine own_by (fun _ k => XS.iload X3.here hx rfl (hb hby d1_15) rfl k) ?_
  show own_Go p.tables e below s _ _ _ (T3.setTop (mkF m 17 #[.val (.ref p0), .val (.long p1), .second, .val (.ref p3), .val (.int p4), .val (.int p5), .val (.int p6), .val (.int p7)] [(.int p4), (.ref p0)]))
  obtain ⟨T4, h4, X4, e4, W4, st4⟩ := putF X3 hx hZ hown (host := "") (Or.inl (hw _ (List.mem_of_getElem? (i := 19) rfl))) Via.refl e3 Fafreed_h3 Ex0_h3 (Or.inr ⟨ (hw _ (List.mem_of_getElem? (i := 20) rfl)), rfl, hnm⟩) (hw _ (List.mem_of_getElem? (i := 2) rfl)) (ty := .int) (by decide) rfl rfl (g := (mkF m 17 #[.val (.ref p0), .val (.long p1), .second, .val (.ref p3), .val (.int p4), .val (.int p5), .val (.int p6), .val (.int p7)] [(.int p4), (.ref p0)])) rfl rfl (hb hby d1_17)
  have N4 := Fr.snoc X4 N3 ge0
  have Z4 : n0 ≤ h4.size := by rw [W4.size]; exact Z3
  have K4 := K3.wr W4 (Or.inl (List.mem_of_getElem? (i := 0) rfl))
  have Ex0_h4 := Ex0_h3.wr W4
  have Famessages_h4 := Famessages_h3.other W4 (Or.inr (slot_ne (Or.inr (hw _ (List.mem_of_getElem? (i := 16) rfl))) (Or.inr (hw _ (List.mem_of_getElem? (i := 20) rfl))) (by decide) (by decide : parseFieldDescriptor "J" = some .long) (by decide : parseFieldDescriptor "I" = some .int)))
  have Fareclaimed_h4 := Fareclaimed_h3.other W4 (Or.inr (slot_ne (Or.inr (hw _ (List.mem_of_getElem? (i := 18) rfl))) (Or.inr (hw _ (List.mem_of_getElem? (i := 20) rfl))) (by decide) (by decide : parseFieldDescriptor "[I" = some (.array .int)) (by decide : parseFieldDescriptor "I" = some .int)))
  have Fafreed_h4 := Fafreed_h3.same W4
  have Faapplied_h4 := Faapplied_h3.other W4 (Or.inr (slot_ne (Or.inr (hw _ (List.mem_of_getElem? (i := 22) rfl))) (Or.inr (hw _ (List.mem_of_getElem? (i := 20) rfl))) (by decide) (by decide : parseFieldDescriptor "I" = some .int) (by decide : parseFieldDescriptor "I" = some .int)))
  have Faarrived_h4 := Faarrived_h3.other W4 (Or.inr (slot_ne (Or.inr (hw _ (List.mem_of_getElem? (i := 24) rfl))) (Or.inr (hw _ (List.mem_of_getElem? (i := 20) rfl))) (by decide) (by decide : parseFieldDescriptor "I" = some .int) (by decide : parseFieldDescriptor "I" = some .int)))
  have Fasettled_h4 := Fasettled_h3.other W4 (Or.inr (slot_ne (Or.inr (hw _ (List.mem_of_getElem? (i := 26) rfl))) (Or.inr (hw _ (List.mem_of_getElem? (i := 20) rfl))) (by decide) (by decide : parseFieldDescriptor "Z" = some .boolean) (by decide : parseFieldDescriptor "I" = some .int)))
  refine own_by st4 ?_
  show own_Go p.tables e below s _ _ _ (T4.setTop (mkF m 20 #[.val (.ref p0), .val (.long p1), .second, .val (.ref p3), .val (.int p4), .val (.int p5), .val (.int p6), .val (.int p7)] []))
  refine own_by (fun _ k => XS.aloadN X4.here hx rfl (hb hby d1_20) rfl rfl k) ?_
  show own_Go p.tables e below s _ _ _ (T4.setTop (mkF m 21 #[.val (.ref p0), .val (.long p1), .second, .val (.ref p3), .val (.int p4), .val (.int p5), .val (.int p6), .val (.int p7)] [(.ref p0)]))
  refine own_by (fun _ k => XS.iload X4.here hx rfl (hb hby d1_21) rfl k) ?_
  show own_Go p.tables e below s _ _ _ (T4.setTop (mkF m 23 #[.val (.ref p0), .val (.long p1), .second, .val (.ref p3), .val (.int p4), .val (.int p5), .val (.int p6), .val (.int p7)] [(.int p5), (.ref p0)]))
  obtain ⟨T5, h5, X5, e5, W5, st5⟩ := putF X4 hx hZ hown (host := "") (Or.inl (hw _ (List.mem_of_getElem? (i := 21) rfl))) Via.refl e4 Faapplied_h4 Ex0_h4 (Or.inr ⟨ (hw _ (List.mem_of_getElem? (i := 22) rfl)), rfl, hnm⟩) (hw _ (List.mem_of_getElem? (i := 2) rfl)) (ty := .int) (by decide) rfl rfl (g := (mkF m 23 #[.val (.ref p0), .val (.long p1), .second, .val (.ref p3), .val (.int p4), .val (.int p5), .val (.int p6), .val (.int p7)] [(.int p5), (.ref p0)])) rfl rfl (hb hby d1_23)
  have N5 := Fr.snoc X5 N4 ge0
  have Z5 : n0 ≤ h5.size := by rw [W5.size]; exact Z4
  have K5 := K4.wr W5 (Or.inl (List.mem_of_getElem? (i := 0) rfl))
  have Ex0_h5 := Ex0_h4.wr W5
  have Famessages_h5 := Famessages_h4.other W5 (Or.inr (slot_ne (Or.inr (hw _ (List.mem_of_getElem? (i := 16) rfl))) (Or.inr (hw _ (List.mem_of_getElem? (i := 22) rfl))) (by decide) (by decide : parseFieldDescriptor "J" = some .long) (by decide : parseFieldDescriptor "I" = some .int)))
  have Fareclaimed_h5 := Fareclaimed_h4.other W5 (Or.inr (slot_ne (Or.inr (hw _ (List.mem_of_getElem? (i := 18) rfl))) (Or.inr (hw _ (List.mem_of_getElem? (i := 22) rfl))) (by decide) (by decide : parseFieldDescriptor "[I" = some (.array .int)) (by decide : parseFieldDescriptor "I" = some .int)))
  have Fafreed_h5 := Fafreed_h4.other W5 (Or.inr (slot_ne (Or.inr (hw _ (List.mem_of_getElem? (i := 20) rfl))) (Or.inr (hw _ (List.mem_of_getElem? (i := 22) rfl))) (by decide) (by decide : parseFieldDescriptor "I" = some .int) (by decide : parseFieldDescriptor "I" = some .int)))
  have Faapplied_h5 := Faapplied_h4.same W5
  have Faarrived_h5 := Faarrived_h4.other W5 (Or.inr (slot_ne (Or.inr (hw _ (List.mem_of_getElem? (i := 24) rfl))) (Or.inr (hw _ (List.mem_of_getElem? (i := 22) rfl))) (by decide) (by decide : parseFieldDescriptor "I" = some .int) (by decide : parseFieldDescriptor "I" = some .int)))
  have Fasettled_h5 := Fasettled_h4.other W5 (Or.inr (slot_ne (Or.inr (hw _ (List.mem_of_getElem? (i := 26) rfl))) (Or.inr (hw _ (List.mem_of_getElem? (i := 22) rfl))) (by decide) (by decide : parseFieldDescriptor "Z" = some .boolean) (by decide : parseFieldDescriptor "I" = some .int)))
  refine own_by st5 ?_
  show own_Go p.tables e below s _ _ _ (T5.setTop (mkF m 26 #[.val (.ref p0), .val (.long p1), .second, .val (.ref p3), .val (.int p4), .val (.int p5), .val (.int p6), .val (.int p7)] []))
  refine own_by (fun _ k => XS.aloadN X5.here hx rfl (hb hby d1_26) rfl rfl k) ?_
  show own_Go p.tables e below s _ _ _ (T5.setTop (mkF m 27 #[.val (.ref p0), .val (.long p1), .second, .val (.ref p3), .val (.int p4), .val (.int p5), .val (.int p6), .val (.int p7)] [(.ref p0)]))
  refine own_by (fun _ k => XS.iload X5.here hx rfl (hb hby d1_27) rfl k) ?_
  show own_Go p.tables e below s _ _ _ (T5.setTop (mkF m 29 #[.val (.ref p0), .val (.long p1), .second, .val (.ref p3), .val (.int p4), .val (.int p5), .val (.int p6), .val (.int p7)] [(.int p6), (.ref p0)]))
  obtain ⟨T6, h6, X6, e6, W6, st6⟩ := putF X5 hx hZ hown (host := "") (Or.inl (hw _ (List.mem_of_getElem? (i := 23) rfl))) Via.refl e5 Faarrived_h5 Ex0_h5 (Or.inr ⟨ (hw _ (List.mem_of_getElem? (i := 24) rfl)), rfl, hnm⟩) (hw _ (List.mem_of_getElem? (i := 2) rfl)) (ty := .int) (by decide) rfl rfl (g := (mkF m 29 #[.val (.ref p0), .val (.long p1), .second, .val (.ref p3), .val (.int p4), .val (.int p5), .val (.int p6), .val (.int p7)] [(.int p6), (.ref p0)])) rfl rfl (hb hby d1_29)
  have N6 := Fr.snoc X6 N5 ge0
  have Z6 : n0 ≤ h6.size := by rw [W6.size]; exact Z5
  have K6 := K5.wr W6 (Or.inl (List.mem_of_getElem? (i := 0) rfl))
  have Ex0_h6 := Ex0_h5.wr W6
  have Famessages_h6 := Famessages_h5.other W6 (Or.inr (slot_ne (Or.inr (hw _ (List.mem_of_getElem? (i := 16) rfl))) (Or.inr (hw _ (List.mem_of_getElem? (i := 24) rfl))) (by decide) (by decide : parseFieldDescriptor "J" = some .long) (by decide : parseFieldDescriptor "I" = some .int)))
  have Fareclaimed_h6 := Fareclaimed_h5.other W6 (Or.inr (slot_ne (Or.inr (hw _ (List.mem_of_getElem? (i := 18) rfl))) (Or.inr (hw _ (List.mem_of_getElem? (i := 24) rfl))) (by decide) (by decide : parseFieldDescriptor "[I" = some (.array .int)) (by decide : parseFieldDescriptor "I" = some .int)))
  have Fafreed_h6 := Fafreed_h5.other W6 (Or.inr (slot_ne (Or.inr (hw _ (List.mem_of_getElem? (i := 20) rfl))) (Or.inr (hw _ (List.mem_of_getElem? (i := 24) rfl))) (by decide) (by decide : parseFieldDescriptor "I" = some .int) (by decide : parseFieldDescriptor "I" = some .int)))
  have Faapplied_h6 := Faapplied_h5.other W6 (Or.inr (slot_ne (Or.inr (hw _ (List.mem_of_getElem? (i := 22) rfl))) (Or.inr (hw _ (List.mem_of_getElem? (i := 24) rfl))) (by decide) (by decide : parseFieldDescriptor "I" = some .int) (by decide : parseFieldDescriptor "I" = some .int)))
  have Faarrived_h6 := Faarrived_h5.same W6
  have Fasettled_h6 := Fasettled_h5.other W6 (Or.inr (slot_ne (Or.inr (hw _ (List.mem_of_getElem? (i := 26) rfl))) (Or.inr (hw _ (List.mem_of_getElem? (i := 24) rfl))) (by decide) (by decide : parseFieldDescriptor "Z" = some .boolean) (by decide : parseFieldDescriptor "I" = some .int)))
  refine own_by st6 ?_
  show own_Go p.tables e below s _ _ _ (T6.setTop (mkF m 32 #[.val (.ref p0), .val (.long p1), .second, .val (.ref p3), .val (.int p4), .val (.int p5), .val (.int p6), .val (.int p7)] []))
  refine own_by (fun _ k => XS.aloadN X6.here hx rfl (hb hby d1_32) rfl rfl k) ?_
  show own_Go p.tables e below s _ _ _ (T6.setTop (mkF m 33 #[.val (.ref p0), .val (.long p1), .second, .val (.ref p3), .val (.int p4), .val (.int p5), .val (.int p6), .val (.int p7)] [(.ref p0)]))
  refine own_by (fun _ k => XS.iload X6.here hx rfl (hb hby d1_33) rfl k) ?_
  show own_Go p.tables e below s _ _ _ (T6.setTop (mkF m 35 #[.val (.ref p0), .val (.long p1), .second, .val (.ref p3), .val (.int p4), .val (.int p5), .val (.int p6), .val (.int p7)] [(.int p7), (.ref p0)]))
  obtain ⟨T7, h7, X7, e7, W7, st7⟩ := putFN X6 hx hZ hown (hw _ (List.mem_of_getElem? (i := 25) rfl)) Via.refl e6 Fasettled_h6 Ex0_h6 (Or.inr ⟨ (hw _ (List.mem_of_getElem? (i := 26) rfl)), rfl, hnm⟩) (hw _ (List.mem_of_getElem? (i := 2) rfl)) (ty := .boolean) (v' := (.int (nar .boolean p7))) (by decide) rfl (fits_nar_bool _) (g := (mkF m 35 #[.val (.ref p0), .val (.long p1), .second, .val (.ref p3), .val (.int p4), .val (.int p5), .val (.int p6), .val (.int p7)] [(.int p7), (.ref p0)])) rfl rfl (hb hby d1_35)
  have N7 := Fr.snoc X7 N6 ge0
  have Z7 : n0 ≤ h7.size := by rw [W7.size]; exact Z6
  have K7 := K6.wr W7 (Or.inl (List.mem_of_getElem? (i := 0) rfl))
  have Ex0_h7 := Ex0_h6.wr W7
  have Famessages_h7 := Famessages_h6.other W7 (Or.inr (slot_ne (Or.inr (hw _ (List.mem_of_getElem? (i := 16) rfl))) (Or.inr (hw _ (List.mem_of_getElem? (i := 26) rfl))) (by decide) (by decide : parseFieldDescriptor "J" = some .long) (by decide : parseFieldDescriptor "Z" = some .boolean)))
  have Fareclaimed_h7 := Fareclaimed_h6.other W7 (Or.inr (slot_ne (Or.inr (hw _ (List.mem_of_getElem? (i := 18) rfl))) (Or.inr (hw _ (List.mem_of_getElem? (i := 26) rfl))) (by decide) (by decide : parseFieldDescriptor "[I" = some (.array .int)) (by decide : parseFieldDescriptor "Z" = some .boolean)))
  have Fafreed_h7 := Fafreed_h6.other W7 (Or.inr (slot_ne (Or.inr (hw _ (List.mem_of_getElem? (i := 20) rfl))) (Or.inr (hw _ (List.mem_of_getElem? (i := 26) rfl))) (by decide) (by decide : parseFieldDescriptor "I" = some .int) (by decide : parseFieldDescriptor "Z" = some .boolean)))
  have Faapplied_h7 := Faapplied_h6.other W7 (Or.inr (slot_ne (Or.inr (hw _ (List.mem_of_getElem? (i := 22) rfl))) (Or.inr (hw _ (List.mem_of_getElem? (i := 26) rfl))) (by decide) (by decide : parseFieldDescriptor "I" = some .int) (by decide : parseFieldDescriptor "Z" = some .boolean)))
  have Faarrived_h7 := Faarrived_h6.other W7 (Or.inr (slot_ne (Or.inr (hw _ (List.mem_of_getElem? (i := 24) rfl))) (Or.inr (hw _ (List.mem_of_getElem? (i := 26) rfl))) (by decide) (by decide : parseFieldDescriptor "I" = some .int) (by decide : parseFieldDescriptor "Z" = some .boolean)))
  have Fasettled_h7 := Fasettled_h6.same W7
  refine own_by st7 ?_
  show own_Go p.tables e below s _ _ _ (T7.setTop (mkF m 38 #[.val (.ref p0), .val (.long p1), .second, .val (.ref p3), .val (.int p4), .val (.int p5), .val (.int p6), .val (.int p7)] []))
  exact own_retV X7 hx hlk Bd.returns (hb hby d1_38) (by decide) (by decide) ⟨rfl, N7, by rw [e7]; exact K7, by rw [e7]; exact Famessages_h7, by rw [e7]; exact Fareclaimed_h7, by rw [e7]; exact Faapplied_h7, by rw [e7]; exact Faarrived_h7⟩
theorem d4_0 : decode prog_24_method_2_code 0 = .ok (.aload_n 0, 1) := by decide +kernel
theorem d4_1 : decode prog_24_method_2_code 1 = .ok (.getfield 7, 3) := by decide +kernel
theorem d4_4 : decode prog_24_method_2_code 4 = .ok (.lconst 0, 1) := by decide +kernel
theorem d4_5 : decode prog_24_method_2_code 5 = .ok (.lcmp, 1) := by decide +kernel
theorem d4_6 : decode prog_24_method_2_code 6 = .ok (.ifCond .gt 25, 3) := by decide +kernel
theorem d4_9 : decode prog_24_method_2_code 9 = .ok (.aload_n 0, 1) := by decide +kernel
theorem d4_10 : decode prog_24_method_2_code 10 = .ok (.getfield 13, 3) := by decide +kernel
theorem d4_13 : decode prog_24_method_2_code 13 = .ok (.arraylength, 1) := by decide +kernel
theorem d4_14 : decode prog_24_method_2_code 14 = .ok (.ifCond .gt 17, 3) := by decide +kernel
theorem d4_17 : decode prog_24_method_2_code 17 = .ok (.aload_n 0, 1) := by decide +kernel
theorem d4_18 : decode prog_24_method_2_code 18 = .ok (.getfield 21, 3) := by decide +kernel
theorem d4_21 : decode prog_24_method_2_code 21 = .ok (.ifCond .gt 10, 3) := by decide +kernel
theorem d4_24 : decode prog_24_method_2_code 24 = .ok (.aload_n 0, 1) := by decide +kernel
theorem d4_25 : decode prog_24_method_2_code 25 = .ok (.getfield 24, 3) := by decide +kernel
theorem d4_28 : decode prog_24_method_2_code 28 = .ok (.ifCond .le 7, 3) := by decide +kernel
theorem d4_31 : decode prog_24_method_2_code 31 = .ok (.iconst 1, 1) := by decide +kernel
theorem d4_32 : decode prog_24_method_2_code 32 = .ok (.goto 4, 3) := by decide +kernel
theorem d4_35 : decode prog_24_method_2_code 35 = .ok (.iconst 0, 1) := by decide +kernel
theorem d4_36 : decode prog_24_method_2_code 36 = .ok (.ireturn, 1) := by decide +kernel
theorem pf_4 : plainFor (⟨"cyclebreak/cluster/Control$Status", "active", "()Z"⟩ : MethodName) = true := by first | exact plainFor_of_name (by first | (simp [plainName, overriddenIn]; done) | decide +kernel) | decide +kernel
theorem pd_4 : parseMethodDescriptor "()Z" = some ⟨[], some .boolean⟩ := by decide +kernel
theorem ef_4 (m : MethodId) (p0 : Addr) : entryFrame m #[(.ref p0)] 1 = mkF m 0 #[.val (.ref p0)] [] := by first | (simp [entryFrame, mkF, argsToLocals, Value.category]; done) | rfl
def Q4 (m1 : Int64) (n1 : Int32) (a1 : Int32) (b1 : Int32) (h0 : Heap) (n0 : Nat) (v : Option Value) (h : Heap) (L : List Loc) : Prop := v = some (.int (own_act m1 n1 a1 b1)) ∧ Fr n0 L ∧ h = h0
set_option maxRecDepth 65536 in
set_option maxHeartbeats 40000000 in
theorem rm4 (l : Launch) (Z : State) (a0 : Array Value) (hw : ∀ d ∈ tables_1, d.before a0 Z = true) (ws : List Jvm.Cond) (p0 : Addr) (h0 : Heap) (n0 : Nat) (Z0 : n0 ≤ h0.size) (m1 : Int64) (r1 : Addr) (n1 a1 b1 : Int32) (k1 : ClassId) (vs1 : List Value) (Famessages : Fld Z h0 p0 "cyclebreak/cluster/Control$Status" "messages" "J" (.long m1)) (Fareclaimed : Fld Z h0 p0 "cyclebreak/cluster/Control$Status" "reclaimed" "[I" (.ref r1)) (Faapplied : Fld Z h0 p0 "cyclebreak/cluster/Control$Status" "applied" "I" (.int a1)) (Faarrived : Fld Z h0 p0 "cyclebreak/cluster/Control$Status" "arrived" "I" (.int b1)) (Va : Arv Z h0 r1 k1 .int n1 vs1 (.int (0 : Int32))) :
    own_Met l Z (⟨"cyclebreak/cluster/Control$Status", "active", "()Z"⟩ : MethodName) prog_24_method_2_code 1 (some .boolean) ws ({ frames := 0, cells := 0, slots := 0, locals := 0 } : Room) #[(.ref p0)] h0 (Q4 m1 n1 a1 b1 h0 n0) := by
  refine MetFree.of_bodySF pf_4 hisR ?_
  intro p e s m args below meth c s₁ Bd hml0 hP hK
  obtain ⟨rfl, hZ, hh⟩ := hP
  have hx := Bd.exec
  have hby := Bd.bytes
  have hlk : meth.locks = false := BodyLoose.notSynchronized Bd
  have hml : c.maxLocals = 1 := hml0
  have hown : s.vm.findClass "cyclebreak/cluster/Control$Status" = some m.cls := findClass_of_methodNamed Bd.named
  have hnm := (name_of_methodNamed Bd.named Bd.method).1
  have X0 : Stand p l e ({ frames := 0, cells := 0, slots := 0, locals := 0 } : Room) s m #[(.ref p0)] below meth c s₁ [] 0 0 := Stand.of_body Bd
  have e0 : s₁.heap = h0 := by rw [← hh, Bd.state]; rfl
  have N0 := Fr.nil n0
  show own_Go p.tables e below s (Q4 m1 n1 a1 b1 h0 n0) ({ frames := 0, cells := 0, slots := 0, locals := 0 } : Room).cells ({ frames := 0, cells := 0, slots := 0, locals := 0 } : Room).slots _
  refine own_by (fun _ k => castTop (ef_4 m p0) k) ?_
  show own_Go p.tables e below s _ _ _ (s₁.setTop (mkF m 0 #[.val (.ref p0)] []))
  refine own_by (fun _ k => XS.aloadN X0.here hx rfl (hb hby d4_0) rfl rfl k) ?_
  show own_Go p.tables e below s _ _ _ (s₁.setTop (mkF m 1 #[.val (.ref p0)] [(.ref p0)]))
  obtain ⟨T1, X1, e1, st1⟩ := getF X0 hx hZ hown (host := "") (Or.inl (hw _ (List.mem_of_getElem? (i := 15) rfl))) Via.refl e0 Famessages (g := (mkF m 1 #[.val (.ref p0)] [(.ref p0)])) rfl rfl (hb hby d4_1)
  refine own_by st1 ?_
  show own_Go p.tables e below s _ _ _ (T1.setTop (mkF m 4 #[.val (.ref p0)] [(.long m1)]))
  refine own_by (fun _ k => XS.lconst X1.here hx rfl (hb hby d4_4) k) ?_
  show own_Go p.tables e below s _ _ _ (T1.setTop (mkF m 5 #[.val (.ref p0)] [(.long (0 : Int64)), (.long m1)]))
  refine own_by (fun _ k => XS.lcmp X1.here hx rfl (hb hby d4_5) rfl k) ?_
  show own_Go p.tables e below s _ _ _ (T1.setTop (mkF m 6 #[.val (.ref p0)] [(.int (lcmpW m1 (0 : Int64)))]))
  by_cases hc6_2 : (0 : Int32) < (lcmpW m1 (0 : Int64))
  · refine own_by (fun _ k => XS.ifYes X1.here hx rfl (pc0 := 6) (pc' := 31) rfl (hb hby d4_6) rfl ((if0 _ _).trans (tlt hc6_2).2.2.1) (by decide) (by decide) k) ?_
    show own_Go p.tables e below s _ _ _ (T1.setTop (mkF m 31 #[.val (.ref p0)] []))
    refine own_by (fun _ k => XS.iconst X1.here hx rfl (hb hby d4_31) k) ?_
    show own_Go p.tables e below s _ _ _ (T1.setTop (mkF m 32 #[.val (.ref p0)] [(.int (1 : Int32))]))
    refine own_by (fun _ k => XS.goto X1.here hx rfl (pc0 := 32) (pc' := 36) rfl (hb hby d4_32) (by decide) (by decide) k) ?_
    show own_Go p.tables e below s _ _ _ (T1.setTop (mkF m 36 #[.val (.ref p0)] [(.int (1 : Int32))]))
    have hz : own_act m1 n1 a1 b1 = (1 : Int32) := by
      try simp only [lw_lt, lw_gt, lw_eq] at hc6_2
      simp only [own_lt, own_eq, own_ltL, own_lits.1, own_lits.2.1, own_lits.2.2.1, own_lits.2.2.2.1, own_lits.2.2.2.2] at hc6_2
      exact own_act1 (by first | omega | (have := own_lits; omega))
    exact own_retZ X1 hx hlk Bd.returns (hb hby d4_36) (by decide) (by decide) ⟨by rw [hz]; rfl, N0, e1⟩
  · refine own_by (fun _ k => XS.ifNo X1.here hx rfl (hb hby d4_6) rfl ((if0 _ _).trans (flt hc6_2).2.2.1) k) ?_
    show own_Go p.tables e below s _ _ _ (T1.setTop (mkF m 9 #[.val (.ref p0)] []))
    refine own_by (fun _ k => XS.aloadN X1.here hx rfl (hb hby d4_9) rfl rfl k) ?_
    show own_Go p.tables e below s _ _ _ (T1.setTop (mkF m 10 #[.val (.ref p0)] [(.ref p0)]))
    obtain ⟨T3, X3, e3, st3⟩ := getF X1 hx hZ hown (host := "") (Or.inl (hw _ (List.mem_of_getElem? (i := 17) rfl))) Via.refl e1 Fareclaimed (g := (mkF m 10 #[.val (.ref p0)] [(.ref p0)])) rfl rfl (hb hby d4_10)
    refine own_by st3 ?_
    show own_Go p.tables e below s _ _ _ (T3.setTop (mkF m 13 #[.val (.ref p0)] [(.ref r1)]))
    obtain ⟨cl4, Ar4, qk4, Sz4, Nn4, Hs4, Gt4⟩ := id Va
    refine own_by (fun _ k => X3.arraylength hx (by rw [e3]; exact Ar4.1) (State.isArrayOf_alike hZ.alike Ar4.2.1) (g := (mkF m 13 #[.val (.ref p0)] [(.ref r1)])) rfl rfl (hb hby d4_13) _ k) ?_
    rw [len_of Sz4 Nn4]
    show own_Go p.tables e below s _ _ _ (T3.setTop (mkF m 14 #[.val (.ref p0)] [(.int n1)]))
    by_cases hc14_5 : (0 : Int32) < n1
    · refine own_by (fun _ k => XS.ifYes X3.here hx rfl (pc0 := 14) (pc' := 31) rfl (hb hby d4_14) rfl ((if0 _ _).trans (tlt hc14_5).2.2.1) (by decide) (by decide) k) ?_
      show own_Go p.tables e below s _ _ _ (T3.setTop (mkF m 31 #[.val (.ref p0)] []))
      refine own_by (fun _ k => XS.iconst X3.here hx rfl (hb hby d4_31) k) ?_
      show own_Go p.tables e below s _ _ _ (T3.setTop (mkF m 32 #[.val (.ref p0)] [(.int (1 : Int32))]))
      refine own_by (fun _ k => XS.goto X3.here hx rfl (pc0 := 32) (pc' := 36) rfl (hb hby d4_32) (by decide) (by decide) k) ?_
      show own_Go p.tables e below s _ _ _ (T3.setTop (mkF m 36 #[.val (.ref p0)] [(.int (1 : Int32))]))
      have hz : own_act m1 n1 a1 b1 = (1 : Int32) := by
        try simp only [lw_lt, lw_gt, lw_eq] at hc6_2 hc14_5
        simp only [own_lt, own_eq, own_ltL, own_lits.1, own_lits.2.1, own_lits.2.2.1, own_lits.2.2.2.1, own_lits.2.2.2.2] at hc6_2 hc14_5
        exact own_act1 (by first | omega | (have := own_lits; omega))
      exact own_retZ X3 hx hlk Bd.returns (hb hby d4_36) (by decide) (by decide) ⟨by rw [hz]; rfl, N0, e3⟩
    · refine own_by (fun _ k => XS.ifNo X3.here hx rfl (hb hby d4_14) rfl ((if0 _ _).trans (flt hc14_5).2.2.1) k) ?_
      show own_Go p.tables e below s _ _ _ (T3.setTop (mkF m 17 #[.val (.ref p0)] []))
      refine own_by (fun _ k => XS.aloadN X3.here hx rfl (hb hby d4_17) rfl rfl k) ?_
      show own_Go p.tables e below s _ _ _ (T3.setTop (mkF m 18 #[.val (.ref p0)] [(.ref p0)]))
      obtain ⟨T6, X6, e6, st6⟩ := getF X3 hx hZ hown (host := "") (Or.inl (hw _ (List.mem_of_getElem? (i := 21) rfl))) Via.refl e3 Faapplied (g := (mkF m 18 #[.val (.ref p0)] [(.ref p0)])) rfl rfl (hb hby d4_18)
      refine own_by st6 ?_
      show own_Go p.tables e below s _ _ _ (T6.setTop (mkF m 21 #[.val (.ref p0)] [(.int a1)]))
      by_cases hc21_7 : (0 : Int32) < a1
      · refine own_by (fun _ k => XS.ifYes X6.here hx rfl (pc0 := 21) (pc' := 31) rfl (hb hby d4_21) rfl ((if0 _ _).trans (tlt hc21_7).2.2.1) (by decide) (by decide) k) ?_
        show own_Go p.tables e below s _ _ _ (T6.setTop (mkF m 31 #[.val (.ref p0)] []))
        refine own_by (fun _ k => XS.iconst X6.here hx rfl (hb hby d4_31) k) ?_
        show own_Go p.tables e below s _ _ _ (T6.setTop (mkF m 32 #[.val (.ref p0)] [(.int (1 : Int32))]))
        refine own_by (fun _ k => XS.goto X6.here hx rfl (pc0 := 32) (pc' := 36) rfl (hb hby d4_32) (by decide) (by decide) k) ?_
        show own_Go p.tables e below s _ _ _ (T6.setTop (mkF m 36 #[.val (.ref p0)] [(.int (1 : Int32))]))
        have hz : own_act m1 n1 a1 b1 = (1 : Int32) := by
          try simp only [lw_lt, lw_gt, lw_eq] at hc6_2 hc14_5 hc21_7
          simp only [own_lt, own_eq, own_ltL, own_lits.1, own_lits.2.1, own_lits.2.2.1, own_lits.2.2.2.1, own_lits.2.2.2.2] at hc6_2 hc14_5 hc21_7
          exact own_act1 (by first | omega | (have := own_lits; omega))
        exact own_retZ X6 hx hlk Bd.returns (hb hby d4_36) (by decide) (by decide) ⟨by rw [hz]; rfl, N0, e6⟩
      · refine own_by (fun _ k => XS.ifNo X6.here hx rfl (hb hby d4_21) rfl ((if0 _ _).trans (flt hc21_7).2.2.1) k) ?_
        show own_Go p.tables e below s _ _ _ (T6.setTop (mkF m 24 #[.val (.ref p0)] []))
        refine own_by (fun _ k => XS.aloadN X6.here hx rfl (hb hby d4_24) rfl rfl k) ?_
        show own_Go p.tables e below s _ _ _ (T6.setTop (mkF m 25 #[.val (.ref p0)] [(.ref p0)]))
        obtain ⟨T8, X8, e8, st8⟩ := getF X6 hx hZ hown (host := "") (Or.inl (hw _ (List.mem_of_getElem? (i := 23) rfl))) Via.refl e6 Faarrived (g := (mkF m 25 #[.val (.ref p0)] [(.ref p0)])) rfl rfl (hb hby d4_25)
        refine own_by st8 ?_
        show own_Go p.tables e below s _ _ _ (T8.setTop (mkF m 28 #[.val (.ref p0)] [(.int b1)]))
        by_cases hc28_9 : (0 : Int32) < b1
        · refine own_by (fun _ k => XS.ifNo X8.here hx rfl (hb hby d4_28) rfl ((if0 _ _).trans (tlt hc28_9).2.2.2) k) ?_
          show own_Go p.tables e below s _ _ _ (T8.setTop (mkF m 31 #[.val (.ref p0)] []))
          refine own_by (fun _ k => XS.iconst X8.here hx rfl (hb hby d4_31) k) ?_
          show own_Go p.tables e below s _ _ _ (T8.setTop (mkF m 32 #[.val (.ref p0)] [(.int (1 : Int32))]))
          refine own_by (fun _ k => XS.goto X8.here hx rfl (pc0 := 32) (pc' := 36) rfl (hb hby d4_32) (by decide) (by decide) k) ?_
          show own_Go p.tables e below s _ _ _ (T8.setTop (mkF m 36 #[.val (.ref p0)] [(.int (1 : Int32))]))
          have hz : own_act m1 n1 a1 b1 = (1 : Int32) := by
            try simp only [lw_lt, lw_gt, lw_eq] at hc6_2 hc14_5 hc21_7 hc28_9
            simp only [own_lt, own_eq, own_ltL, own_lits.1, own_lits.2.1, own_lits.2.2.1, own_lits.2.2.2.1, own_lits.2.2.2.2] at hc6_2 hc14_5 hc21_7 hc28_9
            exact own_act1 (by first | omega | (have := own_lits; omega))
          exact own_retZ X8 hx hlk Bd.returns (hb hby d4_36) (by decide) (by decide) ⟨by rw [hz]; rfl, N0, e8⟩
        · refine own_by (fun _ k => XS.ifYes X8.here hx rfl (pc0 := 28) (pc' := 35) rfl (hb hby d4_28) rfl ((if0 _ _).trans (flt hc28_9).2.2.2) (by decide) (by decide) k) ?_
          show own_Go p.tables e below s _ _ _ (T8.setTop (mkF m 35 #[.val (.ref p0)] []))
          refine own_by (fun _ k => XS.iconst X8.here hx rfl (hb hby d4_35) k) ?_
          show own_Go p.tables e below s _ _ _ (T8.setTop (mkF m 36 #[.val (.ref p0)] [(.int (0 : Int32))]))
          have hz : own_act m1 n1 a1 b1 = (0 : Int32) := by
            try simp only [lw_lt, lw_gt, lw_eq] at hc6_2 hc14_5 hc21_7 hc28_9
            simp only [own_lt, own_eq, own_ltL, own_lits.1, own_lits.2.1, own_lits.2.2.1, own_lits.2.2.2.1, own_lits.2.2.2.2] at hc6_2 hc14_5 hc21_7 hc28_9
            exact own_act0 (by first | omega | (have := own_lits; omega))
          exact own_retZ X8 hx hlk Bd.returns (hb hby d4_36) (by decide) (by decide) ⟨by rw [hz]; rfl, N0, e8⟩

theorem pf_0 : plainFor x = true := by first | exact plainFor_of_name (by first | (simp [plainName, overriddenIn]; done) | decide +kernel) | decide +kernel
theorem pd_0 : parseMethodDescriptor "(JIIIII)Z" = some ⟨[.long, .int, .int, .int, .int, .int], some .boolean⟩ := by decide +kernel
theorem ef_0 (m : MethodId) (p0 : Int64) (p1 : Int32) (p2 : Int32) (p3 : Int32) (p4 : Int32) (p5 : Int32) : entryFrame m #[(.long p0), (.int p1), (.int p2), (.int p3), (.int p4), (.int p5)] maxLocals = mkF m 0 #[.val (.long p0), .second, .val (.int p1), .val (.int p2), .val (.int p3), .val (.int p4), .val (.int p5), .unset, .unset, .unset, .unset, .unset, .unset] [] := by first | (simp [entryFrame, mkF, argsToLocals, Value.category, maxLocals]; done) | rfl
def Q0 (p0 : Int64) (p1 : Int32) (p2 : Int32) (p3 : Int32) (p4 : Int32) (p5 : Int32) (h0 : Heap) (n0 : Nat) (v : Option Value) (h : Heap) (L : List Loc) : Prop := v = some (.int 1) ∧ Fr n0 L
set_option maxRecDepth 65536 in
set_option maxHeartbeats 40000000 in
theorem rm0 (l : Launch) (Z : State) (a0 : Array Value) (hw : ∀ d ∈ tables_1, d.before a0 Z = true) (ws : List Jvm.Cond) (p0 : Int64) (p1 : Int32) (p2 : Int32) (p3 : Int32) (p4 : Int32) (p5 : Int32) (h0 : Heap) (n0 : Nat) (Z0 : n0 ≤ h0.size)  :
    own_Met l Z x code maxLocals ret ws room_1 #[(.long p0), (.int p1), (.int p2), (.int p3), (.int p4), (.int p5)] h0 (Q0 p0 p1 p2 p3 p4 p5 h0 n0) := by
  refine MetFree.of_bodySF pf_0 hisR ?_
  intro p e s m args below meth c s₁ Bd hml0 hP hK
  obtain ⟨rfl, hZ, hh⟩ := hP
  have hx := Bd.exec
  have hby := Bd.bytes
  have hlk : meth.locks = false := BodyLoose.notSynchronized Bd
  have hml : c.maxLocals = 13 := hml0
  have hown : s.vm.findClass "cyclebreak/cluster/StatusActivePinLaw" = some m.cls := findClass_of_methodNamed Bd.named
  have hnm := (name_of_methodNamed Bd.named Bd.method).1
  have X0 : Stand p l e room_1 s m #[(.long p0), (.int p1), (.int p2), (.int p3), (.int p4), (.int p5)] below meth c s₁ [] 0 0 := Stand.of_body Bd
  have e0 : s₁.heap = h0 := by rw [← hh, Bd.state]; rfl
  have N0 := Fr.nil n0
  show own_Go p.tables e below s (Q0 p0 p1 p2 p3 p4 p5 h0 n0) room_1.cells room_1.slots _
  refine own_by (fun _ k => castTop (ef_0 m p0 p1 p2 p3 p4 p5) k) ?_
  show own_Go p.tables e below s _ _ _ (s₁.setTop (mkF m 0 #[.val (.long p0), .second, .val (.int p1), .val (.int p2), .val (.int p3), .val (.int p4), .val (.int p5), .unset, .unset, .unset, .unset, .unset, .unset] []))
  have j12 : ∀ zs : Int32, own_Go p.tables e below s (Q0 p0 p1 p2 p3 p4 p5 h0 n0) room_1.cells room_1.slots (s₁.setTop (mkF m 12 #[.val (.long p0), .second, .val (.int p1), .val (.int p2), .val (.int p3), .val (.int p4), .val (.int p5), .unset, .unset, .unset, .unset, .unset, .unset] [(.int zs)])) := by
    intro zs
    refine own_by (fun _ k => XS.istore X0.here hx rfl (hb hby at_12) rfl (l' := #[.val (.long p0), .second, .val (.int p1), .val (.int p2), .val (.int p3), .val (.int p4), .val (.int p5), .val (.int zs), .unset, .unset, .unset, .unset, .unset]) rfl k) ?_
    show own_Go p.tables e below s _ _ _ (s₁.setTop (mkF m 14 #[.val (.long p0), .second, .val (.int p1), .val (.int p2), .val (.int p3), .val (.int p4), .val (.int p5), .val (.int zs), .unset, .unset, .unset, .unset, .unset] []))
    refine own_by (fun _ k => XS.iload X0.here hx rfl (hb hby at_14) rfl k) ?_
    show own_Go p.tables e below s _ _ _ (s₁.setTop (mkF m 16 #[.val (.long p0), .second, .val (.int p1), .val (.int p2), .val (.int p3), .val (.int p4), .val (.int p5), .val (.int zs), .unset, .unset, .unset, .unset, .unset] [(.int p4)]))
    refine own_by (fun _ k => XS.iconst X0.here hx rfl (hb hby at_16) k) ?_
    show own_Go p.tables e below s _ _ _ (s₁.setTop (mkF m 17 #[.val (.long p0), .second, .val (.int p1), .val (.int p2), .val (.int p3), .val (.int p4), .val (.int p5), .val (.int zs), .unset, .unset, .unset, .unset, .unset] [(.int (2 : Int32)), (.int p4)]))
    refine own_by (fun _ k => XS.iand X0.here hx rfl (hb hby at_17) rfl k) ?_
    show own_Go p.tables e below s _ _ _ (s₁.setTop (mkF m 18 #[.val (.long p0), .second, .val (.int p1), .val (.int p2), .val (.int p3), .val (.int p4), .val (.int p5), .val (.int zs), .unset, .unset, .unset, .unset, .unset] [(.int (p4 &&& (2 : Int32)))]))
    by_cases hc18_1 : (p4 &&& (2 : Int32)) = (0 : Int32)
    · refine own_by (fun _ k => XS.ifYes X0.here hx rfl (pc0 := 18) (pc' := 25) rfl (hb hby at_18) rfl ((if0 _ _).trans (teq hc18_1).1) (by decide) (by decide) k) ?_
      show own_Go p.tables e below s _ _ _ (s₁.setTop (mkF m 25 #[.val (.long p0), .second, .val (.int p1), .val (.int p2), .val (.int p3), .val (.int p4), .val (.int p5), .val (.int zs), .unset, .unset, .unset, .unset, .unset] []))
      refine own_by (fun _ k => XS.iconst X0.here hx rfl (hb hby at_25) k) ?_
      show own_Go p.tables e below s _ _ _ (s₁.setTop (mkF m 26 #[.val (.long p0), .second, .val (.int p1), .val (.int p2), .val (.int p3), .val (.int p4), .val (.int p5), .val (.int zs), .unset, .unset, .unset, .unset, .unset] [(.int (0 : Int32))]))
      refine own_by (fun _ k => XS.istore X0.here hx rfl (hb hby at_26) rfl (l' := #[.val (.long p0), .second, .val (.int p1), .val (.int p2), .val (.int p3), .val (.int p4), .val (.int p5), .val (.int zs), .val (.int (0 : Int32)), .unset, .unset, .unset, .unset]) rfl k) ?_
      show own_Go p.tables e below s _ _ _ (s₁.setTop (mkF m 28 #[.val (.long p0), .second, .val (.int p1), .val (.int p2), .val (.int p3), .val (.int p4), .val (.int p5), .val (.int zs), .val (.int (0 : Int32)), .unset, .unset, .unset, .unset] []))
      refine own_by (fun _ k => XS.iload X0.here hx rfl (hb hby at_28) rfl k) ?_
      show own_Go p.tables e below s _ _ _ (s₁.setTop (mkF m 30 #[.val (.long p0), .second, .val (.int p1), .val (.int p2), .val (.int p3), .val (.int p4), .val (.int p5), .val (.int zs), .val (.int (0 : Int32)), .unset, .unset, .unset, .unset] [(.int (0 : Int32))]))
      refine own_by (fun _ k => XS.ifYes X0.here hx rfl (pc0 := 30) (pc' := 48) rfl (hb hby at_30) rfl ((if0 _ _).trans (teq (by decide : ((0 : Int32) = (0 : Int32)))).1) (by decide) (by decide) k) ?_
      show own_Go p.tables e below s _ _ _ (s₁.setTop (mkF m 48 #[.val (.long p0), .second, .val (.int p1), .val (.int p2), .val (.int p3), .val (.int p4), .val (.int p5), .val (.int zs), .val (.int (0 : Int32)), .unset, .unset, .unset, .unset] []))
      refine own_by (fun _ k => XS.iconst X0.here hx rfl (hb hby at_48) k) ?_
      show own_Go p.tables e below s _ _ _ (s₁.setTop (mkF m 49 #[.val (.long p0), .second, .val (.int p1), .val (.int p2), .val (.int p3), .val (.int p4), .val (.int p5), .val (.int zs), .val (.int (0 : Int32)), .unset, .unset, .unset, .unset] [(.int (0 : Int32))]))
      obtain ⟨T2, h2, k2, X2, e2, E2, A2, st2⟩ := newP X0 hx hZ (hw _ (List.mem_of_getElem? (i := 0) rfl)) e0 (g := (mkF m 49 #[.val (.long p0), .second, .val (.int p1), .val (.int p2), .val (.int p3), .val (.int p4), .val (.int p5), .val (.int zs), .val (.int (0 : Int32)), .unset, .unset, .unset, .unset] [(.int (0 : Int32))])) rfl (hb hby at_49) rfl (by decide) (cap := 0) (by decide) (by decide) (by decide) (by decide)
      obtain ⟨b2, g2⟩ : ∃ z, z = h0.size := ⟨_, rfl⟩
      rw [← g2] at A2 st2
      have ge_b2 : n0 ≤ b2 := Nat.le_trans Z0 (Nat.le_of_eq g2.symm)
      have Z2 : n0 ≤ h2.size := Nat.le_trans Z0 E2.1
      have V2 : Arv Z h2 b2 k2 .int (0 : Int32) [] (.int (0 : Int32)) := (Arv.new A2 (by decide)).pad (fun i => pad_rep [] _ 0 i)
      refine own_by st2 ?_
      show own_Go p.tables e below s _ _ _ (T2.setTop (mkF m 51 #[.val (.long p0), .second, .val (.int p1), .val (.int p2), .val (.int p3), .val (.int p4), .val (.int p5), .val (.int zs), .val (.int (0 : Int32)), .unset, .unset, .unset, .unset] [(.ref b2)]))
      refine own_by (fun _ k => XS.astore X2.here hx rfl (hb hby at_51) rfl rfl (l' := #[.val (.long p0), .second, .val (.int p1), .val (.int p2), .val (.int p3), .val (.int p4), .val (.int p5), .val (.int zs), .val (.int (0 : Int32)), .val (.ref b2), .unset, .unset, .unset]) rfl k) ?_
      show own_Go p.tables e below s _ _ _ (T2.setTop (mkF m 53 #[.val (.long p0), .second, .val (.int p1), .val (.int p2), .val (.int p3), .val (.int p4), .val (.int p5), .val (.int zs), .val (.int (0 : Int32)), .val (.ref b2), .unset, .unset, .unset] []))
      obtain ⟨T3, h3, X3, e3, E3, A3, D3, -, st3⟩ := newO X2 hx hZ hown (hw _ (List.mem_of_getElem? (i := 1) rfl)) (hw _ (List.mem_of_getElem? (i := 2) rfl)) (hw _ (List.mem_of_getElem? (i := 3) rfl)) e2 (g := (mkF m 53 #[.val (.long p0), .second, .val (.int p1), .val (.int p2), .val (.int p3), .val (.int p4), .val (.int p5), .val (.int zs), .val (.int (0 : Int32)), .val (.ref b2), .unset, .unset, .unset] [])) rfl (hb hby at_53) (by decide) (by decide)
      obtain ⟨b3, g3⟩ : ∃ z, z = h2.size := ⟨_, rfl⟩
      rw [← g3] at A3 D3 st3
      have ge_b3 : n0 ≤ b3 := Nat.le_trans Z2 (Nat.le_of_eq g3.symm)
      have ne_b2_b3 : b2 ≠ b3 := by rw [g3]; exact Nat.ne_of_lt V2.lt
      have Z3 : n0 ≤ h3.size := Nat.le_trans Z2 E3.1
      have V2_h3 := V2.ext E3
      have F3_messages : Fld Z h3 b3 "cyclebreak/cluster/Control$Status" "messages" "J" (.long (0 : Int64)) := D3 (Or.inr (hw _ (List.mem_of_getElem? (i := 16) rfl))) (ty := .long) (by decide)
      have F3_reclaimed : Fld Z h3 b3 "cyclebreak/cluster/Control$Status" "reclaimed" "[I" .null := D3 (Or.inr (hw _ (List.mem_of_getElem? (i := 18) rfl))) (ty := (.array .int)) (by decide)
      have F3_freed : Fld Z h3 b3 "cyclebreak/cluster/Control$Status" "freed" "I" (.int (0 : Int32)) := D3 (Or.inr (hw _ (List.mem_of_getElem? (i := 20) rfl))) (ty := .int) (by decide)
      have F3_applied : Fld Z h3 b3 "cyclebreak/cluster/Control$Status" "applied" "I" (.int (0 : Int32)) := D3 (Or.inr (hw _ (List.mem_of_getElem? (i := 22) rfl))) (ty := .int) (by decide)
      have F3_arrived : Fld Z h3 b3 "cyclebreak/cluster/Control$Status" "arrived" "I" (.int (0 : Int32)) := D3 (Or.inr (hw _ (List.mem_of_getElem? (i := 24) rfl))) (ty := .int) (by decide)
      have F3_settled : Fld Z h3 b3 "cyclebreak/cluster/Control$Status" "settled" "Z" (.int (0 : Int32)) := D3 (Or.inr (hw _ (List.mem_of_getElem? (i := 26) rfl))) (ty := .boolean) (by decide)
      refine own_by st3 ?_
      show own_Go p.tables e below s _ _ _ (T3.setTop (mkF m 56 #[.val (.long p0), .second, .val (.int p1), .val (.int p2), .val (.int p3), .val (.int p4), .val (.int p5), .val (.int zs), .val (.int (0 : Int32)), .val (.ref b2), .unset, .unset, .unset] [(.ref b3)]))
      refine own_by (fun _ k => XS.dup X3.here hx rfl (hb hby at_56) rfl rfl k) ?_
      show own_Go p.tables e below s _ _ _ (T3.setTop (mkF m 57 #[.val (.long p0), .second, .val (.int p1), .val (.int p2), .val (.int p3), .val (.int p4), .val (.int p5), .val (.int zs), .val (.int (0 : Int32)), .val (.ref b2), .unset, .unset, .unset] [(.ref b3), (.ref b3)]))
      refine own_by (fun _ k => XS.lloadN X3.here hx rfl (hb hby at_57) rfl k) ?_
      show own_Go p.tables e below s _ _ _ (T3.setTop (mkF m 58 #[.val (.long p0), .second, .val (.int p1), .val (.int p2), .val (.int p3), .val (.int p4), .val (.int p5), .val (.int zs), .val (.int (0 : Int32)), .val (.ref b2), .unset, .unset, .unset] [(.long p0), (.ref b3), (.ref b3)]))
      refine own_by (fun _ k => XS.aload X3.here hx rfl (hb hby at_58) rfl rfl k) ?_
      show own_Go p.tables e below s _ _ _ (T3.setTop (mkF m 60 #[.val (.long p0), .second, .val (.int p1), .val (.int p2), .val (.int p3), .val (.int p4), .val (.int p5), .val (.int zs), .val (.int (0 : Int32)), .val (.ref b2), .unset, .unset, .unset] [(.ref b2), (.long p0), (.ref b3), (.ref b3)]))
      refine own_by (fun _ k => XS.iloadN X3.here hx rfl (hb hby at_60) rfl k) ?_
      show own_Go p.tables e below s _ _ _ (T3.setTop (mkF m 61 #[.val (.long p0), .second, .val (.int p1), .val (.int p2), .val (.int p3), .val (.int p4), .val (.int p5), .val (.int zs), .val (.int (0 : Int32)), .val (.ref b2), .unset, .unset, .unset] [(.int p1), (.ref b2), (.long p0), (.ref b3), (.ref b3)]))
      refine own_by (fun _ k => XS.iloadN X3.here hx rfl (hb hby at_61) rfl k) ?_
      show own_Go p.tables e below s _ _ _ (T3.setTop (mkF m 62 #[.val (.long p0), .second, .val (.int p1), .val (.int p2), .val (.int p3), .val (.int p4), .val (.int p5), .val (.int zs), .val (.int (0 : Int32)), .val (.ref b2), .unset, .unset, .unset] [(.int p2), (.int p1), (.ref b2), (.long p0), (.ref b3), (.ref b3)]))
      refine own_by (fun _ k => XS.iload X3.here hx rfl (hb hby at_62) rfl k) ?_
      show own_Go p.tables e below s _ _ _ (T3.setTop (mkF m 64 #[.val (.long p0), .second, .val (.int p1), .val (.int p2), .val (.int p3), .val (.int p4), .val (.int p5), .val (.int zs), .val (.int (0 : Int32)), .val (.ref b2), .unset, .unset, .unset] [(.int p3), (.int p2), (.int p1), (.ref b2), (.long p0), (.ref b3), (.ref b3)]))
      refine own_by (fun _ k => XS.iload X3.here hx rfl (hb hby at_64) rfl k) ?_
      show own_Go p.tables e below s _ _ _ (T3.setTop (mkF m 66 #[.val (.long p0), .second, .val (.int p1), .val (.int p2), .val (.int p3), .val (.int p4), .val (.int p5), .val (.int zs), .val (.int (0 : Int32)), .val (.ref b2), .unset, .unset, .unset] [(.int zs), (.int p3), (.int p2), (.int p1), (.ref b2), (.long p0), (.ref b3), (.ref b3)]))
      obtain ⟨v4, T4, L4, X4, q4, st4⟩ := own_callI X3 hx hZ rfl hown (hw _ (List.mem_of_getElem? (i := 4) rfl)) (hw _ (List.mem_of_getElem? (i := 5) rfl)) (hw _ (List.mem_of_getElem? (i := 3) rfl)) (hw _ (List.mem_of_getElem? (i := 6) rfl)) (by decide) (rm1 l Z a0 hw [] b3 p0 b2 p1 p2 p3 zs h3 n0 Z3 A3 F3_messages F3_reclaimed F3_freed F3_applied F3_arrived F3_settled ge_b3) (W := 1) (by decide) (by decide) e3 (g := (mkF m 66 #[.val (.long p0), .second, .val (.int p1), .val (.int p2), .val (.int p3), .val (.int p4), .val (.int p5), .val (.int zs), .val (.int (0 : Int32)), .val (.ref b2), .unset, .unset, .unset] [(.int zs), (.int p3), (.int p2), (.int p1), (.ref b2), (.long p0), (.ref b3), (.ref b3)])) rfl (by rw [hml]; rfl) (a := b3) (argsL := [(.long p0), (.ref b2), (.int p1), (.int p2), (.int p3), (.int zs)]) (rest := [(.ref b3)]) (lenOf pd_1 rfl) rfl rfl (by show 2 * 0 + _ ≤ _; exact Nat.le_of_eq rfl) (hb hby at_66) (by decide) (by decide)
      obtain ⟨rfl, Nq4, Kq4, Fm4, Fr4, Fp4, Fv4⟩ := q4
      have N4 := Fr.app N0 Nq4
      have Z4 : n0 ≤ T4.heap.size := Nat.le_trans Z3 Kq4.1
      have V2_h4 := V2_h3.keep Kq4 (ninS ne_b2_b3 nin0)
      have A3_h4 := A3.keep Kq4
      refine own_by st4 ?_
      show own_Go p.tables e below s _ _ _ (T4.setTop (mkF m 69 #[.val (.long p0), .second, .val (.int p1), .val (.int p2), .val (.int p3), .val (.int p4), .val (.int p5), .val (.int zs), .val (.int (0 : Int32)), .val (.ref b2), .unset, .unset, .unset] [(.ref b3)]))
      refine own_by (fun _ k => XS.astore X4.here hx rfl (hb hby at_69) rfl rfl (l' := #[.val (.long p0), .second, .val (.int p1), .val (.int p2), .val (.int p3), .val (.int p4), .val (.int p5), .val (.int zs), .val (.int (0 : Int32)), .val (.ref b2), .val (.ref b3), .unset, .unset]) rfl k) ?_
      show own_Go p.tables e below s _ _ _ (T4.setTop (mkF m 71 #[.val (.long p0), .second, .val (.int p1), .val (.int p2), .val (.int p3), .val (.int p4), .val (.int p5), .val (.int zs), .val (.int (0 : Int32)), .val (.ref b2), .val (.ref b3), .unset, .unset] []))
      refine own_by (fun _ k => XS.aload X4.here hx rfl (hb hby at_71) rfl rfl k) ?_
      show own_Go p.tables e below s _ _ _ (T4.setTop (mkF m 73 #[.val (.long p0), .second, .val (.int p1), .val (.int p2), .val (.int p3), .val (.int p4), .val (.int p5), .val (.int zs), .val (.int (0 : Int32)), .val (.ref b2), .val (.ref b3), .unset, .unset] [(.ref b3)]))
      obtain ⟨v5, T5, L5, X5, q5, st5⟩ := own_callV X4 hx hZ hown (hw _ (List.mem_of_getElem? (i := 27) rfl)) (hw _ (List.mem_of_getElem? (i := 28) rfl)) (hw _ (List.mem_of_getElem? (i := 30) rfl)) (hw _ (List.mem_of_getElem? (i := 29) rfl)) (hw _ (List.mem_of_getElem? (i := 3) rfl)) (hw _ (List.mem_of_getElem? (i := 31) rfl)) (by decide) (rm4 l Z a0 hw [] b3 T4.heap n0 Z4 p0 b2 (0 : Int32) p2 p3 k2 _ Fm4 Fr4 Fp4 Fv4 V2_h4) (W := 0) (by decide) (by decide) rfl A3_h4 (g := (mkF m 73 #[.val (.long p0), .second, .val (.int p1), .val (.int p2), .val (.int p3), .val (.int p4), .val (.int p5), .val (.int zs), .val (.int (0 : Int32)), .val (.ref b2), .val (.ref b3), .unset, .unset] [(.ref b3)])) rfl (by rw [hml]; rfl) (argsL := []) (rest := []) (lenOf pd_4 rfl) rfl rfl (by show 2 * 0 + _ ≤ _; exact Nat.le_of_eq rfl) (hb hby at_73) (by decide) (by decide)
      obtain ⟨rfl, Nq5, hh5⟩ := q5
      have N5 := Fr.app N4 Nq5
      refine own_by st5 ?_
      show own_Go p.tables e below s _ _ _ (T5.setTop (mkF m 76 #[.val (.long p0), .second, .val (.int p1), .val (.int p2), .val (.int p3), .val (.int p4), .val (.int p5), .val (.int zs), .val (.int (0 : Int32)), .val (.ref b2), .val (.ref b3), .unset, .unset] [(.int (own_act p0 (0 : Int32) p2 p3))]))
      refine own_by (fun _ k => XS.istore X5.here hx rfl (hb hby at_76) rfl (l' := #[.val (.long p0), .second, .val (.int p1), .val (.int p2), .val (.int p3), .val (.int p4), .val (.int p5), .val (.int zs), .val (.int (0 : Int32)), .val (.ref b2), .val (.ref b3), .val (.int (own_act p0 (0 : Int32) p2 p3)), .unset]) rfl k) ?_
      show own_Go p.tables e below s _ _ _ (T5.setTop (mkF m 78 #[.val (.long p0), .second, .val (.int p1), .val (.int p2), .val (.int p3), .val (.int p4), .val (.int p5), .val (.int zs), .val (.int (0 : Int32)), .val (.ref b2), .val (.ref b3), .val (.int (own_act p0 (0 : Int32) p2 p3)), .unset] []))
      refine own_by (fun _ k => XS.lloadN X5.here hx rfl (hb hby at_78) rfl k) ?_
      show own_Go p.tables e below s _ _ _ (T5.setTop (mkF m 79 #[.val (.long p0), .second, .val (.int p1), .val (.int p2), .val (.int p3), .val (.int p4), .val (.int p5), .val (.int zs), .val (.int (0 : Int32)), .val (.ref b2), .val (.ref b3), .val (.int (own_act p0 (0 : Int32) p2 p3)), .unset] [(.long p0)]))
      refine own_by (fun _ k => XS.lconst X5.here hx rfl (hb hby at_79) k) ?_
      show own_Go p.tables e below s _ _ _ (T5.setTop (mkF m 80 #[.val (.long p0), .second, .val (.int p1), .val (.int p2), .val (.int p3), .val (.int p4), .val (.int p5), .val (.int zs), .val (.int (0 : Int32)), .val (.ref b2), .val (.ref b3), .val (.int (own_act p0 (0 : Int32) p2 p3)), .unset] [(.long (1 : Int64)), (.long p0)]))
      refine own_by (fun _ k => XS.lcmp X5.here hx rfl (hb hby at_80) rfl k) ?_
      show own_Go p.tables e below s _ _ _ (T5.setTop (mkF m 81 #[.val (.long p0), .second, .val (.int p1), .val (.int p2), .val (.int p3), .val (.int p4), .val (.int p5), .val (.int zs), .val (.int (0 : Int32)), .val (.ref b2), .val (.ref b3), .val (.int (own_act p0 (0 : Int32) p2 p3)), .unset] [(.int (lcmpW p0 (1 : Int64)))]))
      by_cases hc81_6 : (lcmpW p0 (1 : Int64)) < (0 : Int32)
      · refine own_by (fun _ k => XS.ifYes X5.here hx rfl (pc0 := 81) (pc' := 90) rfl (hb hby at_81) rfl ((if0 _ _).trans (tlt hc81_6).1) (by decide) (by decide) k) ?_
        show own_Go p.tables e below s _ _ _ (T5.setTop (mkF m 90 #[.val (.long p0), .second, .val (.int p1), .val (.int p2), .val (.int p3), .val (.int p4), .val (.int p5), .val (.int zs), .val (.int (0 : Int32)), .val (.ref b2), .val (.ref b3), .val (.int (own_act p0 (0 : Int32) p2 p3)), .unset] []))
        refine own_by (fun _ k => XS.iload X5.here hx rfl (hb hby at_90) rfl k) ?_
        show own_Go p.tables e below s _ _ _ (T5.setTop (mkF m 92 #[.val (.long p0), .second, .val (.int p1), .val (.int p2), .val (.int p3), .val (.int p4), .val (.int p5), .val (.int zs), .val (.int (0 : Int32)), .val (.ref b2), .val (.ref b3), .val (.int (own_act p0 (0 : Int32) p2 p3)), .unset] [(.int (0 : Int32))]))
        refine own_by (fun _ k => XS.ifYes X5.here hx rfl (pc0 := 92) (pc' := 101) rfl (hb hby at_92) rfl ((if0 _ _).trans (teq (by decide : ((0 : Int32) = (0 : Int32)))).1) (by decide) (by decide) k) ?_
        show own_Go p.tables e below s _ _ _ (T5.setTop (mkF m 101 #[.val (.long p0), .second, .val (.int p1), .val (.int p2), .val (.int p3), .val (.int p4), .val (.int p5), .val (.int zs), .val (.int (0 : Int32)), .val (.ref b2), .val (.ref b3), .val (.int (own_act p0 (0 : Int32) p2 p3)), .unset] []))
        refine own_by (fun _ k => XS.iloadN X5.here hx rfl (hb hby at_101) rfl k) ?_
        show own_Go p.tables e below s _ _ _ (T5.setTop (mkF m 102 #[.val (.long p0), .second, .val (.int p1), .val (.int p2), .val (.int p3), .val (.int p4), .val (.int p5), .val (.int zs), .val (.int (0 : Int32)), .val (.ref b2), .val (.ref b3), .val (.int (own_act p0 (0 : Int32) p2 p3)), .unset] [(.int p2)]))
        refine own_by (fun _ k => XS.iconst X5.here hx rfl (hb hby at_102) k) ?_
        show own_Go p.tables e below s _ _ _ (T5.setTop (mkF m 103 #[.val (.long p0), .second, .val (.int p1), .val (.int p2), .val (.int p3), .val (.int p4), .val (.int p5), .val (.int zs), .val (.int (0 : Int32)), .val (.ref b2), .val (.ref b3), .val (.int (own_act p0 (0 : Int32) p2 p3)), .unset] [(.int (1 : Int32)), (.int p2)]))
        by_cases hc103_7 : p2 < (1 : Int32)
        · refine own_by (fun _ k => XS.icmpYes X5.here hx rfl (pc0 := 103) (pc' := 112) rfl (hb hby at_103) rfl (tlt hc103_7).1 (by decide) (by decide) k) ?_
          show own_Go p.tables e below s _ _ _ (T5.setTop (mkF m 112 #[.val (.long p0), .second, .val (.int p1), .val (.int p2), .val (.int p3), .val (.int p4), .val (.int p5), .val (.int zs), .val (.int (0 : Int32)), .val (.ref b2), .val (.ref b3), .val (.int (own_act p0 (0 : Int32) p2 p3)), .unset] []))
          refine own_by (fun _ k => XS.iload X5.here hx rfl (hb hby at_112) rfl k) ?_
          show own_Go p.tables e below s _ _ _ (T5.setTop (mkF m 114 #[.val (.long p0), .second, .val (.int p1), .val (.int p2), .val (.int p3), .val (.int p4), .val (.int p5), .val (.int zs), .val (.int (0 : Int32)), .val (.ref b2), .val (.ref b3), .val (.int (own_act p0 (0 : Int32) p2 p3)), .unset] [(.int p3)]))
          refine own_by (fun _ k => XS.iconst X5.here hx rfl (hb hby at_114) k) ?_
          show own_Go p.tables e below s _ _ _ (T5.setTop (mkF m 115 #[.val (.long p0), .second, .val (.int p1), .val (.int p2), .val (.int p3), .val (.int p4), .val (.int p5), .val (.int zs), .val (.int (0 : Int32)), .val (.ref b2), .val (.ref b3), .val (.int (own_act p0 (0 : Int32) p2 p3)), .unset] [(.int (1 : Int32)), (.int p3)]))
          by_cases hc115_8 : p3 < (1 : Int32)
          · refine own_by (fun _ k => XS.icmpYes X5.here hx rfl (pc0 := 115) (pc' := 124) rfl (hb hby at_115) rfl (tlt hc115_8).1 (by decide) (by decide) k) ?_
            show own_Go p.tables e below s _ _ _ (T5.setTop (mkF m 124 #[.val (.long p0), .second, .val (.int p1), .val (.int p2), .val (.int p3), .val (.int p4), .val (.int p5), .val (.int zs), .val (.int (0 : Int32)), .val (.ref b2), .val (.ref b3), .val (.int (own_act p0 (0 : Int32) p2 p3)), .unset] []))
            refine own_by (fun _ k => XS.iconst X5.here hx rfl (hb hby at_124) k) ?_
            show own_Go p.tables e below s _ _ _ (T5.setTop (mkF m 125 #[.val (.long p0), .second, .val (.int p1), .val (.int p2), .val (.int p3), .val (.int p4), .val (.int p5), .val (.int zs), .val (.int (0 : Int32)), .val (.ref b2), .val (.ref b3), .val (.int (own_act p0 (0 : Int32) p2 p3)), .unset] [(.int (0 : Int32))]))
            refine own_by (fun _ k => XS.istore X5.here hx rfl (hb hby at_125) rfl (l' := #[.val (.long p0), .second, .val (.int p1), .val (.int p2), .val (.int p3), .val (.int p4), .val (.int p5), .val (.int zs), .val (.int (0 : Int32)), .val (.ref b2), .val (.ref b3), .val (.int (own_act p0 (0 : Int32) p2 p3)), .val (.int (0 : Int32))]) rfl k) ?_
            show own_Go p.tables e below s _ _ _ (T5.setTop (mkF m 127 #[.val (.long p0), .second, .val (.int p1), .val (.int p2), .val (.int p3), .val (.int p4), .val (.int p5), .val (.int zs), .val (.int (0 : Int32)), .val (.ref b2), .val (.ref b3), .val (.int (own_act p0 (0 : Int32) p2 p3)), .val (.int (0 : Int32))] []))
            refine own_by (fun _ k => XS.iload X5.here hx rfl (hb hby at_127) rfl k) ?_
            show own_Go p.tables e below s _ _ _ (T5.setTop (mkF m 129 #[.val (.long p0), .second, .val (.int p1), .val (.int p2), .val (.int p3), .val (.int p4), .val (.int p5), .val (.int zs), .val (.int (0 : Int32)), .val (.ref b2), .val (.ref b3), .val (.int (own_act p0 (0 : Int32) p2 p3)), .val (.int (0 : Int32))] [(.int (own_act p0 (0 : Int32) p2 p3))]))
            refine own_by (fun _ k => XS.iload X5.here hx rfl (hb hby at_129) rfl k) ?_
            show own_Go p.tables e below s _ _ _ (T5.setTop (mkF m 131 #[.val (.long p0), .second, .val (.int p1), .val (.int p2), .val (.int p3), .val (.int p4), .val (.int p5), .val (.int zs), .val (.int (0 : Int32)), .val (.ref b2), .val (.ref b3), .val (.int (own_act p0 (0 : Int32) p2 p3)), .val (.int (0 : Int32))] [(.int (0 : Int32)), (.int (own_act p0 (0 : Int32) p2 p3))]))
            have hz : (own_act p0 (0 : Int32) p2 p3) = (0 : Int32) := by
              try simp only [lw_lt, lw_gt, lw_eq] at hc18_1 hc81_6 hc103_7 hc115_8
              simp only [own_lt, own_eq, own_ltL, own_lits.1, own_lits.2.1, own_lits.2.2.1, own_lits.2.2.2.1, own_lits.2.2.2.2] at hc18_1 hc81_6 hc103_7 hc115_8
              exact own_act0 (by first | omega | (have := own_lits; omega))
            refine own_by (fun _ k => XS.icmpNo X5.here hx rfl (hb hby at_131) rfl (teq hz).2 k) ?_
            show own_Go p.tables e below s _ _ _ (T5.setTop (mkF m 134 #[.val (.long p0), .second, .val (.int p1), .val (.int p2), .val (.int p3), .val (.int p4), .val (.int p5), .val (.int zs), .val (.int (0 : Int32)), .val (.ref b2), .val (.ref b3), .val (.int (own_act p0 (0 : Int32) p2 p3)), .val (.int (0 : Int32))] []))
            refine own_by (fun _ k => XS.iconst X5.here hx rfl (hb hby at_134) k) ?_
            show own_Go p.tables e below s _ _ _ (T5.setTop (mkF m 135 #[.val (.long p0), .second, .val (.int p1), .val (.int p2), .val (.int p3), .val (.int p4), .val (.int p5), .val (.int zs), .val (.int (0 : Int32)), .val (.ref b2), .val (.ref b3), .val (.int (own_act p0 (0 : Int32) p2 p3)), .val (.int (0 : Int32))] [(.int (1 : Int32))]))
            refine own_by (fun _ k => XS.goto X5.here hx rfl (pc0 := 135) (pc' := 139) rfl (hb hby at_135) (by decide) (by decide) k) ?_
            show own_Go p.tables e below s _ _ _ (T5.setTop (mkF m 139 #[.val (.long p0), .second, .val (.int p1), .val (.int p2), .val (.int p3), .val (.int p4), .val (.int p5), .val (.int zs), .val (.int (0 : Int32)), .val (.ref b2), .val (.ref b3), .val (.int (own_act p0 (0 : Int32) p2 p3)), .val (.int (0 : Int32))] [(.int (1 : Int32))]))
            exact own_retZ X5 hx hlk Bd.returns (hb hby at_139) (by decide) (by decide) ⟨rfl, N5⟩
          · refine own_by (fun _ k => XS.icmpNo X5.here hx rfl (hb hby at_115) rfl (flt hc115_8).1 k) ?_
            show own_Go p.tables e below s _ _ _ (T5.setTop (mkF m 118 #[.val (.long p0), .second, .val (.int p1), .val (.int p2), .val (.int p3), .val (.int p4), .val (.int p5), .val (.int zs), .val (.int (0 : Int32)), .val (.ref b2), .val (.ref b3), .val (.int (own_act p0 (0 : Int32) p2 p3)), .unset] []))
            refine own_by (fun _ k => XS.iconst X5.here hx rfl (hb hby at_118) k) ?_
            show own_Go p.tables e below s _ _ _ (T5.setTop (mkF m 119 #[.val (.long p0), .second, .val (.int p1), .val (.int p2), .val (.int p3), .val (.int p4), .val (.int p5), .val (.int zs), .val (.int (0 : Int32)), .val (.ref b2), .val (.ref b3), .val (.int (own_act p0 (0 : Int32) p2 p3)), .unset] [(.int (1 : Int32))]))
            refine own_by (fun _ k => XS.istore X5.here hx rfl (hb hby at_119) rfl (l' := #[.val (.long p0), .second, .val (.int p1), .val (.int p2), .val (.int p3), .val (.int p4), .val (.int p5), .val (.int zs), .val (.int (0 : Int32)), .val (.ref b2), .val (.ref b3), .val (.int (own_act p0 (0 : Int32) p2 p3)), .val (.int (1 : Int32))]) rfl k) ?_
            show own_Go p.tables e below s _ _ _ (T5.setTop (mkF m 121 #[.val (.long p0), .second, .val (.int p1), .val (.int p2), .val (.int p3), .val (.int p4), .val (.int p5), .val (.int zs), .val (.int (0 : Int32)), .val (.ref b2), .val (.ref b3), .val (.int (own_act p0 (0 : Int32) p2 p3)), .val (.int (1 : Int32))] []))
            refine own_by (fun _ k => XS.goto X5.here hx rfl (pc0 := 121) (pc' := 127) rfl (hb hby at_121) (by decide) (by decide) k) ?_
            show own_Go p.tables e below s _ _ _ (T5.setTop (mkF m 127 #[.val (.long p0), .second, .val (.int p1), .val (.int p2), .val (.int p3), .val (.int p4), .val (.int p5), .val (.int zs), .val (.int (0 : Int32)), .val (.ref b2), .val (.ref b3), .val (.int (own_act p0 (0 : Int32) p2 p3)), .val (.int (1 : Int32))] []))
            refine own_by (fun _ k => XS.iload X5.here hx rfl (hb hby at_127) rfl k) ?_
            show own_Go p.tables e below s _ _ _ (T5.setTop (mkF m 129 #[.val (.long p0), .second, .val (.int p1), .val (.int p2), .val (.int p3), .val (.int p4), .val (.int p5), .val (.int zs), .val (.int (0 : Int32)), .val (.ref b2), .val (.ref b3), .val (.int (own_act p0 (0 : Int32) p2 p3)), .val (.int (1 : Int32))] [(.int (own_act p0 (0 : Int32) p2 p3))]))
            refine own_by (fun _ k => XS.iload X5.here hx rfl (hb hby at_129) rfl k) ?_
            show own_Go p.tables e below s _ _ _ (T5.setTop (mkF m 131 #[.val (.long p0), .second, .val (.int p1), .val (.int p2), .val (.int p3), .val (.int p4), .val (.int p5), .val (.int zs), .val (.int (0 : Int32)), .val (.ref b2), .val (.ref b3), .val (.int (own_act p0 (0 : Int32) p2 p3)), .val (.int (1 : Int32))] [(.int (1 : Int32)), (.int (own_act p0 (0 : Int32) p2 p3))]))
            have hz : (own_act p0 (0 : Int32) p2 p3) = (1 : Int32) := by
              try simp only [lw_lt, lw_gt, lw_eq] at hc18_1 hc81_6 hc103_7 hc115_8
              simp only [own_lt, own_eq, own_ltL, own_lits.1, own_lits.2.1, own_lits.2.2.1, own_lits.2.2.2.1, own_lits.2.2.2.2] at hc18_1 hc81_6 hc103_7 hc115_8
              exact own_act1 (by first | omega | (have := own_lits; omega))
            refine own_by (fun _ k => XS.icmpNo X5.here hx rfl (hb hby at_131) rfl (teq hz).2 k) ?_
            show own_Go p.tables e below s _ _ _ (T5.setTop (mkF m 134 #[.val (.long p0), .second, .val (.int p1), .val (.int p2), .val (.int p3), .val (.int p4), .val (.int p5), .val (.int zs), .val (.int (0 : Int32)), .val (.ref b2), .val (.ref b3), .val (.int (own_act p0 (0 : Int32) p2 p3)), .val (.int (1 : Int32))] []))
            refine own_by (fun _ k => XS.iconst X5.here hx rfl (hb hby at_134) k) ?_
            show own_Go p.tables e below s _ _ _ (T5.setTop (mkF m 135 #[.val (.long p0), .second, .val (.int p1), .val (.int p2), .val (.int p3), .val (.int p4), .val (.int p5), .val (.int zs), .val (.int (0 : Int32)), .val (.ref b2), .val (.ref b3), .val (.int (own_act p0 (0 : Int32) p2 p3)), .val (.int (1 : Int32))] [(.int (1 : Int32))]))
            refine own_by (fun _ k => XS.goto X5.here hx rfl (pc0 := 135) (pc' := 139) rfl (hb hby at_135) (by decide) (by decide) k) ?_
            show own_Go p.tables e below s _ _ _ (T5.setTop (mkF m 139 #[.val (.long p0), .second, .val (.int p1), .val (.int p2), .val (.int p3), .val (.int p4), .val (.int p5), .val (.int zs), .val (.int (0 : Int32)), .val (.ref b2), .val (.ref b3), .val (.int (own_act p0 (0 : Int32) p2 p3)), .val (.int (1 : Int32))] [(.int (1 : Int32))]))
            exact own_retZ X5 hx hlk Bd.returns (hb hby at_139) (by decide) (by decide) ⟨rfl, N5⟩
        · refine own_by (fun _ k => XS.icmpNo X5.here hx rfl (hb hby at_103) rfl (flt hc103_7).1 k) ?_
          show own_Go p.tables e below s _ _ _ (T5.setTop (mkF m 106 #[.val (.long p0), .second, .val (.int p1), .val (.int p2), .val (.int p3), .val (.int p4), .val (.int p5), .val (.int zs), .val (.int (0 : Int32)), .val (.ref b2), .val (.ref b3), .val (.int (own_act p0 (0 : Int32) p2 p3)), .unset] []))
          refine own_by (fun _ k => XS.iconst X5.here hx rfl (hb hby at_106) k) ?_
          show own_Go p.tables e below s _ _ _ (T5.setTop (mkF m 107 #[.val (.long p0), .second, .val (.int p1), .val (.int p2), .val (.int p3), .val (.int p4), .val (.int p5), .val (.int zs), .val (.int (0 : Int32)), .val (.ref b2), .val (.ref b3), .val (.int (own_act p0 (0 : Int32) p2 p3)), .unset] [(.int (1 : Int32))]))
          refine own_by (fun _ k => XS.istore X5.here hx rfl (hb hby at_107) rfl (l' := #[.val (.long p0), .second, .val (.int p1), .val (.int p2), .val (.int p3), .val (.int p4), .val (.int p5), .val (.int zs), .val (.int (0 : Int32)), .val (.ref b2), .val (.ref b3), .val (.int (own_act p0 (0 : Int32) p2 p3)), .val (.int (1 : Int32))]) rfl k) ?_
          show own_Go p.tables e below s _ _ _ (T5.setTop (mkF m 109 #[.val (.long p0), .second, .val (.int p1), .val (.int p2), .val (.int p3), .val (.int p4), .val (.int p5), .val (.int zs), .val (.int (0 : Int32)), .val (.ref b2), .val (.ref b3), .val (.int (own_act p0 (0 : Int32) p2 p3)), .val (.int (1 : Int32))] []))
          refine own_by (fun _ k => XS.goto X5.here hx rfl (pc0 := 109) (pc' := 127) rfl (hb hby at_109) (by decide) (by decide) k) ?_
          show own_Go p.tables e below s _ _ _ (T5.setTop (mkF m 127 #[.val (.long p0), .second, .val (.int p1), .val (.int p2), .val (.int p3), .val (.int p4), .val (.int p5), .val (.int zs), .val (.int (0 : Int32)), .val (.ref b2), .val (.ref b3), .val (.int (own_act p0 (0 : Int32) p2 p3)), .val (.int (1 : Int32))] []))
          refine own_by (fun _ k => XS.iload X5.here hx rfl (hb hby at_127) rfl k) ?_
          show own_Go p.tables e below s _ _ _ (T5.setTop (mkF m 129 #[.val (.long p0), .second, .val (.int p1), .val (.int p2), .val (.int p3), .val (.int p4), .val (.int p5), .val (.int zs), .val (.int (0 : Int32)), .val (.ref b2), .val (.ref b3), .val (.int (own_act p0 (0 : Int32) p2 p3)), .val (.int (1 : Int32))] [(.int (own_act p0 (0 : Int32) p2 p3))]))
          refine own_by (fun _ k => XS.iload X5.here hx rfl (hb hby at_129) rfl k) ?_
          show own_Go p.tables e below s _ _ _ (T5.setTop (mkF m 131 #[.val (.long p0), .second, .val (.int p1), .val (.int p2), .val (.int p3), .val (.int p4), .val (.int p5), .val (.int zs), .val (.int (0 : Int32)), .val (.ref b2), .val (.ref b3), .val (.int (own_act p0 (0 : Int32) p2 p3)), .val (.int (1 : Int32))] [(.int (1 : Int32)), (.int (own_act p0 (0 : Int32) p2 p3))]))
          have hz : (own_act p0 (0 : Int32) p2 p3) = (1 : Int32) := by
            try simp only [lw_lt, lw_gt, lw_eq] at hc18_1 hc81_6 hc103_7
            simp only [own_lt, own_eq, own_ltL, own_lits.1, own_lits.2.1, own_lits.2.2.1, own_lits.2.2.2.1, own_lits.2.2.2.2] at hc18_1 hc81_6 hc103_7
            exact own_act1 (by first | omega | (have := own_lits; omega))
          refine own_by (fun _ k => XS.icmpNo X5.here hx rfl (hb hby at_131) rfl (teq hz).2 k) ?_
          show own_Go p.tables e below s _ _ _ (T5.setTop (mkF m 134 #[.val (.long p0), .second, .val (.int p1), .val (.int p2), .val (.int p3), .val (.int p4), .val (.int p5), .val (.int zs), .val (.int (0 : Int32)), .val (.ref b2), .val (.ref b3), .val (.int (own_act p0 (0 : Int32) p2 p3)), .val (.int (1 : Int32))] []))
          refine own_by (fun _ k => XS.iconst X5.here hx rfl (hb hby at_134) k) ?_
          show own_Go p.tables e below s _ _ _ (T5.setTop (mkF m 135 #[.val (.long p0), .second, .val (.int p1), .val (.int p2), .val (.int p3), .val (.int p4), .val (.int p5), .val (.int zs), .val (.int (0 : Int32)), .val (.ref b2), .val (.ref b3), .val (.int (own_act p0 (0 : Int32) p2 p3)), .val (.int (1 : Int32))] [(.int (1 : Int32))]))
          refine own_by (fun _ k => XS.goto X5.here hx rfl (pc0 := 135) (pc' := 139) rfl (hb hby at_135) (by decide) (by decide) k) ?_
          show own_Go p.tables e below s _ _ _ (T5.setTop (mkF m 139 #[.val (.long p0), .second, .val (.int p1), .val (.int p2), .val (.int p3), .val (.int p4), .val (.int p5), .val (.int zs), .val (.int (0 : Int32)), .val (.ref b2), .val (.ref b3), .val (.int (own_act p0 (0 : Int32) p2 p3)), .val (.int (1 : Int32))] [(.int (1 : Int32))]))
          exact own_retZ X5 hx hlk Bd.returns (hb hby at_139) (by decide) (by decide) ⟨rfl, N5⟩
      · refine own_by (fun _ k => XS.ifNo X5.here hx rfl (hb hby at_81) rfl ((if0 _ _).trans (flt hc81_6).1) k) ?_
        show own_Go p.tables e below s _ _ _ (T5.setTop (mkF m 84 #[.val (.long p0), .second, .val (.int p1), .val (.int p2), .val (.int p3), .val (.int p4), .val (.int p5), .val (.int zs), .val (.int (0 : Int32)), .val (.ref b2), .val (.ref b3), .val (.int (own_act p0 (0 : Int32) p2 p3)), .unset] []))
        refine own_by (fun _ k => XS.iconst X5.here hx rfl (hb hby at_84) k) ?_
        show own_Go p.tables e below s _ _ _ (T5.setTop (mkF m 85 #[.val (.long p0), .second, .val (.int p1), .val (.int p2), .val (.int p3), .val (.int p4), .val (.int p5), .val (.int zs), .val (.int (0 : Int32)), .val (.ref b2), .val (.ref b3), .val (.int (own_act p0 (0 : Int32) p2 p3)), .unset] [(.int (1 : Int32))]))
        refine own_by (fun _ k => XS.istore X5.here hx rfl (hb hby at_85) rfl (l' := #[.val (.long p0), .second, .val (.int p1), .val (.int p2), .val (.int p3), .val (.int p4), .val (.int p5), .val (.int zs), .val (.int (0 : Int32)), .val (.ref b2), .val (.ref b3), .val (.int (own_act p0 (0 : Int32) p2 p3)), .val (.int (1 : Int32))]) rfl k) ?_
        show own_Go p.tables e below s _ _ _ (T5.setTop (mkF m 87 #[.val (.long p0), .second, .val (.int p1), .val (.int p2), .val (.int p3), .val (.int p4), .val (.int p5), .val (.int zs), .val (.int (0 : Int32)), .val (.ref b2), .val (.ref b3), .val (.int (own_act p0 (0 : Int32) p2 p3)), .val (.int (1 : Int32))] []))
        refine own_by (fun _ k => XS.goto X5.here hx rfl (pc0 := 87) (pc' := 127) rfl (hb hby at_87) (by decide) (by decide) k) ?_
        show own_Go p.tables e below s _ _ _ (T5.setTop (mkF m 127 #[.val (.long p0), .second, .val (.int p1), .val (.int p2), .val (.int p3), .val (.int p4), .val (.int p5), .val (.int zs), .val (.int (0 : Int32)), .val (.ref b2), .val (.ref b3), .val (.int (own_act p0 (0 : Int32) p2 p3)), .val (.int (1 : Int32))] []))
        refine own_by (fun _ k => XS.iload X5.here hx rfl (hb hby at_127) rfl k) ?_
        show own_Go p.tables e below s _ _ _ (T5.setTop (mkF m 129 #[.val (.long p0), .second, .val (.int p1), .val (.int p2), .val (.int p3), .val (.int p4), .val (.int p5), .val (.int zs), .val (.int (0 : Int32)), .val (.ref b2), .val (.ref b3), .val (.int (own_act p0 (0 : Int32) p2 p3)), .val (.int (1 : Int32))] [(.int (own_act p0 (0 : Int32) p2 p3))]))
        refine own_by (fun _ k => XS.iload X5.here hx rfl (hb hby at_129) rfl k) ?_
        show own_Go p.tables e below s _ _ _ (T5.setTop (mkF m 131 #[.val (.long p0), .second, .val (.int p1), .val (.int p2), .val (.int p3), .val (.int p4), .val (.int p5), .val (.int zs), .val (.int (0 : Int32)), .val (.ref b2), .val (.ref b3), .val (.int (own_act p0 (0 : Int32) p2 p3)), .val (.int (1 : Int32))] [(.int (1 : Int32)), (.int (own_act p0 (0 : Int32) p2 p3))]))
        have hz : (own_act p0 (0 : Int32) p2 p3) = (1 : Int32) := by
          try simp only [lw_lt, lw_gt, lw_eq] at hc18_1 hc81_6
          simp only [own_lt, own_eq, own_ltL, own_lits.1, own_lits.2.1, own_lits.2.2.1, own_lits.2.2.2.1, own_lits.2.2.2.2] at hc18_1 hc81_6
          exact own_act1 (by first | omega | (have := own_lits; omega))
        refine own_by (fun _ k => XS.icmpNo X5.here hx rfl (hb hby at_131) rfl (teq hz).2 k) ?_
        show own_Go p.tables e below s _ _ _ (T5.setTop (mkF m 134 #[.val (.long p0), .second, .val (.int p1), .val (.int p2), .val (.int p3), .val (.int p4), .val (.int p5), .val (.int zs), .val (.int (0 : Int32)), .val (.ref b2), .val (.ref b3), .val (.int (own_act p0 (0 : Int32) p2 p3)), .val (.int (1 : Int32))] []))
        refine own_by (fun _ k => XS.iconst X5.here hx rfl (hb hby at_134) k) ?_
        show own_Go p.tables e below s _ _ _ (T5.setTop (mkF m 135 #[.val (.long p0), .second, .val (.int p1), .val (.int p2), .val (.int p3), .val (.int p4), .val (.int p5), .val (.int zs), .val (.int (0 : Int32)), .val (.ref b2), .val (.ref b3), .val (.int (own_act p0 (0 : Int32) p2 p3)), .val (.int (1 : Int32))] [(.int (1 : Int32))]))
        refine own_by (fun _ k => XS.goto X5.here hx rfl (pc0 := 135) (pc' := 139) rfl (hb hby at_135) (by decide) (by decide) k) ?_
        show own_Go p.tables e below s _ _ _ (T5.setTop (mkF m 139 #[.val (.long p0), .second, .val (.int p1), .val (.int p2), .val (.int p3), .val (.int p4), .val (.int p5), .val (.int zs), .val (.int (0 : Int32)), .val (.ref b2), .val (.ref b3), .val (.int (own_act p0 (0 : Int32) p2 p3)), .val (.int (1 : Int32))] [(.int (1 : Int32))]))
        exact own_retZ X5 hx hlk Bd.returns (hb hby at_139) (by decide) (by decide) ⟨rfl, N5⟩
    · refine own_by (fun _ k => XS.ifNo X0.here hx rfl (hb hby at_18) rfl ((if0 _ _).trans (feq hc18_1).1) k) ?_
      show own_Go p.tables e below s _ _ _ (s₁.setTop (mkF m 21 #[.val (.long p0), .second, .val (.int p1), .val (.int p2), .val (.int p3), .val (.int p4), .val (.int p5), .val (.int zs), .unset, .unset, .unset, .unset, .unset] []))
      refine own_by (fun _ k => XS.iconst X0.here hx rfl (hb hby at_21) k) ?_
      show own_Go p.tables e below s _ _ _ (s₁.setTop (mkF m 22 #[.val (.long p0), .second, .val (.int p1), .val (.int p2), .val (.int p3), .val (.int p4), .val (.int p5), .val (.int zs), .unset, .unset, .unset, .unset, .unset] [(.int (1 : Int32))]))
      refine own_by (fun _ k => XS.goto X0.here hx rfl (pc0 := 22) (pc' := 26) rfl (hb hby at_22) (by decide) (by decide) k) ?_
      show own_Go p.tables e below s _ _ _ (s₁.setTop (mkF m 26 #[.val (.long p0), .second, .val (.int p1), .val (.int p2), .val (.int p3), .val (.int p4), .val (.int p5), .val (.int zs), .unset, .unset, .unset, .unset, .unset] [(.int (1 : Int32))]))
      refine own_by (fun _ k => XS.istore X0.here hx rfl (hb hby at_26) rfl (l' := #[.val (.long p0), .second, .val (.int p1), .val (.int p2), .val (.int p3), .val (.int p4), .val (.int p5), .val (.int zs), .val (.int (1 : Int32)), .unset, .unset, .unset, .unset]) rfl k) ?_
      show own_Go p.tables e below s _ _ _ (s₁.setTop (mkF m 28 #[.val (.long p0), .second, .val (.int p1), .val (.int p2), .val (.int p3), .val (.int p4), .val (.int p5), .val (.int zs), .val (.int (1 : Int32)), .unset, .unset, .unset, .unset] []))
      refine own_by (fun _ k => XS.iload X0.here hx rfl (hb hby at_28) rfl k) ?_
      show own_Go p.tables e below s _ _ _ (s₁.setTop (mkF m 30 #[.val (.long p0), .second, .val (.int p1), .val (.int p2), .val (.int p3), .val (.int p4), .val (.int p5), .val (.int zs), .val (.int (1 : Int32)), .unset, .unset, .unset, .unset] [(.int (1 : Int32))]))
      refine own_by (fun _ k => XS.ifNo X0.here hx rfl (hb hby at_30) rfl ((if0 _ _).trans (feq (by decide : ¬ ((1 : Int32) = (0 : Int32)))).1) k) ?_
      show own_Go p.tables e below s _ _ _ (s₁.setTop (mkF m 33 #[.val (.long p0), .second, .val (.int p1), .val (.int p2), .val (.int p3), .val (.int p4), .val (.int p5), .val (.int zs), .val (.int (1 : Int32)), .unset, .unset, .unset, .unset] []))
      refine own_by (fun _ k => XS.iconst X0.here hx rfl (hb hby at_33) k) ?_
      show own_Go p.tables e below s _ _ _ (s₁.setTop (mkF m 34 #[.val (.long p0), .second, .val (.int p1), .val (.int p2), .val (.int p3), .val (.int p4), .val (.int p5), .val (.int zs), .val (.int (1 : Int32)), .unset, .unset, .unset, .unset] [(.int (2 : Int32))]))
      obtain ⟨T9, h9, k9, X9, e9, E9, A9, st9⟩ := newP X0 hx hZ (hw _ (List.mem_of_getElem? (i := 0) rfl)) e0 (g := (mkF m 34 #[.val (.long p0), .second, .val (.int p1), .val (.int p2), .val (.int p3), .val (.int p4), .val (.int p5), .val (.int zs), .val (.int (1 : Int32)), .unset, .unset, .unset, .unset] [(.int (2 : Int32))])) rfl (hb hby at_34) rfl (by decide) (cap := 2) (by decide) (by decide) (by decide) (by decide)
      obtain ⟨b9, g9⟩ : ∃ z, z = h0.size := ⟨_, rfl⟩
      rw [← g9] at A9 st9
      have ge_b9 : n0 ≤ b9 := Nat.le_trans Z0 (Nat.le_of_eq g9.symm)
      have Z9 : n0 ≤ h9.size := Nat.le_trans Z0 E9.1
      have V9 : Arv Z h9 b9 k9 .int (2 : Int32) [(.int (0 : Int32)), (.int (0 : Int32))] (.int (0 : Int32)) := (Arv.new A9 (by decide)).pad (fun i => pad_rep [] _ 2 i)
      refine own_by st9 ?_
      show own_Go p.tables e below s _ _ _ (T9.setTop (mkF m 36 #[.val (.long p0), .second, .val (.int p1), .val (.int p2), .val (.int p3), .val (.int p4), .val (.int p5), .val (.int zs), .val (.int (1 : Int32)), .unset, .unset, .unset, .unset] [(.ref b9)]))
      refine own_by (fun _ k => XS.dup X9.here hx rfl (hb hby at_36) rfl rfl k) ?_
      show own_Go p.tables e below s _ _ _ (T9.setTop (mkF m 37 #[.val (.long p0), .second, .val (.int p1), .val (.int p2), .val (.int p3), .val (.int p4), .val (.int p5), .val (.int zs), .val (.int (1 : Int32)), .unset, .unset, .unset, .unset] [(.ref b9), (.ref b9)]))
      refine own_by (fun _ k => XS.iconst X9.here hx rfl (hb hby at_37) k) ?_
      show own_Go p.tables e below s _ _ _ (T9.setTop (mkF m 38 #[.val (.long p0), .second, .val (.int p1), .val (.int p2), .val (.int p3), .val (.int p4), .val (.int p5), .val (.int zs), .val (.int (1 : Int32)), .unset, .unset, .unset, .unset] [(.int (0 : Int32)), (.ref b9), (.ref b9)]))
      refine own_by (fun _ k => XS.iload X9.here hx rfl (hb hby at_38) rfl k) ?_
      show own_Go p.tables e below s _ _ _ (T9.setTop (mkF m 40 #[.val (.long p0), .second, .val (.int p1), .val (.int p2), .val (.int p3), .val (.int p4), .val (.int p5), .val (.int zs), .val (.int (1 : Int32)), .unset, .unset, .unset, .unset] [(.int p5), (.int (0 : Int32)), (.ref b9), (.ref b9)]))
      obtain ⟨cl10, Ar10, qk10, Sz10, Nn10, Hs10, Gt10⟩ := id V9
      have hin10 : ¬ ((0 : Int32) < 0 ∨ cl10.slots.size ≤ ((0 : Int32)).toNatClampNeg) := inb_of Sz10 ⟨by decide, by decide⟩
      obtain ⟨T10, h10, X10, e10, W10, st10⟩ := stI X9 hx hZ e9 Ar10 (j := (0 : Int32)) hin10 (g := (mkF m 40 #[.val (.long p0), .second, .val (.int p1), .val (.int p2), .val (.int p3), .val (.int p4), .val (.int p5), .val (.int zs), .val (.int (1 : Int32)), .unset, .unset, .unset, .unset] [(.int p5), (.int (0 : Int32)), (.ref b9), (.ref b9)])) rfl rfl (hb hby at_40)
      have N10 := Fr.snoc X10 N0 ge_b9
      have Z10 : n0 ≤ h10.size := by rw [W10.size]; exact Z9
      have V10 : Arv Z h10 b9 k9 .int (2 : Int32) [(.int p5), (.int (0 : Int32))] (.int (0 : Int32)) := Arv.set Ar10 qk10 Sz10 Nn10 Hs10 Gt10 rfl W10 0 rfl (Nat.le_of_ble_eq_true rfl)
      refine own_by st10 ?_
      show own_Go p.tables e below s _ _ _ (T10.setTop (mkF m 41 #[.val (.long p0), .second, .val (.int p1), .val (.int p2), .val (.int p3), .val (.int p4), .val (.int p5), .val (.int zs), .val (.int (1 : Int32)), .unset, .unset, .unset, .unset] [(.ref b9)]))
      refine own_by (fun _ k => XS.dup X10.here hx rfl (hb hby at_41) rfl rfl k) ?_
      show own_Go p.tables e below s _ _ _ (T10.setTop (mkF m 42 #[.val (.long p0), .second, .val (.int p1), .val (.int p2), .val (.int p3), .val (.int p4), .val (.int p5), .val (.int zs), .val (.int (1 : Int32)), .unset, .unset, .unset, .unset] [(.ref b9), (.ref b9)]))
      refine own_by (fun _ k => XS.iconst X10.here hx rfl (hb hby at_42) k) ?_
      show own_Go p.tables e below s _ _ _ (T10.setTop (mkF m 43 #[.val (.long p0), .second, .val (.int p1), .val (.int p2), .val (.int p3), .val (.int p4), .val (.int p5), .val (.int zs), .val (.int (1 : Int32)), .unset, .unset, .unset, .unset] [(.int (1 : Int32)), (.ref b9), (.ref b9)]))
      refine own_by (fun _ k => XS.iloadN X10.here hx rfl (hb hby at_43) rfl k) ?_
      show own_Go p.tables e below s _ _ _ (T10.setTop (mkF m 44 #[.val (.long p0), .second, .val (.int p1), .val (.int p2), .val (.int p3), .val (.int p4), .val (.int p5), .val (.int zs), .val (.int (1 : Int32)), .unset, .unset, .unset, .unset] [(.int p1), (.int (1 : Int32)), (.ref b9), (.ref b9)]))
      obtain ⟨cl11, Ar11, qk11, Sz11, Nn11, Hs11, Gt11⟩ := id V10
      have hin11 : ¬ ((1 : Int32) < 0 ∨ cl11.slots.size ≤ ((1 : Int32)).toNatClampNeg) := inb_of Sz11 ⟨by decide, by decide⟩
      obtain ⟨T11, h11, X11, e11, W11, st11⟩ := stI X10 hx hZ e10 Ar11 (j := (1 : Int32)) hin11 (g := (mkF m 44 #[.val (.long p0), .second, .val (.int p1), .val (.int p2), .val (.int p3), .val (.int p4), .val (.int p5), .val (.int zs), .val (.int (1 : Int32)), .unset, .unset, .unset, .unset] [(.int p1), (.int (1 : Int32)), (.ref b9), (.ref b9)])) rfl rfl (hb hby at_44)
      have N11 := Fr.snoc X11 N10 ge_b9
      have Z11 : n0 ≤ h11.size := by rw [W11.size]; exact Z10
      have V11 : Arv Z h11 b9 k9 .int (2 : Int32) [(.int p5), (.int p1)] (.int (0 : Int32)) := Arv.set Ar11 qk11 Sz11 Nn11 Hs11 Gt11 rfl W11 1 rfl (Nat.le_of_ble_eq_true rfl)
      refine own_by st11 ?_
      show own_Go p.tables e below s _ _ _ (T11.setTop (mkF m 45 #[.val (.long p0), .second, .val (.int p1), .val (.int p2), .val (.int p3), .val (.int p4), .val (.int p5), .val (.int zs), .val (.int (1 : Int32)), .unset, .unset, .unset, .unset] [(.ref b9)]))
      refine own_by (fun _ k => XS.goto X11.here hx rfl (pc0 := 45) (pc' := 51) rfl (hb hby at_45) (by decide) (by decide) k) ?_
      show own_Go p.tables e below s _ _ _ (T11.setTop (mkF m 51 #[.val (.long p0), .second, .val (.int p1), .val (.int p2), .val (.int p3), .val (.int p4), .val (.int p5), .val (.int zs), .val (.int (1 : Int32)), .unset, .unset, .unset, .unset] [(.ref b9)]))
      refine own_by (fun _ k => XS.astore X11.here hx rfl (hb hby at_51) rfl rfl (l' := #[.val (.long p0), .second, .val (.int p1), .val (.int p2), .val (.int p3), .val (.int p4), .val (.int p5), .val (.int zs), .val (.int (1 : Int32)), .val (.ref b9), .unset, .unset, .unset]) rfl k) ?_
      show own_Go p.tables e below s _ _ _ (T11.setTop (mkF m 53 #[.val (.long p0), .second, .val (.int p1), .val (.int p2), .val (.int p3), .val (.int p4), .val (.int p5), .val (.int zs), .val (.int (1 : Int32)), .val (.ref b9), .unset, .unset, .unset] []))
      obtain ⟨T12, h12, X12, e12, E12, A12, D12, -, st12⟩ := newO X11 hx hZ hown (hw _ (List.mem_of_getElem? (i := 1) rfl)) (hw _ (List.mem_of_getElem? (i := 2) rfl)) (hw _ (List.mem_of_getElem? (i := 3) rfl)) e11 (g := (mkF m 53 #[.val (.long p0), .second, .val (.int p1), .val (.int p2), .val (.int p3), .val (.int p4), .val (.int p5), .val (.int zs), .val (.int (1 : Int32)), .val (.ref b9), .unset, .unset, .unset] [])) rfl (hb hby at_53) (by decide) (by decide)
      obtain ⟨b12, g12⟩ : ∃ z, z = h11.size := ⟨_, rfl⟩
      rw [← g12] at A12 D12 st12
      have ge_b12 : n0 ≤ b12 := Nat.le_trans Z11 (Nat.le_of_eq g12.symm)
      have ne_b9_b12 : b9 ≠ b12 := by rw [g12]; exact Nat.ne_of_lt V11.lt
      have Z12 : n0 ≤ h12.size := Nat.le_trans Z11 E12.1
      have V11_h12 := V11.ext E12
      have F12_messages : Fld Z h12 b12 "cyclebreak/cluster/Control$Status" "messages" "J" (.long (0 : Int64)) := D12 (Or.inr (hw _ (List.mem_of_getElem? (i := 16) rfl))) (ty := .long) (by decide)
      have F12_reclaimed : Fld Z h12 b12 "cyclebreak/cluster/Control$Status" "reclaimed" "[I" .null := D12 (Or.inr (hw _ (List.mem_of_getElem? (i := 18) rfl))) (ty := (.array .int)) (by decide)
      have F12_freed : Fld Z h12 b12 "cyclebreak/cluster/Control$Status" "freed" "I" (.int (0 : Int32)) := D12 (Or.inr (hw _ (List.mem_of_getElem? (i := 20) rfl))) (ty := .int) (by decide)
      have F12_applied : Fld Z h12 b12 "cyclebreak/cluster/Control$Status" "applied" "I" (.int (0 : Int32)) := D12 (Or.inr (hw _ (List.mem_of_getElem? (i := 22) rfl))) (ty := .int) (by decide)
      have F12_arrived : Fld Z h12 b12 "cyclebreak/cluster/Control$Status" "arrived" "I" (.int (0 : Int32)) := D12 (Or.inr (hw _ (List.mem_of_getElem? (i := 24) rfl))) (ty := .int) (by decide)
      have F12_settled : Fld Z h12 b12 "cyclebreak/cluster/Control$Status" "settled" "Z" (.int (0 : Int32)) := D12 (Or.inr (hw _ (List.mem_of_getElem? (i := 26) rfl))) (ty := .boolean) (by decide)
      refine own_by st12 ?_
      show own_Go p.tables e below s _ _ _ (T12.setTop (mkF m 56 #[.val (.long p0), .second, .val (.int p1), .val (.int p2), .val (.int p3), .val (.int p4), .val (.int p5), .val (.int zs), .val (.int (1 : Int32)), .val (.ref b9), .unset, .unset, .unset] [(.ref b12)]))
      refine own_by (fun _ k => XS.dup X12.here hx rfl (hb hby at_56) rfl rfl k) ?_
      show own_Go p.tables e below s _ _ _ (T12.setTop (mkF m 57 #[.val (.long p0), .second, .val (.int p1), .val (.int p2), .val (.int p3), .val (.int p4), .val (.int p5), .val (.int zs), .val (.int (1 : Int32)), .val (.ref b9), .unset, .unset, .unset] [(.ref b12), (.ref b12)]))
      refine own_by (fun _ k => XS.lloadN X12.here hx rfl (hb hby at_57) rfl k) ?_
      show own_Go p.tables e below s _ _ _ (T12.setTop (mkF m 58 #[.val (.long p0), .second, .val (.int p1), .val (.int p2), .val (.int p3), .val (.int p4), .val (.int p5), .val (.int zs), .val (.int (1 : Int32)), .val (.ref b9), .unset, .unset, .unset] [(.long p0), (.ref b12), (.ref b12)]))
      refine own_by (fun _ k => XS.aload X12.here hx rfl (hb hby at_58) rfl rfl k) ?_
      show own_Go p.tables e below s _ _ _ (T12.setTop (mkF m 60 #[.val (.long p0), .second, .val (.int p1), .val (.int p2), .val (.int p3), .val (.int p4), .val (.int p5), .val (.int zs), .val (.int (1 : Int32)), .val (.ref b9), .unset, .unset, .unset] [(.ref b9), (.long p0), (.ref b12), (.ref b12)]))
      refine own_by (fun _ k => XS.iloadN X12.here hx rfl (hb hby at_60) rfl k) ?_
      show own_Go p.tables e below s _ _ _ (T12.setTop (mkF m 61 #[.val (.long p0), .second, .val (.int p1), .val (.int p2), .val (.int p3), .val (.int p4), .val (.int p5), .val (.int zs), .val (.int (1 : Int32)), .val (.ref b9), .unset, .unset, .unset] [(.int p1), (.ref b9), (.long p0), (.ref b12), (.ref b12)]))
      refine own_by (fun _ k => XS.iloadN X12.here hx rfl (hb hby at_61) rfl k) ?_
      show own_Go p.tables e below s _ _ _ (T12.setTop (mkF m 62 #[.val (.long p0), .second, .val (.int p1), .val (.int p2), .val (.int p3), .val (.int p4), .val (.int p5), .val (.int zs), .val (.int (1 : Int32)), .val (.ref b9), .unset, .unset, .unset] [(.int p2), (.int p1), (.ref b9), (.long p0), (.ref b12), (.ref b12)]))
      refine own_by (fun _ k => XS.iload X12.here hx rfl (hb hby at_62) rfl k) ?_
      show own_Go p.tables e below s _ _ _ (T12.setTop (mkF m 64 #[.val (.long p0), .second, .val (.int p1), .val (.int p2), .val (.int p3), .val (.int p4), .val (.int p5), .val (.int zs), .val (.int (1 : Int32)), .val (.ref b9), .unset, .unset, .unset] [(.int p3), (.int p2), (.int p1), (.ref b9), (.long p0), (.ref b12), (.ref b12)]))
      refine own_by (fun _ k => XS.iload X12.here hx rfl (hb hby at_64) rfl k) ?_
      show own_Go p.tables e below s _ _ _ (T12.setTop (mkF m 66 #[.val (.long p0), .second, .val (.int p1), .val (.int p2), .val (.int p3), .val (.int p4), .val (.int p5), .val (.int zs), .val (.int (1 : Int32)), .val (.ref b9), .unset, .unset, .unset] [(.int zs), (.int p3), (.int p2), (.int p1), (.ref b9), (.long p0), (.ref b12), (.ref b12)]))
      obtain ⟨v13, T13, L13, X13, q13, st13⟩ := own_callI X12 hx hZ rfl hown (hw _ (List.mem_of_getElem? (i := 4) rfl)) (hw _ (List.mem_of_getElem? (i := 5) rfl)) (hw _ (List.mem_of_getElem? (i := 3) rfl)) (hw _ (List.mem_of_getElem? (i := 6) rfl)) (by decide) (rm1 l Z a0 hw [] b12 p0 b9 p1 p2 p3 zs h12 n0 Z12 A12 F12_messages F12_reclaimed F12_freed F12_applied F12_arrived F12_settled ge_b12) (W := 1) (by decide) (by decide) e12 (g := (mkF m 66 #[.val (.long p0), .second, .val (.int p1), .val (.int p2), .val (.int p3), .val (.int p4), .val (.int p5), .val (.int zs), .val (.int (1 : Int32)), .val (.ref b9), .unset, .unset, .unset] [(.int zs), (.int p3), (.int p2), (.int p1), (.ref b9), (.long p0), (.ref b12), (.ref b12)])) rfl (by rw [hml]; rfl) (a := b12) (argsL := [(.long p0), (.ref b9), (.int p1), (.int p2), (.int p3), (.int zs)]) (rest := [(.ref b12)]) (lenOf pd_1 rfl) rfl rfl (by show 2 * 0 + _ ≤ _; exact Nat.le_of_eq rfl) (hb hby at_66) (by decide) (by decide)
      obtain ⟨rfl, Nq13, Kq13, Fm13, Fr13, Fp13, Fv13⟩ := q13
      have N13 := Fr.app N11 Nq13
      have Z13 : n0 ≤ T13.heap.size := Nat.le_trans Z12 Kq13.1
      have V11_h13 := V11_h12.keep Kq13 (ninS ne_b9_b12 nin0)
      have A12_h13 := A12.keep Kq13
      refine own_by st13 ?_
      show own_Go p.tables e below s _ _ _ (T13.setTop (mkF m 69 #[.val (.long p0), .second, .val (.int p1), .val (.int p2), .val (.int p3), .val (.int p4), .val (.int p5), .val (.int zs), .val (.int (1 : Int32)), .val (.ref b9), .unset, .unset, .unset] [(.ref b12)]))
      refine own_by (fun _ k => XS.astore X13.here hx rfl (hb hby at_69) rfl rfl (l' := #[.val (.long p0), .second, .val (.int p1), .val (.int p2), .val (.int p3), .val (.int p4), .val (.int p5), .val (.int zs), .val (.int (1 : Int32)), .val (.ref b9), .val (.ref b12), .unset, .unset]) rfl k) ?_
      show own_Go p.tables e below s _ _ _ (T13.setTop (mkF m 71 #[.val (.long p0), .second, .val (.int p1), .val (.int p2), .val (.int p3), .val (.int p4), .val (.int p5), .val (.int zs), .val (.int (1 : Int32)), .val (.ref b9), .val (.ref b12), .unset, .unset] []))
      refine own_by (fun _ k => XS.aload X13.here hx rfl (hb hby at_71) rfl rfl k) ?_
      show own_Go p.tables e below s _ _ _ (T13.setTop (mkF m 73 #[.val (.long p0), .second, .val (.int p1), .val (.int p2), .val (.int p3), .val (.int p4), .val (.int p5), .val (.int zs), .val (.int (1 : Int32)), .val (.ref b9), .val (.ref b12), .unset, .unset] [(.ref b12)]))
      obtain ⟨v14, T14, L14, X14, q14, st14⟩ := own_callV X13 hx hZ hown (hw _ (List.mem_of_getElem? (i := 27) rfl)) (hw _ (List.mem_of_getElem? (i := 28) rfl)) (hw _ (List.mem_of_getElem? (i := 30) rfl)) (hw _ (List.mem_of_getElem? (i := 29) rfl)) (hw _ (List.mem_of_getElem? (i := 3) rfl)) (hw _ (List.mem_of_getElem? (i := 31) rfl)) (by decide) (rm4 l Z a0 hw [] b12 T13.heap n0 Z13 p0 b9 (2 : Int32) p2 p3 k9 _ Fm13 Fr13 Fp13 Fv13 V11_h13) (W := 0) (by decide) (by decide) rfl A12_h13 (g := (mkF m 73 #[.val (.long p0), .second, .val (.int p1), .val (.int p2), .val (.int p3), .val (.int p4), .val (.int p5), .val (.int zs), .val (.int (1 : Int32)), .val (.ref b9), .val (.ref b12), .unset, .unset] [(.ref b12)])) rfl (by rw [hml]; rfl) (argsL := []) (rest := []) (lenOf pd_4 rfl) rfl rfl (by show 2 * 0 + _ ≤ _; exact Nat.le_of_eq rfl) (hb hby at_73) (by decide) (by decide)
      obtain ⟨rfl, Nq14, hh14⟩ := q14
      have N14 := Fr.app N13 Nq14
      refine own_by st14 ?_
      show own_Go p.tables e below s _ _ _ (T14.setTop (mkF m 76 #[.val (.long p0), .second, .val (.int p1), .val (.int p2), .val (.int p3), .val (.int p4), .val (.int p5), .val (.int zs), .val (.int (1 : Int32)), .val (.ref b9), .val (.ref b12), .unset, .unset] [(.int (own_act p0 (2 : Int32) p2 p3))]))
      refine own_by (fun _ k => XS.istore X14.here hx rfl (hb hby at_76) rfl (l' := #[.val (.long p0), .second, .val (.int p1), .val (.int p2), .val (.int p3), .val (.int p4), .val (.int p5), .val (.int zs), .val (.int (1 : Int32)), .val (.ref b9), .val (.ref b12), .val (.int (own_act p0 (2 : Int32) p2 p3)), .unset]) rfl k) ?_
      show own_Go p.tables e below s _ _ _ (T14.setTop (mkF m 78 #[.val (.long p0), .second, .val (.int p1), .val (.int p2), .val (.int p3), .val (.int p4), .val (.int p5), .val (.int zs), .val (.int (1 : Int32)), .val (.ref b9), .val (.ref b12), .val (.int (own_act p0 (2 : Int32) p2 p3)), .unset] []))
      refine own_by (fun _ k => XS.lloadN X14.here hx rfl (hb hby at_78) rfl k) ?_
      show own_Go p.tables e below s _ _ _ (T14.setTop (mkF m 79 #[.val (.long p0), .second, .val (.int p1), .val (.int p2), .val (.int p3), .val (.int p4), .val (.int p5), .val (.int zs), .val (.int (1 : Int32)), .val (.ref b9), .val (.ref b12), .val (.int (own_act p0 (2 : Int32) p2 p3)), .unset] [(.long p0)]))
      refine own_by (fun _ k => XS.lconst X14.here hx rfl (hb hby at_79) k) ?_
      show own_Go p.tables e below s _ _ _ (T14.setTop (mkF m 80 #[.val (.long p0), .second, .val (.int p1), .val (.int p2), .val (.int p3), .val (.int p4), .val (.int p5), .val (.int zs), .val (.int (1 : Int32)), .val (.ref b9), .val (.ref b12), .val (.int (own_act p0 (2 : Int32) p2 p3)), .unset] [(.long (1 : Int64)), (.long p0)]))
      refine own_by (fun _ k => XS.lcmp X14.here hx rfl (hb hby at_80) rfl k) ?_
      show own_Go p.tables e below s _ _ _ (T14.setTop (mkF m 81 #[.val (.long p0), .second, .val (.int p1), .val (.int p2), .val (.int p3), .val (.int p4), .val (.int p5), .val (.int zs), .val (.int (1 : Int32)), .val (.ref b9), .val (.ref b12), .val (.int (own_act p0 (2 : Int32) p2 p3)), .unset] [(.int (lcmpW p0 (1 : Int64)))]))
      by_cases hc81_15 : (lcmpW p0 (1 : Int64)) < (0 : Int32)
      · refine own_by (fun _ k => XS.ifYes X14.here hx rfl (pc0 := 81) (pc' := 90) rfl (hb hby at_81) rfl ((if0 _ _).trans (tlt hc81_15).1) (by decide) (by decide) k) ?_
        show own_Go p.tables e below s _ _ _ (T14.setTop (mkF m 90 #[.val (.long p0), .second, .val (.int p1), .val (.int p2), .val (.int p3), .val (.int p4), .val (.int p5), .val (.int zs), .val (.int (1 : Int32)), .val (.ref b9), .val (.ref b12), .val (.int (own_act p0 (2 : Int32) p2 p3)), .unset] []))
        refine own_by (fun _ k => XS.iload X14.here hx rfl (hb hby at_90) rfl k) ?_
        show own_Go p.tables e below s _ _ _ (T14.setTop (mkF m 92 #[.val (.long p0), .second, .val (.int p1), .val (.int p2), .val (.int p3), .val (.int p4), .val (.int p5), .val (.int zs), .val (.int (1 : Int32)), .val (.ref b9), .val (.ref b12), .val (.int (own_act p0 (2 : Int32) p2 p3)), .unset] [(.int (1 : Int32))]))
        refine own_by (fun _ k => XS.ifNo X14.here hx rfl (hb hby at_92) rfl ((if0 _ _).trans (feq (by decide : ¬ ((1 : Int32) = (0 : Int32)))).1) k) ?_
        show own_Go p.tables e below s _ _ _ (T14.setTop (mkF m 95 #[.val (.long p0), .second, .val (.int p1), .val (.int p2), .val (.int p3), .val (.int p4), .val (.int p5), .val (.int zs), .val (.int (1 : Int32)), .val (.ref b9), .val (.ref b12), .val (.int (own_act p0 (2 : Int32) p2 p3)), .unset] []))
        refine own_by (fun _ k => XS.iconst X14.here hx rfl (hb hby at_95) k) ?_
        show own_Go p.tables e below s _ _ _ (T14.setTop (mkF m 96 #[.val (.long p0), .second, .val (.int p1), .val (.int p2), .val (.int p3), .val (.int p4), .val (.int p5), .val (.int zs), .val (.int (1 : Int32)), .val (.ref b9), .val (.ref b12), .val (.int (own_act p0 (2 : Int32) p2 p3)), .unset] [(.int (1 : Int32))]))
        refine own_by (fun _ k => XS.istore X14.here hx rfl (hb hby at_96) rfl (l' := #[.val (.long p0), .second, .val (.int p1), .val (.int p2), .val (.int p3), .val (.int p4), .val (.int p5), .val (.int zs), .val (.int (1 : Int32)), .val (.ref b9), .val (.ref b12), .val (.int (own_act p0 (2 : Int32) p2 p3)), .val (.int (1 : Int32))]) rfl k) ?_
        show own_Go p.tables e below s _ _ _ (T14.setTop (mkF m 98 #[.val (.long p0), .second, .val (.int p1), .val (.int p2), .val (.int p3), .val (.int p4), .val (.int p5), .val (.int zs), .val (.int (1 : Int32)), .val (.ref b9), .val (.ref b12), .val (.int (own_act p0 (2 : Int32) p2 p3)), .val (.int (1 : Int32))] []))
        refine own_by (fun _ k => XS.goto X14.here hx rfl (pc0 := 98) (pc' := 127) rfl (hb hby at_98) (by decide) (by decide) k) ?_
        show own_Go p.tables e below s _ _ _ (T14.setTop (mkF m 127 #[.val (.long p0), .second, .val (.int p1), .val (.int p2), .val (.int p3), .val (.int p4), .val (.int p5), .val (.int zs), .val (.int (1 : Int32)), .val (.ref b9), .val (.ref b12), .val (.int (own_act p0 (2 : Int32) p2 p3)), .val (.int (1 : Int32))] []))
        refine own_by (fun _ k => XS.iload X14.here hx rfl (hb hby at_127) rfl k) ?_
        show own_Go p.tables e below s _ _ _ (T14.setTop (mkF m 129 #[.val (.long p0), .second, .val (.int p1), .val (.int p2), .val (.int p3), .val (.int p4), .val (.int p5), .val (.int zs), .val (.int (1 : Int32)), .val (.ref b9), .val (.ref b12), .val (.int (own_act p0 (2 : Int32) p2 p3)), .val (.int (1 : Int32))] [(.int (own_act p0 (2 : Int32) p2 p3))]))
        refine own_by (fun _ k => XS.iload X14.here hx rfl (hb hby at_129) rfl k) ?_
        show own_Go p.tables e below s _ _ _ (T14.setTop (mkF m 131 #[.val (.long p0), .second, .val (.int p1), .val (.int p2), .val (.int p3), .val (.int p4), .val (.int p5), .val (.int zs), .val (.int (1 : Int32)), .val (.ref b9), .val (.ref b12), .val (.int (own_act p0 (2 : Int32) p2 p3)), .val (.int (1 : Int32))] [(.int (1 : Int32)), (.int (own_act p0 (2 : Int32) p2 p3))]))
        have hz : (own_act p0 (2 : Int32) p2 p3) = (1 : Int32) := by
          try simp only [lw_lt, lw_gt, lw_eq] at hc18_1 hc81_15
          simp only [own_lt, own_eq, own_ltL, own_lits.1, own_lits.2.1, own_lits.2.2.1, own_lits.2.2.2.1, own_lits.2.2.2.2] at hc18_1 hc81_15
          exact own_act1 (by first | omega | (have := own_lits; omega))
        refine own_by (fun _ k => XS.icmpNo X14.here hx rfl (hb hby at_131) rfl (teq hz).2 k) ?_
        show own_Go p.tables e below s _ _ _ (T14.setTop (mkF m 134 #[.val (.long p0), .second, .val (.int p1), .val (.int p2), .val (.int p3), .val (.int p4), .val (.int p5), .val (.int zs), .val (.int (1 : Int32)), .val (.ref b9), .val (.ref b12), .val (.int (own_act p0 (2 : Int32) p2 p3)), .val (.int (1 : Int32))] []))
        refine own_by (fun _ k => XS.iconst X14.here hx rfl (hb hby at_134) k) ?_
        show own_Go p.tables e below s _ _ _ (T14.setTop (mkF m 135 #[.val (.long p0), .second, .val (.int p1), .val (.int p2), .val (.int p3), .val (.int p4), .val (.int p5), .val (.int zs), .val (.int (1 : Int32)), .val (.ref b9), .val (.ref b12), .val (.int (own_act p0 (2 : Int32) p2 p3)), .val (.int (1 : Int32))] [(.int (1 : Int32))]))
        refine own_by (fun _ k => XS.goto X14.here hx rfl (pc0 := 135) (pc' := 139) rfl (hb hby at_135) (by decide) (by decide) k) ?_
        show own_Go p.tables e below s _ _ _ (T14.setTop (mkF m 139 #[.val (.long p0), .second, .val (.int p1), .val (.int p2), .val (.int p3), .val (.int p4), .val (.int p5), .val (.int zs), .val (.int (1 : Int32)), .val (.ref b9), .val (.ref b12), .val (.int (own_act p0 (2 : Int32) p2 p3)), .val (.int (1 : Int32))] [(.int (1 : Int32))]))
        exact own_retZ X14 hx hlk Bd.returns (hb hby at_139) (by decide) (by decide) ⟨rfl, N14⟩
      · refine own_by (fun _ k => XS.ifNo X14.here hx rfl (hb hby at_81) rfl ((if0 _ _).trans (flt hc81_15).1) k) ?_
        show own_Go p.tables e below s _ _ _ (T14.setTop (mkF m 84 #[.val (.long p0), .second, .val (.int p1), .val (.int p2), .val (.int p3), .val (.int p4), .val (.int p5), .val (.int zs), .val (.int (1 : Int32)), .val (.ref b9), .val (.ref b12), .val (.int (own_act p0 (2 : Int32) p2 p3)), .unset] []))
        refine own_by (fun _ k => XS.iconst X14.here hx rfl (hb hby at_84) k) ?_
        show own_Go p.tables e below s _ _ _ (T14.setTop (mkF m 85 #[.val (.long p0), .second, .val (.int p1), .val (.int p2), .val (.int p3), .val (.int p4), .val (.int p5), .val (.int zs), .val (.int (1 : Int32)), .val (.ref b9), .val (.ref b12), .val (.int (own_act p0 (2 : Int32) p2 p3)), .unset] [(.int (1 : Int32))]))
        refine own_by (fun _ k => XS.istore X14.here hx rfl (hb hby at_85) rfl (l' := #[.val (.long p0), .second, .val (.int p1), .val (.int p2), .val (.int p3), .val (.int p4), .val (.int p5), .val (.int zs), .val (.int (1 : Int32)), .val (.ref b9), .val (.ref b12), .val (.int (own_act p0 (2 : Int32) p2 p3)), .val (.int (1 : Int32))]) rfl k) ?_
        show own_Go p.tables e below s _ _ _ (T14.setTop (mkF m 87 #[.val (.long p0), .second, .val (.int p1), .val (.int p2), .val (.int p3), .val (.int p4), .val (.int p5), .val (.int zs), .val (.int (1 : Int32)), .val (.ref b9), .val (.ref b12), .val (.int (own_act p0 (2 : Int32) p2 p3)), .val (.int (1 : Int32))] []))
        refine own_by (fun _ k => XS.goto X14.here hx rfl (pc0 := 87) (pc' := 127) rfl (hb hby at_87) (by decide) (by decide) k) ?_
        show own_Go p.tables e below s _ _ _ (T14.setTop (mkF m 127 #[.val (.long p0), .second, .val (.int p1), .val (.int p2), .val (.int p3), .val (.int p4), .val (.int p5), .val (.int zs), .val (.int (1 : Int32)), .val (.ref b9), .val (.ref b12), .val (.int (own_act p0 (2 : Int32) p2 p3)), .val (.int (1 : Int32))] []))
        refine own_by (fun _ k => XS.iload X14.here hx rfl (hb hby at_127) rfl k) ?_
        show own_Go p.tables e below s _ _ _ (T14.setTop (mkF m 129 #[.val (.long p0), .second, .val (.int p1), .val (.int p2), .val (.int p3), .val (.int p4), .val (.int p5), .val (.int zs), .val (.int (1 : Int32)), .val (.ref b9), .val (.ref b12), .val (.int (own_act p0 (2 : Int32) p2 p3)), .val (.int (1 : Int32))] [(.int (own_act p0 (2 : Int32) p2 p3))]))
        refine own_by (fun _ k => XS.iload X14.here hx rfl (hb hby at_129) rfl k) ?_
        show own_Go p.tables e below s _ _ _ (T14.setTop (mkF m 131 #[.val (.long p0), .second, .val (.int p1), .val (.int p2), .val (.int p3), .val (.int p4), .val (.int p5), .val (.int zs), .val (.int (1 : Int32)), .val (.ref b9), .val (.ref b12), .val (.int (own_act p0 (2 : Int32) p2 p3)), .val (.int (1 : Int32))] [(.int (1 : Int32)), (.int (own_act p0 (2 : Int32) p2 p3))]))
        have hz : (own_act p0 (2 : Int32) p2 p3) = (1 : Int32) := by
          try simp only [lw_lt, lw_gt, lw_eq] at hc18_1 hc81_15
          simp only [own_lt, own_eq, own_ltL, own_lits.1, own_lits.2.1, own_lits.2.2.1, own_lits.2.2.2.1, own_lits.2.2.2.2] at hc18_1 hc81_15
          exact own_act1 (by first | omega | (have := own_lits; omega))
        refine own_by (fun _ k => XS.icmpNo X14.here hx rfl (hb hby at_131) rfl (teq hz).2 k) ?_
        show own_Go p.tables e below s _ _ _ (T14.setTop (mkF m 134 #[.val (.long p0), .second, .val (.int p1), .val (.int p2), .val (.int p3), .val (.int p4), .val (.int p5), .val (.int zs), .val (.int (1 : Int32)), .val (.ref b9), .val (.ref b12), .val (.int (own_act p0 (2 : Int32) p2 p3)), .val (.int (1 : Int32))] []))
        refine own_by (fun _ k => XS.iconst X14.here hx rfl (hb hby at_134) k) ?_
        show own_Go p.tables e below s _ _ _ (T14.setTop (mkF m 135 #[.val (.long p0), .second, .val (.int p1), .val (.int p2), .val (.int p3), .val (.int p4), .val (.int p5), .val (.int zs), .val (.int (1 : Int32)), .val (.ref b9), .val (.ref b12), .val (.int (own_act p0 (2 : Int32) p2 p3)), .val (.int (1 : Int32))] [(.int (1 : Int32))]))
        refine own_by (fun _ k => XS.goto X14.here hx rfl (pc0 := 135) (pc' := 139) rfl (hb hby at_135) (by decide) (by decide) k) ?_
        show own_Go p.tables e below s _ _ _ (T14.setTop (mkF m 139 #[.val (.long p0), .second, .val (.int p1), .val (.int p2), .val (.int p3), .val (.int p4), .val (.int p5), .val (.int zs), .val (.int (1 : Int32)), .val (.ref b9), .val (.ref b12), .val (.int (own_act p0 (2 : Int32) p2 p3)), .val (.int (1 : Int32))] [(.int (1 : Int32))]))
        exact own_retZ X14 hx hlk Bd.returns (hb hby at_139) (by decide) (by decide) ⟨rfl, N14⟩
  refine own_by (fun _ k => XS.iload X0.here hx rfl (hb hby at_0) rfl k) ?_
  show own_Go p.tables e below s _ _ _ (s₁.setTop (mkF m 2 #[.val (.long p0), .second, .val (.int p1), .val (.int p2), .val (.int p3), .val (.int p4), .val (.int p5), .unset, .unset, .unset, .unset, .unset, .unset] [(.int p4)]))
  refine own_by (fun _ k => XS.iconst X0.here hx rfl (hb hby at_2) k) ?_
  show own_Go p.tables e below s _ _ _ (s₁.setTop (mkF m 3 #[.val (.long p0), .second, .val (.int p1), .val (.int p2), .val (.int p3), .val (.int p4), .val (.int p5), .unset, .unset, .unset, .unset, .unset, .unset] [(.int (1 : Int32)), (.int p4)]))
  refine own_by (fun _ k => XS.iand X0.here hx rfl (hb hby at_3) rfl k) ?_
  show own_Go p.tables e below s _ _ _ (s₁.setTop (mkF m 4 #[.val (.long p0), .second, .val (.int p1), .val (.int p2), .val (.int p3), .val (.int p4), .val (.int p5), .unset, .unset, .unset, .unset, .unset, .unset] [(.int (p4 &&& (1 : Int32)))]))
  by_cases hc4_16 : (p4 &&& (1 : Int32)) = (0 : Int32)
  · refine own_by (fun _ k => XS.ifYes X0.here hx rfl (pc0 := 4) (pc' := 11) rfl (hb hby at_4) rfl ((if0 _ _).trans (teq hc4_16).1) (by decide) (by decide) k) ?_
    show own_Go p.tables e below s _ _ _ (s₁.setTop (mkF m 11 #[.val (.long p0), .second, .val (.int p1), .val (.int p2), .val (.int p3), .val (.int p4), .val (.int p5), .unset, .unset, .unset, .unset, .unset, .unset] []))
    refine own_by (fun _ k => XS.iconst X0.here hx rfl (hb hby at_11) k) ?_
    show own_Go p.tables e below s _ _ _ (s₁.setTop (mkF m 12 #[.val (.long p0), .second, .val (.int p1), .val (.int p2), .val (.int p3), .val (.int p4), .val (.int p5), .unset, .unset, .unset, .unset, .unset, .unset] [(.int (0 : Int32))]))
    exact j12 _
  · refine own_by (fun _ k => XS.ifNo X0.here hx rfl (hb hby at_4) rfl ((if0 _ _).trans (feq hc4_16).1) k) ?_
    show own_Go p.tables e below s _ _ _ (s₁.setTop (mkF m 7 #[.val (.long p0), .second, .val (.int p1), .val (.int p2), .val (.int p3), .val (.int p4), .val (.int p5), .unset, .unset, .unset, .unset, .unset, .unset] []))
    refine own_by (fun _ k => XS.iconst X0.here hx rfl (hb hby at_7) k) ?_
    show own_Go p.tables e below s _ _ _ (s₁.setTop (mkF m 8 #[.val (.long p0), .second, .val (.int p1), .val (.int p2), .val (.int p3), .val (.int p4), .val (.int p5), .unset, .unset, .unset, .unset, .unset, .unset] [(.int (1 : Int32))]))
    refine own_by (fun _ k => XS.goto X0.here hx rfl (pc0 := 8) (pc' := 12) rfl (hb hby at_8) (by decide) (by decide) k) ?_
    show own_Go p.tables e below s _ _ _ (s₁.setTop (mkF m 12 #[.val (.long p0), .second, .val (.int p1), .val (.int p2), .val (.int p3), .val (.int p4), .val (.int p5), .unset, .unset, .unset, .unset, .unset, .unset] [(.int (1 : Int32))]))
    exact j12 _
set_option maxRecDepth 65536 in
set_option maxHeartbeats 40000000 in
theorem comes_1 {Post : Tables → Env → Array Value → State → Outcome → State → Prop} (hpost : ∀ tb e args s v u, (limb_1_1.after args s (.returned v) u = true ∧ limb_1_2.after args s (.returned v) u = true ∧ True) → FrameEnd s (.returned v) u (Jvm.fieldLocs frame_1_writes args s ++ Jvm.arrayLocs frame_1_arrays args s ++ Jvm.staticLocs frame_1_statics s) 16 128 → Post tb e args s (.returned v) u) :
    ArmFor flags0 classFile x code maxLocals ret World_1 tables_1 room_1 Calls_1 rest_1 Pre_1 Post := by
  intro l hfl _ _ p e ha hc hk s m args below hf hA hF happ hP
  obtain ⟨hcalls, hrest, hpre⟩ := hP
  obtain ⟨-, -, -, hnamed, -, -, -, hat⟩ := (Spec.applies_iff hf).mp happ
  obtain ⟨hg, hn⟩ := and_e (Cond.before_iff.mp (show (Jvm.Cond.and given_1 narrow_1).before args s = true from hpre))
  obtain ⟨hcount, hr0⟩ := and_e hg
  obtain ⟨ha0, hr1⟩ := and_e hr0
  obtain ⟨ha1, hr2⟩ := and_e hr1
  obtain ⟨ha2, hr3⟩ := and_e hr2
  obtain ⟨ha3, hr4⟩ := and_e hr3
  obtain ⟨ha4, hr5⟩ := and_e hr4
  obtain ⟨w0, w1, w2, w3, w4, w5, rfl⟩ : ∃ w0 w1 w2 w3 w4 w5 : Value, args = #[w0, w1, w2, w3, w4, w5] := by
    have hs : args.size = 6 := by simpa [Cond.value, given_1] using hcount
    obtain ⟨L⟩ := args
    match L, hs with
    | [w0, w1, w2, w3, w4, w5], _ => exact ⟨w0, w1, w2, w3, w4, w5, rfl⟩
  have hw := fun d (hd : d ∈ tables_1) => atoms_spec (ws := Jvm.Cond.code x code maxLocals ret :: tables_1) hat d (List.mem_cons_of_mem _ hd)
  obtain ⟨i0, ev0⟩ := isL_v ha0
  obtain rfl : w0 = (.long i0) := Option.some.inj ev0
  obtain ⟨i1, ev1⟩ := is_v ha1
  obtain rfl : w1 = (.int i1) := Option.some.inj ev1
  obtain ⟨i2, ev2⟩ := is_v ha2
  obtain rfl : w2 = (.int i2) := Option.some.inj ev2
  obtain ⟨i3, ev3⟩ := is_v ha3
  obtain rfl : w3 = (.int i3) := Option.some.inj ev3
  obtain ⟨i4, ev4⟩ := is_v ha4
  obtain rfl : w4 = (.int i4) := Option.some.inj ev4
  obtain ⟨i5, ev5⟩ := is_v hr5
  obtain rfl : w5 = (.int i5) := Option.some.inj ev5
  obtain ⟨n, o, h1, h2, h3, _, L, rfl, ⟨rfl, N⟩, hq⟩ := rm0 l s _ hw tables_1 i0 i1 i2 i3 i4 i5 s.heap s.heap.size (Nat.le_refl _) p e ha hc hk s m _ below hf ((Spec.applies_iff_loose hf).mp happ).1 ⟨rfl, State.Warmed39.refl s, rfl⟩ trivial
  refine ⟨n, _, h1, h2, h3, hpost _ _ _ _ _ _ ⟨Cond.after_iff.mpr rfl, Cond.after_iff.mpr (eq_i res_at (Term.int_eval (1)) rfl), trivial⟩ ⟨hq.1, hq.2.1, (hq.2.2.sift fun y hy => Or.inr (N y hy)).mono (by decide) (by decide)⟩⟩
theorem main_1_1 : Claimed_1_1 := comes_1 fun _ _ _ _ _ _ h hF => ⟨h.1, hF⟩
theorem main_1_2 : Claimed_1_2 := comes_1 fun _ _ _ _ _ _ h hF => ⟨h.2.1, hF⟩
end Jvm.Pilot.@@N@@
namespace Jvm.Pilot.@@N@@
open Jvm Jvm.ClassFile Sem Op Lib Jvm.Free Jvm.Stand Jvm.Pilot.@@N@@.Jvm.D
/-! MADE BY PROGRAM (witnessworld.py) out of the Statement's table words and the real class files: 11 classes; the members and pool entries that the words name. The judged class is class 1, her method 1. -/
namespace start1
open Jvm.ClassFile
def u (s : String) : CpInfo := .utf8 (stringToUtf16 s)
/-- a pool by its gaps: so many unusable entries, then the entry; so many at the end -/
def gap : Nat → List CpInfo → List CpInfo
  | 0, r => r
  | n + 1, r => .unusable :: gap n r
def poolList (es : List (Nat × CpInfo)) (last : Nat) : List CpInfo := es.foldr (fun e r => gap e.1 (e.2 :: r)) (gap last [])
def pool (es : List (Nat × CpInfo)) (last : Nat) : Array CpInfo := ⟨poolList es last⟩
def fileOf (pool : Array CpInfo) (this : Nat) (attrs : Array Attribute := #[]) (ms : Array MethodInfo := #[]) (fl : Nat := 33) (sup : Nat := 0) (ifs : Array Nat := #[]) (fds : Array FieldInfo := #[]) : ClassFile where
  minorVersion := 0
  majorVersion := 65
  constantPool := pool
  accessFlags := fl
  thisClass := this
  superClass := sup
  interfaces := ifs
  fields := fds
  methods := ms
  attributes := attrs
def plain (name : String) (sup : Option ClassId) : Class where
  name := name
  kind := .ordinary
  loader := none
  accessFlags := 33
  super := sup
  interfaces := #[]
  cf := none
  fields := #[]
  methods := #[]
  instanceTypes := #[]
  staticTypes := #[]
  resolved := #[]
  callSites := []
  init := .initialized
  statics := none
  mirror := none

def pool0 : Array CpInfo := pool [(5, u "<init>"), (0, u "()V"), (1, .class_ 10), (1, u "java/lang/Object")] 113

def k0c0 : Code := { maxStack := 0, maxLocals := 1, code := object_method_1_code, exceptionTable := #[], attributes := #[] }
def k0m0 : Method := { name := "<init>", desc := "()V", sig := { parameters := [], returnType := none }, accessFlags := 1, code := some k0c0 }
/-- java/lang/Object -/
def k0 : Class := { plain "java/lang/Object" none with
  accessFlags := 33
  interfaces := #[]
  cf := some (fileOf pool0 8 #[] #[{ accessFlags := 1, nameIndex := 5, descriptorIndex := 6, attributes := #[] }] 33 0 #[] #[])
  fields := #[]
  methods := #[k0m0]
  instanceTypes := #[]
  staticTypes := #[]
  resolved := Array.replicate 124 none
  statics := none }

def pool1 : Array CpInfo := pool [(2, .class_ 4), (1, u "java/lang/Object"), (0, u "<init>"), (0, u "()V"), (0, .class_ 8), (0, u "cyclebreak/cluster/Control$Status"), (0, .methodref 7 10), (0, .nameAndType 5 11), (0, u "(J[IIIIZ)V"), (0, .methodref 7 13), (0, .nameAndType 14 15), (0, u "active"), (0, u "()Z"), (0, .class_ 17), (0, u "cyclebreak/cluster/StatusActivePinLaw"), (2, u "law"), (0, u "(JIIIII)Z")] 9

def k1m0 : Method := { name := "<init>", desc := "()V", sig := { parameters := [], returnType := none }, accessFlags := 2, code := none }
def k1c1 : Code := { maxStack := 9, maxLocals := 13, code := code, exceptionTable := #[], attributes := #[] }
def k1m1 : Method := { name := "law", desc := "(JIIIII)Z", sig := { parameters := [.long, .int, .int, .int, .int, .int], returnType := some .boolean }, accessFlags := 9, code := some k1c1 }
/-- cyclebreak/cluster/StatusActivePinLaw -/
def k1 : Class := { plain "cyclebreak/cluster/StatusActivePinLaw" (some 0) with
  accessFlags := 49
  interfaces := #[]
  cf := some (fileOf pool1 16 #[] #[{ accessFlags := 2, nameIndex := 5, descriptorIndex := 6, attributes := #[] }, { accessFlags := 9, nameIndex := 20, descriptorIndex := 21, attributes := #[] }] 49 2 #[] #[])
  fields := #[]
  methods := #[k1m0, k1m1]
  instanceTypes := #[]
  staticTypes := #[]
  resolved := Array.replicate 31 none
  statics := none }

def pool2 : Array CpInfo := pool [(1, .methodref 2 3), (0, .class_ 4), (0, .nameAndType 5 6), (0, u "java/lang/Object"), (0, u "<init>"), (0, u "()V"), (0, .class_ 8), (0, u "java/lang/Record")] 13

def k2c0 : Code := { maxStack := 1, maxLocals := 1, code := jdk_30_method_1_code, exceptionTable := #[], attributes := #[] }
def k2m0 : Method := { name := "<init>", desc := "()V", sig := { parameters := [], returnType := none }, accessFlags := 4, code := some k2c0 }
/-- java/lang/Record -/
def k2 : Class := { plain "java/lang/Record" (some 0) with
  accessFlags := 1057
  interfaces := #[]
  cf := some (fileOf pool2 7 #[] #[{ accessFlags := 4, nameIndex := 5, descriptorIndex := 6, attributes := #[] }] 1057 2 #[] #[])
  fields := #[]
  methods := #[k2m0]
  instanceTypes := #[]
  staticTypes := #[]
  resolved := Array.replicate 22 none
  statics := none }

def pool3 : Array CpInfo := pool [(1, .class_ 2), (0, u "cyclebreak/cluster/Control$Start"), (43, .class_ 47), (0, u "cyclebreak/cluster/Control$Listening"), (3, .class_ 52), (0, u "cyclebreak/cluster/Control$Peers"), (8, .class_ 62), (0, u "cyclebreak/cluster/Control$Ready"), (0, .class_ 64), (0, u "cyclebreak/cluster/Control$Mutate"), (3, .class_ 69), (0, u "cyclebreak/cluster/Control$Status"), (23, .class_ 94), (0, u "cyclebreak/cluster/Control$Stop"), (33, .class_ 130), (1, u "cyclebreak/cluster/Control"), (41, .class_ 173), (0, u "java/lang/Object")] 38

/-- cyclebreak/cluster/Control -/
def k3 : Class := { plain "cyclebreak/cluster/Control" (some 0) with
  accessFlags := 1536
  interfaces := #[]
  cf := some (fileOf pool3 128 #[.nestMembers #[93, 68, 63, 61, 51, 46, 1]] #[] 1536 172 #[] #[])
  fields := #[]
  methods := #[]
  instanceTypes := #[]
  staticTypes := #[]
  resolved := Array.replicate 212 none
  statics := none }

def pool4 : Array CpInfo := pool [(1, .methodref 2 3), (0, .class_ 4), (0, .nameAndType 5 6), (0, u "java/lang/Record"), (0, u "<init>"), (0, u "()V"), (0, .fieldref 8 9), (0, .class_ 10), (0, .nameAndType 11 12), (0, u "cyclebreak/cluster/Control$Status"), (0, u "messages"), (0, u "J"), (0, .fieldref 8 14), (0, .nameAndType 15 16), (0, u "reclaimed"), (0, u "[I"), (0, .fieldref 8 18), (0, .nameAndType 19 20), (0, u "freed"), (0, u "I"), (0, .fieldref 8 22), (0, .nameAndType 23 20), (0, u "applied"), (0, .fieldref 8 25), (0, .nameAndType 26 20), (0, u "arrived"), (0, .fieldref 8 28), (0, .nameAndType 29 30), (0, u "settled"), (0, u "Z"), (12, .class_ 44), (0, u "cyclebreak/cluster/Control"), (0, u "(J[IIIIZ)V"), (3, u "active"), (0, u "()Z")] 33

def k4c0 : Code := { maxStack := 3, maxLocals := 8, code := prog_24_method_1_code, exceptionTable := #[], attributes := #[] }
def k4m0 : Method := { name := "<init>", desc := "(J[IIIIZ)V", sig := { parameters := [.long, (.array .int), .int, .int, .int, .boolean], returnType := none }, accessFlags := 1, code := some k4c0 }
def k4c1 : Code := { maxStack := 4, maxLocals := 1, code := prog_24_method_2_code, exceptionTable := #[], attributes := #[] }
def k4m1 : Method := { name := "active", desc := "()Z", sig := { parameters := [], returnType := some .boolean }, accessFlags := 0, code := some k4c1 }
/-- cyclebreak/cluster/Control$Status -/
def k4 : Class := { plain "cyclebreak/cluster/Control$Status" (some 2) with
  accessFlags := 49
  interfaces := #[3]
  cf := some (fileOf pool4 8 #[.nestHost 43] #[{ accessFlags := 1, nameIndex := 5, descriptorIndex := 45, attributes := #[] }, { accessFlags := 0, nameIndex := 49, descriptorIndex := 50, attributes := #[] }] 49 2 #[43] #[{ accessFlags := 18, nameIndex := 11, descriptorIndex := 12, attributes := #[] }, { accessFlags := 18, nameIndex := 15, descriptorIndex := 16, attributes := #[] }, { accessFlags := 18, nameIndex := 19, descriptorIndex := 20, attributes := #[] }, { accessFlags := 18, nameIndex := 23, descriptorIndex := 20, attributes := #[] }, { accessFlags := 18, nameIndex := 26, descriptorIndex := 20, attributes := #[] }, { accessFlags := 18, nameIndex := 29, descriptorIndex := 30, attributes := #[] }])
  fields := #[{ name := "messages", type := .long, accessFlags := 18, slot := 0, constantValue := 0 }, { name := "reclaimed", type := (.array .int), accessFlags := 18, slot := 1, constantValue := 0 }, { name := "freed", type := .int, accessFlags := 18, slot := 2, constantValue := 0 }, { name := "applied", type := .int, accessFlags := 18, slot := 3, constantValue := 0 }, { name := "arrived", type := .int, accessFlags := 18, slot := 4, constantValue := 0 }, { name := "settled", type := .boolean, accessFlags := 18, slot := 5, constantValue := 0 }]
  methods := #[k4m0, k4m1]
  instanceTypes := #[.long, (.array .int), .int, .int, .int, .boolean]
  staticTypes := #[]
  resolved := Array.replicate 84 none
  statics := none }

def pool5 : Array CpInfo := pool [(1, u "java/lang/Cloneable"), (0, .class_ 1), (0, u "java/lang/Object"), (0, .class_ 3)] 3

/-- java/lang/Cloneable -/
def k5 : Class := { plain "java/lang/Cloneable" (some 0) with
  accessFlags := 1537
  interfaces := #[]
  cf := some (fileOf pool5 2 #[] #[] 1537 4 #[] #[])
  fields := #[]
  methods := #[]
  instanceTypes := #[]
  staticTypes := #[]
  resolved := Array.replicate 8 none
  statics := none }

def pool6 : Array CpInfo := pool [(1, u "java/io/Serializable"), (0, .class_ 1), (0, u "java/lang/Object"), (0, .class_ 3)] 3

/-- java/io/Serializable -/
def k6 : Class := { plain "java/io/Serializable" (some 0) with
  accessFlags := 1537
  interfaces := #[]
  cf := some (fileOf pool6 2 #[] #[] 1537 4 #[] #[])
  fields := #[]
  methods := #[]
  instanceTypes := #[]
  staticTypes := #[]
  resolved := Array.replicate 8 none
  statics := none }

/-- the primitive byte -/
def k7 : Class := { plain "byte" none with kind := .primitive 'B', accessFlags := 0x411 }
/-- [B -/
def k8 : Class := { plain "[B" (some 0) with kind := .array 7 .byte, interfaces := #[5, 6], accessFlags := 1041 }

/-- the primitive int -/
def k9 : Class := { plain "int" none with kind := .primitive 'I', accessFlags := 0x411 }
/-- [I -/
def k10 : Class := { plain "[I" (some 0) with kind := .array 9 .int, interfaces := #[5, 6], accessFlags := 1041 }

def heap : Heap := #[]
def classes : Array Class := #[k0, k1, k2, k3, k4, k5, k6, k7, k8, k9, k10]
def interned : List (Array UInt16 × Addr) := []
def slotsUsed : Nat := 0
def theMethod : MethodId := ⟨1, 1⟩
def args0 : Array Value := #[.long 5, .int 1, .int 2, .int 3, .int 4, .int 5]
def aboutOver (below : List Frame) : State where
  vm := { classes := classes, interned := interned.toArray }
  heap := heap
  slotsUsed := slotsUsed
  threads := #[{ frames := .invoking theMethod args0 :: below }]
def below0 : List Frame := [.native { method := ⟨0, 0⟩, args := #[] }]
def about1 : State := aboutOver below0
def p0 : Program := .bare "" "" ""
def e0 : Env := launch0.env 0 0 0
theorem w_frames : about1.frames = Frame.invoking theMethod args0 :: below0 := rfl
set_option maxRecDepth 65536 in
theorem w_args : argsFit about1.vm theMethod args0 = true := by decide +kernel
set_option maxRecDepth 65536 in
theorem w_heap : heapFits about1 = true := by decide +kernel
set_option maxRecDepth 65536 in
theorem w_runnable : about1.curStatus? = some .runnable := by decide +kernel
set_option maxRecDepth 65536 in
theorem w_alone : about1.alone = true := by decide +kernel
set_option maxRecDepth 65536 in
theorem w_named : about1.methodNamed? x = some theMethod := by decide +kernel
set_option maxRecDepth 65536 in
theorem w_hears : about1.hears theMethod below0 = true := by decide +kernel
set_option maxRecDepth 65536 in
theorem w_ripe : about1.ripe theMethod args0 below0 = true := by decide +kernel
theorem w_running : about1.status = .running := rfl
set_option maxRecDepth 65536 in
theorem w_room : about1.hasRoom e0.platform room_1 = true :=
  launch0.hasRoom_least _ room_1 (by decide +kernel) (by decide +kernel) (by decide +kernel) (by decide +kernel) (by decide +kernel) (by decide +kernel)
theorem allAtoms_all (ts : List Jvm.Cond) (a : Array Jvm.Value) (st : Jvm.State) : (allAtoms ts).before a st = ts.all (fun c => c.before a st) := by
  induction ts with
  | nil => rfl
  | cons c t ih =>
    show (Jvm.Cond.and c (allAtoms t)).before a st = _
    rw [Jvm.Cond.before_and, ih, List.all_cons]
def words1 : List Jvm.Cond := Jvm.Cond.code x code maxLocals ret :: tables_1
/-- a 'code' word, met by the world's own term for the bytes: nothing is compared byte by byte -/
theorem code_word {y : MethodName} {bytes : ByteArray} {mx : Nat} {rt : Option FieldType} {a : Array Value} {s : State} {m : MethodId} {meth : Method} {c : Code} (h1 : s.methodNamed? y = some m) (h2 : s.vm.method? m = some meth) (h3 : meth.code = some c) (h4 : c.code = bytes)
    (h5 : (c.maxLocals == mx && c.exceptionTable.isEmpty && decide (c.maxStack ≤ mostOperands) && decide (meth.sig.returnType = rt) && !meth.locks && decide (parseMethodDescriptor y.desc = some meth.sig)) = true) : (Jvm.Cond.code y bytes mx rt).before a s = true := by
  simp only [Bool.and_eq_true, beq_iff_eq, Bool.not_eq_true', decide_eq_true_eq] at h5
  obtain ⟨⟨⟨⟨⟨g1, g2⟩, g3⟩, g4⟩, g5⟩, g6⟩ := h5
  simp [Cond.before, Cond.holds, Cond.value, h1, h2, h3, h4, g1, g2, g3, g4, g5, g6]
def isCode : Jvm.Cond → Bool
  | .code _ _ _ _ => true
  | _ => false
theorem all_split {L : List Jvm.Cond} {P : Jvm.Cond → Bool} (h1 : L.all (fun c => isCode c || P c) = true) (h2 : ∀ c ∈ L.filter isCode, P c = true) : L.all P = true := by
  refine List.all_eq_true.mpr fun c hc => ?_
  have h := List.all_eq_true.mp h1 c hc
  rcases Bool.eq_false_or_eq_true (isCode c) with hi | hi
  · exact h2 c (List.mem_filter.mpr ⟨hc, hi⟩)
  · simpa [hi] using h
set_option maxRecDepth 65536 in
theorem w_c0 : (Jvm.Cond.code x code maxLocals ret).before args0 about1 = true := code_word (m := ⟨1, 1⟩) (meth := k1m1) (c := k1c1) (by decide +kernel) rfl rfl rfl (by decide +kernel)
set_option maxRecDepth 65536 in
theorem w_c1 : (Jvm.Cond.code ({ cls := "cyclebreak/cluster/Control$Status", name := "<init>", desc := "(J[IIIIZ)V" } : Jvm.MethodName) prog_24_method_1_code (8 : Nat) (Option.none : Option Jvm.ClassFile.FieldType)).before args0 about1 = true := code_word (m := ⟨4, 0⟩) (meth := k4m0) (c := k4c0) (by decide +kernel) rfl rfl rfl (by decide +kernel)
set_option maxRecDepth 65536 in
theorem w_c2 : (Jvm.Cond.code ({ cls := "java/lang/Record", name := "<init>", desc := "()V" } : Jvm.MethodName) jdk_30_method_1_code (1 : Nat) (Option.none : Option Jvm.ClassFile.FieldType)).before args0 about1 = true := code_word (m := ⟨2, 0⟩) (meth := k2m0) (c := k2c0) (by decide +kernel) rfl rfl rfl (by decide +kernel)
set_option maxRecDepth 65536 in
theorem w_c3 : (Jvm.Cond.code ({ cls := "java/lang/Object", name := "<init>", desc := "()V" } : Jvm.MethodName) object_method_1_code (1 : Nat) (Option.none : Option Jvm.ClassFile.FieldType)).before args0 about1 = true := code_word (m := ⟨0, 0⟩) (meth := k0m0) (c := k0c0) (by decide +kernel) rfl rfl rfl (by decide +kernel)
set_option maxRecDepth 65536 in
theorem w_c4 : (Jvm.Cond.code ({ cls := "cyclebreak/cluster/Control$Status", name := "active", desc := "()Z" } : Jvm.MethodName) prog_24_method_2_code (1 : Nat) (Option.some Jvm.ClassFile.FieldType.boolean)).before args0 about1 = true := code_word (m := ⟨4, 1⟩) (meth := k4m1) (c := k4c1) (by decide +kernel) rfl rfl rfl (by decide +kernel)
def codes1 : List Jvm.Cond := [Jvm.Cond.code x code maxLocals ret, Jvm.Cond.code ({ cls := "cyclebreak/cluster/Control$Status", name := "<init>", desc := "(J[IIIIZ)V" } : Jvm.MethodName) prog_24_method_1_code (8 : Nat) (Option.none : Option Jvm.ClassFile.FieldType), Jvm.Cond.code ({ cls := "java/lang/Record", name := "<init>", desc := "()V" } : Jvm.MethodName) jdk_30_method_1_code (1 : Nat) (Option.none : Option Jvm.ClassFile.FieldType), Jvm.Cond.code ({ cls := "java/lang/Object", name := "<init>", desc := "()V" } : Jvm.MethodName) object_method_1_code (1 : Nat) (Option.none : Option Jvm.ClassFile.FieldType), Jvm.Cond.code ({ cls := "cyclebreak/cluster/Control$Status", name := "active", desc := "()Z" } : Jvm.MethodName) prog_24_method_2_code (1 : Nat) (Option.some Jvm.ClassFile.FieldType.boolean)]
set_option maxRecDepth 65536 in
theorem codes_eq : words1.filter isCode = codes1 := rfl
theorem w_codes : ∀ c ∈ words1.filter isCode, c.before args0 about1 = true := by
  rw [codes_eq]
  intro c hc
  simp only [codes1, List.mem_cons, List.not_mem_nil, or_false] at hc
  rcases hc with rfl | rfl | rfl | rfl | rfl
  · exact w_c0
  · exact w_c1
  · exact w_c2
  · exact w_c3
  · exact w_c4
set_option maxRecDepth 65536 in
theorem w_t1 : (words1.take 24).all (fun c => isCode c || c.before args0 about1) = true := by decide +kernel
set_option maxRecDepth 65536 in
theorem w_t2 : (words1.drop 24).all (fun c => isCode c || c.before args0 about1) = true := by decide +kernel
theorem w_tables : (allAtoms (Jvm.Cond.code x code maxLocals ret :: tables_1)).before args0 about1 = true := by
  rw [allAtoms_all]
  show words1.all (fun c => c.before args0 about1) = true
  refine all_split ?_ w_codes
  rw [← List.take_append_drop 24 words1, List.all_append, w_t1, w_t2]
  rfl
set_option maxRecDepth 65536 in
theorem w_case : (Jvm.Cond.and given_1 narrow_1).before args0 about1 = true := by decide +kernel
theorem w_applies : (headSpec (Jvm.Cond.code x code maxLocals ret :: tables_1) room_1).applies x e0.platform about1 = true :=
  (Spec.applies_iff w_frames).mpr ⟨w_running, w_runnable, w_alone, w_named, w_hears, w_ripe, w_room, w_tables⟩
theorem atStart : AtStart classFile x code maxLocals ret World_1 tables_1 room_1 Calls_1 rest_1 Pre_1 launch0 p0 e0 about1 theMethod args0 below0 :=
  ⟨lists_1, trivial, launch0.admits_env _ _ _, launch0.least_env, fairChoices_fair.cas, fairChoices_fair.clock, w_frames, w_args, w_heap, w_applies, trivial, trivial, w_case⟩
end start1
theorem witness_1 : WitnessClaimed_1 := ⟨start1.p0, start1.e0, start1.about1, start1.theMethod, start1.args0, start1.below0, start1.atStart⟩
end Jvm.Pilot.@@N@@
