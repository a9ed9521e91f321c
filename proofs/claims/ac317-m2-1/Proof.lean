import JvmDerived
import JvmDerived.Pilot.@@N@@Statement
import JvmDerived.Pilot.@@N@@Code
set_option linter.unusedVariables false
set_option linter.unusedSimpArgs false
namespace Jvm.Pilot.@@N@@
open Jvm Jvm.ClassFile Sem Op Lib Jvm.Free Jvm.Stand Jvm.LawKit Jvm.RoadKit Bundle Jvm.Pilot.@@N@@.Jvm.D
/-- Java's >>> on longs and on ints -/
def own_sr (x : Int64) (k : Int32) : Int64 := ((x.toUInt64 >>> (k &&& 0x3f).toInt64.toUInt64).toInt64)
def own_sri (x : Int32) (k : Int32) : Int32 := ((x.toUInt32 >>> (k &&& 31).toUInt32).toInt32)
section Own
variable {p : Program} {l : Launch} {e : Env} {R : Room} {s : State} {m : MethodId} {args : Array Value} {below : List Frame} {meth : Method} {c : Code} {T : State} {locs : List Loc} {cells slots : Nat} {Z : State} {a0 : Array Value} {h : Heap} {Q : Option Value → Heap → List Loc → Prop} {kc kn : Nat}
/-- from the state A the body comes to an end that answers Q -/
def own_Go (tb : Tables) (e : Env) (below : List Frame) (s : State) (Q : Option Value → Heap → List Loc → Prop) (kc kn : Nat) (A : State) : Prop :=
  ∃ s₂ o, Steps tb e below A s₂ ∧ s₂.status = .running ∧ Ended s₂ below o ∧ ∃ v L, o = .returned v ∧ Q v s₂.heap L ∧ FrameEnd s o s₂ L kc kn
theorem own_by {tb : Tables} {A B : State} (g : ∀ t, Steps tb e below B t → Steps tb e below A t) (k : own_Go tb e below s Q kc kn B) : own_Go tb e below s Q kc kn A := by
  obtain ⟨s₂, o, h1, r⟩ := k
  exact ⟨s₂, o, g s₂ h1, r⟩
theorem own_end (X : Stand p l e R s m args below meth c T locs cells slots) {v : Option Value} (hv : meth.sig.returnType = none → v = none) (hlocks : meth.locks = false) {A : State}
    (hA : ∀ fs : List Frame, (∀ (f : JFrame) (acts : List Action), f.method = m → f.locked = none → f.entered = [] → (doReturn e (T.setTop f) acts v).1 = T.setFrames fs) → Steps p.tables e below A (T.setFrames fs)) (hk : cells ≤ kc) (hn : slots ≤ kn) (hQ : Q v T.heap locs) : own_Go p.tables e below s Q kc kn A := by
  obtain ⟨fs, hr, hrun, hended, hW, hsame⟩ := X.leave hv hlocks
  exact ⟨_, _, hA fs hr, hrun, hended, _, _, rfl, hQ, ⟨_, rfl⟩, hW, hsame.mono hk hn⟩
theorem own_retZ (X : Stand p l e R s m args below meth c T locs cells slots) (hx : p.tables.exec = Jvm.exec) (hlocks : meth.locks = false) (hret : meth.sig.returnType = some .boolean) {pc : Nat} {Ls : Array Slot} {z : Int32} {rest : List Value} (hd : decode c.code pc = .ok (.ireturn, 1)) (hk : cells ≤ kc) (hn : slots ≤ kn) (hQ : Q (some (.int (z &&& 1))) T.heap locs) : own_Go p.tables e below s Q kc kn (T.setTop (mkF m pc Ls (.int z :: rest))) :=
  own_end X (v := some (.int (z &&& 1))) (fun q => by rw [hret] at q; cases q) hlocks (fun fs hr => retN X hx (t := .boolean) hret (by simp) hd hr) hk hn hQ
theorem own_retI (X : Stand p l e R s m args below meth c T locs cells slots) (hx : p.tables.exec = Jvm.exec) (hlocks : meth.locks = false) (hret : meth.sig.returnType = some .int) {pc : Nat} {Ls : Array Slot} {z : Int32} {rest : List Value} (hd : decode c.code pc = .ok (.ireturn, 1)) (hk : cells ≤ kc) (hn : slots ≤ kn) (hQ : Q (some (.int z)) T.heap locs) : own_Go p.tables e below s Q kc kn (T.setTop (mkF m pc Ls (.int z :: rest))) :=
  own_end X (v := some (.int z)) (fun q => by rw [hret] at q; cases q) hlocks (fun fs hr => retOut X hx hret rfl (Or.inl ⟨rfl, Or.inl rfl, z, rfl⟩) hd hr) hk hn hQ
theorem own_retJ (X : Stand p l e R s m args below meth c T locs cells slots) (hx : p.tables.exec = Jvm.exec) (hlocks : meth.locks = false) (hret : meth.sig.returnType = some .long) {pc : Nat} {Ls : Array Slot} {z : Int64} {rest : List Value} (hd : decode c.code pc = .ok (.lreturn, 1)) (hk : cells ≤ kc) (hn : slots ≤ kn) (hQ : Q (some (.long z)) T.heap locs) : own_Go p.tables e below s Q kc kn (T.setTop (mkF m pc Ls (.long z :: rest))) :=
  own_end X (v := some (.long z)) (fun q => by rw [hret] at q; cases q) hlocks (fun fs hr => retOut X hx hret rfl (Or.inr (Or.inl ⟨rfl, rfl, z, rfl⟩)) hd hr) hk hn hQ
theorem own_retA (X : Stand p l e R s m args below meth c T locs cells slots) (hx : p.tables.exec = Jvm.exec) (hlocks : meth.locks = false) {t : FieldType} (hret : meth.sig.returnType = some t) (ht : t.isReference = true) {pc : Nat} {Ls : Array Slot} {a : Addr} {rest : List Value} (hd : decode c.code pc = .ok (.areturn, 1)) (hk : cells ≤ kc) (hn : slots ≤ kn) (hQ : Q (some (.ref a)) T.heap locs) : own_Go p.tables e below s Q kc kn (T.setTop (mkF m pc Ls (.ref a :: rest))) :=
  own_end X (v := some (.ref a)) (fun q => by rw [hret] at q; cases q) hlocks (fun fs hr => retOut X hx hret (by cases t <;> first | rfl | cases ht) (Or.inr (Or.inr (Or.inr (Or.inr ⟨rfl, ht, rfl⟩)))) hd hr) hk hn hQ
theorem own_retV (X : Stand p l e R s m args below meth c T locs cells slots) (hx : p.tables.exec = Jvm.exec) (hlocks : meth.locks = false) (hret : meth.sig.returnType = none) {pc : Nat} {Ls : Array Slot} (hd : decode c.code pc = .ok (.return_, 1)) (hk : cells ≤ kc) (hn : slots ≤ kn) (hQ : Q none T.heap locs) : own_Go p.tables e below s Q kc kn (T.setTop (mkF m pc Ls [])) :=
  own_end X (v := none) (fun _ => rfl) hlocks (fun fs hr => X.returnOut hx hret hd hr) hk hn hQ
/-- what a body of this text answers: from these arguments, at this heap -/
abbrev own_Met (l : Launch) (Z : State) (y : MethodName) (bytes : ByteArray) (maxL : Nat) (ret : Option FieldType) (ws : List Jvm.Cond) (rm : Room) (as' : Array Value) (h0 : Heap) (Q : Option Value → Heap → List Loc → Prop) : Prop :=
  MetFree l y (head1 (Jvm.Cond.code y bytes maxL ret :: ws) rm) (fun a U => a = as' ∧ Z.Warmed39 U.vm ∧ U.heap = h0) (fun _ _ _ _ _ => True) (fun _ U o U' => ∃ v L, o = .returned v ∧ Q v U'.heap L ∧ FrameEnd U o U' L rm.cells rm.slots)
theorem own_callS (X : Stand p l e R s m args below meth c T locs cells slots) (hx : p.tables.exec = Jvm.exec) (hZ : Z.Warmed39 s.vm) {own : String} {index : Nat} {y : MethodName} {bytes : ByteArray} {maxL : Nat} {ret : Option FieldType} {rm : Room} {as' : Array Value}
    (hown : s.vm.findClass own = some m.cls) (w1 : (Jvm.Cond.methodLink own index y).before a0 Z = true) (w2 : (Jvm.Cond.static y).before a0 Z = true) (w3 : (Jvm.Cond.initialized y.cls).before a0 Z = true) (w4 : (Jvm.Cond.code y bytes maxL ret).before a0 Z = true)
    (hy : y.cls ≠ "java/lang/invoke/MethodHandle" ∧ y.cls ≠ "java/lang/invoke/VarHandle") (hM : own_Met l Z y bytes maxL ret [] rm as' h Q) {W : Nat} (hf : rm.frames + 1 ≤ R.frames) (hl : W + (maxL + 11) + rm.locals ≤ R.locals) (eT : T.heap = h)
    {g : JFrame} (hg : g.method = m) (hsize : g.locals.size = c.maxLocals) {argsL rest : List Value} (hlen : ∀ sig, parseMethodDescriptor y.desc = some sig → argsL.length = sig.parameters.length) (hstack : g.stack = argsL.reverse ++ rest) (has : argsL.toArray = as')
    (hW : 2 * g.monitorRoom + (rest.map fun v => v.category).sum ≤ W) (hdg : decode c.code g.pc = .ok (.invokestatic index, 3)) (hc : cells + rm.cells ≤ R.cells) (hn : slots + rm.slots ≤ R.slots) :
    ∃ (v : Option Value) (T' : State) (L : List Loc), Stand p l e R s m args below meth c T' (locs ++ L) (cells + rm.cells) (slots + rm.slots) ∧ Q v T'.heap L ∧ ∀ t, Steps p.tables e below (T'.setTop { g with pc := g.pc + 3, stack := v.toList ++ rest }) t → Steps p.tables e below (T.setTop g) t := by
  subst eT
  obtain ⟨v, vm₁, ⟨T', L', k', n'⟩, -, X', ⟨Lc, hQ, l1, y1, z1⟩, st⟩ := Jvm.LawKit.callS X hx (y := y) hown (mvT hZ w1) (mvT hZ w2) (mvT hZ w3) (mvT hZ w4) hy (backOf (W := W) hM hZ w4 w3 hf hl) hg hsize (argsL := argsL) (rest := rest) hlen hstack hW hdg (fun _ _ => ⟨has, rfl, hc, hn⟩)
  dsimp only [Pt.U, Pt.locs, Pt.cells, Pt.slots] at X' l1 y1 z1 st hQ
  subst l1 y1 z1
  exact ⟨v, T', Lc, X', hQ, st⟩
theorem own_callI (X : Stand p l e R s m args below meth c T locs cells slots) (hx : p.tables.exec = Jvm.exec) (hZ : Z.Warmed39 s.vm) {own : String} {index : Nat} {y : MethodName} {bytes : ByteArray} {maxL : Nat} {rm : Room} {as' : Array Value} (hy1 : y.name = "<init>")
    (hown : s.vm.findClass own = some m.cls) (w1 : (Jvm.Cond.methodLink own index y).before a0 Z = true) (w2 : (Jvm.Cond.instanceMethod y).before a0 Z = true) (w3 : (Jvm.Cond.initialized y.cls).before a0 Z = true) (w4 : (Jvm.Cond.code y bytes maxL none).before a0 Z = true)
    (hy : y.cls ≠ "java/lang/invoke/MethodHandle" ∧ y.cls ≠ "java/lang/invoke/VarHandle") (hM : own_Met l Z y bytes maxL none [] rm as' h Q) {W : Nat} (hf : rm.frames + 1 ≤ R.frames) (hl : W + (maxL + 11) + rm.locals ≤ R.locals) (eT : T.heap = h)
    {g : JFrame} (hg : g.method = m) (hsize : g.locals.size = c.maxLocals) {a : Addr} {argsL rest : List Value} (hlen : ∀ sig, parseMethodDescriptor y.desc = some sig → argsL.length = sig.parameters.length) (hstack : g.stack = argsL.reverse ++ .ref a :: rest) (has : (Value.ref a :: argsL).toArray = as')
    (hW : 2 * g.monitorRoom + (rest.map fun v => v.category).sum ≤ W) (hdg : decode c.code g.pc = .ok (.invokespecial index, 3)) (hc : cells + rm.cells ≤ R.cells) (hn : slots + rm.slots ≤ R.slots) :
    ∃ (v : Option Value) (T' : State) (L : List Loc), Stand p l e R s m args below meth c T' (locs ++ L) (cells + rm.cells) (slots + rm.slots) ∧ Q v T'.heap L ∧ ∀ t, Steps p.tables e below (T'.setTop { g with pc := g.pc + 3, stack := v.toList ++ rest }) t → Steps p.tables e below (T.setTop g) t := by
  subst eT
  obtain ⟨v, vm₁, ⟨T', L', k', n'⟩, -, X', ⟨Lc, hQ, l1, y1, z1⟩, st⟩ := X.specialBack hx (y := y) hy1 hown (mvT hZ w1) (mvT hZ w2) (mvT hZ w4) hy (backOf (W := W) hM hZ w4 w3 hf hl) hg hsize (Steps.refl _) (a := a) (argsL := argsL) (rest := rest) hlen hstack hW hdg (fun _ _ => ⟨has, rfl, hc, hn⟩)
  dsimp only [Pt.U, Pt.locs, Pt.cells, Pt.slots] at X' l1 y1 z1 st hQ
  subst l1 y1 z1
  exact ⟨v, T', Lc, X', hQ, fun t k => st.trans k⟩
theorem own_callV (X : Stand p l e R s m args below meth c T locs cells slots) (hx : p.tables.exec = Jvm.exec) (hZ : Z.Warmed39 s.vm) {own : String} {index : Nat} {y : MethodName} {bytes : ByteArray} {maxL : Nat} {ret : Option FieldType} {rm : Room} {as' : Array Value}
    (hown : s.vm.findClass own = some m.cls) (w1 : (Jvm.Cond.methodLink own index y).before a0 Z = true) (w5 : (Jvm.Cond.declares y).before a0 Z = true) (w6 : (Jvm.Cond.selects y.cls y y).before a0 Z = true) (w2 : (Jvm.Cond.instanceMethod y).before a0 Z = true) (w3 : (Jvm.Cond.initialized y.cls).before a0 Z = true) (w4 : (Jvm.Cond.code y bytes maxL ret).before a0 Z = true)
    (hy : y.cls ≠ "java/lang/invoke/MethodHandle" ∧ y.cls ≠ "java/lang/invoke/VarHandle") (hM : own_Met l Z y bytes maxL ret [] rm as' h Q) {W : Nat} (hf : rm.frames + 1 ≤ R.frames) (hl : W + (maxL + 11) + rm.locals ≤ R.locals) (eT : T.heap = h) {a : Addr} (E : Exa Z h a y.cls)
    {g : JFrame} (hg : g.method = m) (hsize : g.locals.size = c.maxLocals) {argsL rest : List Value} (hlen : ∀ sig, parseMethodDescriptor y.desc = some sig → argsL.length = sig.parameters.length) (hstack : g.stack = argsL.reverse ++ .ref a :: rest) (has : (Value.ref a :: argsL).toArray = as')
    (hW : 2 * g.monitorRoom + (rest.map fun v => v.category).sum ≤ W) (hdg : decode c.code g.pc = .ok (.invokevirtual index, 3)) (hc : cells + rm.cells ≤ R.cells) (hn : slots + rm.slots ≤ R.slots) :
    ∃ (v : Option Value) (T' : State) (L : List Loc), Stand p l e R s m args below meth c T' (locs ++ L) (cells + rm.cells) (slots + rm.slots) ∧ Q v T'.heap L ∧ ∀ t, Steps p.tables e below (T'.setTop { g with pc := g.pc + 3, stack := v.toList ++ rest }) t → Steps p.tables e below (T.setTop g) t := by
  subst eT
  obtain ⟨cq, kq, qa, qb, qc⟩ := isOf hZ rfl E
  obtain ⟨v, vm₁, ⟨T', L', k', n'⟩, -, X', ⟨Lc, hQ, l1, y1, z1⟩, st⟩ := X.virtualBack hx (y := y) (z := y) hown (mvT hZ w1) (mvT hZ w5) (notFace_of_selects (args := #[]) (mvT hZ w6)) (mvT hZ w6) (mvT hZ w2) hy (backOf (W := W) hM hZ w4 w3 hf hl) qa qc hg hsize (Steps.refl _) (argsL := argsL) (rest := rest) hlen hstack hW hdg (fun _ _ => ⟨has, rfl, hc, hn⟩)
  dsimp only [Pt.U, Pt.locs, Pt.cells, Pt.slots] at X' l1 y1 z1 st hQ
  subst l1 y1 z1
  exact ⟨v, T', Lc, X', hQ, fun t k => st.trans k⟩
end Own

theorem own_and1 : ((1 : Int32) &&& 1) = 1 ∧ ((0 : Int32) &&& 1) = 0 := by decide
/-- the code points that may be named -/
def own_nm (x : Int32) : Int32 := if ((160 ≤ x.toInt ∨ x.toInt = 36 ∨ x.toInt = 64 ∨ x.toInt = 96) ∧ (x.toInt < 55296 ∨ 57343 < x.toInt)) then 1 else 0
theorem own_nm1 {x : Int32} (h : ((160 ≤ x.toInt ∨ x.toInt = 36 ∨ x.toInt = 64 ∨ x.toInt = 96) ∧ (x.toInt < 55296 ∨ 57343 < x.toInt))) : own_nm x = 1 := if_pos h
theorem own_nm0 {x : Int32} (h : ¬ ((160 ≤ x.toInt ∨ x.toInt = 36 ∨ x.toInt = 64 ∨ x.toInt = 96) ∧ (x.toInt < 55296 ∨ 57343 < x.toInt))) : own_nm x = 0 := if_neg h
theorem own_lt (x y : Int32) : x < y ↔ x.toInt < y.toInt := Int32.lt_iff_toInt_lt
theorem own_eq (x y : Int32) : x = y ↔ x.toInt = y.toInt := Int32.toInt_inj.symm
theorem d1_0 : decode method_3_code 0 = .ok (.iload_n 1, 1) := by decide +kernel
theorem d1_1 : decode method_3_code 1 = .ok (.ifCond .ne 5, 3) := by decide +kernel
theorem d1_4 : decode method_3_code 4 = .ok (.iload_n 0, 1) := by decide +kernel
theorem d1_5 : decode method_3_code 5 = .ok (.ireturn, 1) := by decide +kernel
theorem d1_6 : decode method_3_code 6 = .ok (.iload_n 1, 1) := by decide +kernel
theorem d1_7 : decode method_3_code 7 = .ok (.iconst 1, 1) := by decide +kernel
theorem d1_8 : decode method_3_code 8 = .ok (.if_icmp .ne 7, 3) := by decide +kernel
theorem d1_11 : decode method_3_code 11 = .ok (.sipush 159, 3) := by decide +kernel
theorem d1_14 : decode method_3_code 14 = .ok (.ireturn, 1) := by decide +kernel
theorem d1_15 : decode method_3_code 15 = .ok (.iload_n 1, 1) := by decide +kernel
theorem d1_16 : decode method_3_code 16 = .ok (.iconst 2, 1) := by decide +kernel
theorem d1_17 : decode method_3_code 17 = .ok (.if_icmp .ne 7, 3) := by decide +kernel
theorem d1_20 : decode method_3_code 20 = .ok (.sipush 160, 3) := by decide +kernel
theorem d1_23 : decode method_3_code 23 = .ok (.ireturn, 1) := by decide +kernel
theorem d1_24 : decode method_3_code 24 = .ok (.iload_n 1, 1) := by decide +kernel
theorem d1_25 : decode method_3_code 25 = .ok (.iconst 3, 1) := by decide +kernel
theorem d1_26 : decode method_3_code 26 = .ok (.if_icmp .ne 6, 3) := by decide +kernel
theorem d1_29 : decode method_3_code 29 = .ok (.ldc 22, 2) := by decide +kernel
theorem d1_31 : decode method_3_code 31 = .ok (.ireturn, 1) := by decide +kernel
theorem d1_32 : decode method_3_code 32 = .ok (.iload_n 1, 1) := by decide +kernel
theorem d1_33 : decode method_3_code 33 = .ok (.iconst 4, 1) := by decide +kernel
theorem d1_34 : decode method_3_code 34 = .ok (.if_icmp .ne 6, 3) := by decide +kernel
theorem d1_37 : decode method_3_code 37 = .ok (.ldc 23, 2) := by decide +kernel
theorem d1_39 : decode method_3_code 39 = .ok (.ireturn, 1) := by decide +kernel
theorem d1_40 : decode method_3_code 40 = .ok (.iload_n 1, 1) := by decide +kernel
theorem d1_41 : decode method_3_code 41 = .ok (.iconst 5, 1) := by decide +kernel
theorem d1_42 : decode method_3_code 42 = .ok (.if_icmp .ne 6, 3) := by decide +kernel
theorem d1_45 : decode method_3_code 45 = .ok (.ldc 24, 2) := by decide +kernel
theorem d1_47 : decode method_3_code 47 = .ok (.ireturn, 1) := by decide +kernel
theorem d1_48 : decode method_3_code 48 = .ok (.iload_n 1, 1) := by decide +kernel
theorem d1_49 : decode method_3_code 49 = .ok (.bipush 6, 2) := by decide +kernel
theorem d1_51 : decode method_3_code 51 = .ok (.if_icmp .ne 6, 3) := by decide +kernel
theorem d1_54 : decode method_3_code 54 = .ok (.ldc 25, 2) := by decide +kernel
theorem d1_56 : decode method_3_code 56 = .ok (.ireturn, 1) := by decide +kernel
theorem d1_57 : decode method_3_code 57 = .ok (.iload_n 1, 1) := by decide +kernel
theorem d1_58 : decode method_3_code 58 = .ok (.bipush 7, 2) := by decide +kernel
theorem d1_60 : decode method_3_code 60 = .ok (.if_icmp .ne 6, 3) := by decide +kernel
theorem d1_63 : decode method_3_code 63 = .ok (.bipush 36, 2) := by decide +kernel
theorem d1_65 : decode method_3_code 65 = .ok (.ireturn, 1) := by decide +kernel
theorem d1_66 : decode method_3_code 66 = .ok (.iload_n 1, 1) := by decide +kernel
theorem d1_67 : decode method_3_code 67 = .ok (.bipush 8, 2) := by decide +kernel
theorem d1_69 : decode method_3_code 69 = .ok (.if_icmp .ne 6, 3) := by decide +kernel
theorem d1_72 : decode method_3_code 72 = .ok (.bipush 64, 2) := by decide +kernel
theorem d1_74 : decode method_3_code 74 = .ok (.ireturn, 1) := by decide +kernel
theorem d1_75 : decode method_3_code 75 = .ok (.iload_n 1, 1) := by decide +kernel
theorem d1_76 : decode method_3_code 76 = .ok (.bipush 9, 2) := by decide +kernel
theorem d1_78 : decode method_3_code 78 = .ok (.if_icmp .ne 6, 3) := by decide +kernel
theorem d1_81 : decode method_3_code 81 = .ok (.bipush 96, 2) := by decide +kernel
theorem d1_83 : decode method_3_code 83 = .ok (.ireturn, 1) := by decide +kernel
theorem d1_84 : decode method_3_code 84 = .ok (.iload_n 1, 1) := by decide +kernel
theorem d1_85 : decode method_3_code 85 = .ok (.bipush 10, 2) := by decide +kernel
theorem d1_87 : decode method_3_code 87 = .ok (.if_icmp .ne 9, 3) := by decide +kernel
theorem d1_90 : decode method_3_code 90 = .ok (.iload_n 0, 1) := by decide +kernel
theorem d1_91 : decode method_3_code 91 = .ok (.sipush 255, 3) := by decide +kernel
theorem d1_94 : decode method_3_code 94 = .ok (.iand, 1) := by decide +kernel
theorem d1_95 : decode method_3_code 95 = .ok (.ireturn, 1) := by decide +kernel
theorem d1_96 : decode method_3_code 96 = .ok (.iload_n 1, 1) := by decide +kernel
theorem d1_97 : decode method_3_code 97 = .ok (.bipush 11, 2) := by decide +kernel
theorem d1_99 : decode method_3_code 99 = .ok (.if_icmp .ne 12, 3) := by decide +kernel
theorem d1_102 : decode method_3_code 102 = .ok (.ldc 23, 2) := by decide +kernel
theorem d1_104 : decode method_3_code 104 = .ok (.iload_n 0, 1) := by decide +kernel
theorem d1_105 : decode method_3_code 105 = .ok (.sipush 2047, 3) := by decide +kernel
theorem d1_108 : decode method_3_code 108 = .ok (.iand, 1) := by decide +kernel
theorem d1_109 : decode method_3_code 109 = .ok (.iadd, 1) := by decide +kernel
theorem d1_110 : decode method_3_code 110 = .ok (.ireturn, 1) := by decide +kernel
theorem d1_111 : decode method_3_code 111 = .ok (.iload_n 1, 1) := by decide +kernel
theorem d1_112 : decode method_3_code 112 = .ok (.bipush 12, 2) := by decide +kernel
theorem d1_114 : decode method_3_code 114 = .ok (.if_icmp .ne 12, 3) := by decide +kernel
theorem d1_117 : decode method_3_code 117 = .ok (.bipush 35, 2) := by decide +kernel
theorem d1_119 : decode method_3_code 119 = .ok (.iload_n 0, 1) := by decide +kernel
theorem d1_120 : decode method_3_code 120 = .ok (.iconst 1, 1) := by decide +kernel
theorem d1_121 : decode method_3_code 121 = .ok (.iand, 1) := by decide +kernel
theorem d1_122 : decode method_3_code 122 = .ok (.iconst 2, 1) := by decide +kernel
theorem d1_123 : decode method_3_code 123 = .ok (.imul, 1) := by decide +kernel
theorem d1_124 : decode method_3_code 124 = .ok (.iadd, 1) := by decide +kernel
theorem d1_125 : decode method_3_code 125 = .ok (.ireturn, 1) := by decide +kernel
theorem d1_126 : decode method_3_code 126 = .ok (.iload_n 1, 1) := by decide +kernel
theorem d1_127 : decode method_3_code 127 = .ok (.bipush 13, 2) := by decide +kernel
theorem d1_129 : decode method_3_code 129 = .ok (.if_icmp .ne 12, 3) := by decide +kernel
theorem d1_132 : decode method_3_code 132 = .ok (.bipush 63, 2) := by decide +kernel
theorem d1_134 : decode method_3_code 134 = .ok (.iload_n 0, 1) := by decide +kernel
theorem d1_135 : decode method_3_code 135 = .ok (.iconst 1, 1) := by decide +kernel
theorem d1_136 : decode method_3_code 136 = .ok (.iand, 1) := by decide +kernel
theorem d1_137 : decode method_3_code 137 = .ok (.iconst 2, 1) := by decide +kernel
theorem d1_138 : decode method_3_code 138 = .ok (.imul, 1) := by decide +kernel
theorem d1_139 : decode method_3_code 139 = .ok (.iadd, 1) := by decide +kernel
theorem d1_140 : decode method_3_code 140 = .ok (.ireturn, 1) := by decide +kernel
theorem d1_141 : decode method_3_code 141 = .ok (.iload_n 1, 1) := by decide +kernel
theorem d1_142 : decode method_3_code 142 = .ok (.bipush 14, 2) := by decide +kernel
theorem d1_144 : decode method_3_code 144 = .ok (.if_icmp .ne 12, 3) := by decide +kernel
theorem d1_147 : decode method_3_code 147 = .ok (.bipush 95, 2) := by decide +kernel
theorem d1_149 : decode method_3_code 149 = .ok (.iload_n 0, 1) := by decide +kernel
theorem d1_150 : decode method_3_code 150 = .ok (.iconst 1, 1) := by decide +kernel
theorem d1_151 : decode method_3_code 151 = .ok (.iand, 1) := by decide +kernel
theorem d1_152 : decode method_3_code 152 = .ok (.iconst 2, 1) := by decide +kernel
theorem d1_153 : decode method_3_code 153 = .ok (.imul, 1) := by decide +kernel
theorem d1_154 : decode method_3_code 154 = .ok (.iadd, 1) := by decide +kernel
theorem d1_155 : decode method_3_code 155 = .ok (.ireturn, 1) := by decide +kernel
theorem d1_156 : decode method_3_code 156 = .ok (.iload_n 0, 1) := by decide +kernel
theorem d1_157 : decode method_3_code 157 = .ok (.ldc 26, 2) := by decide +kernel
theorem d1_159 : decode method_3_code 159 = .ok (.iand, 1) := by decide +kernel
theorem d1_160 : decode method_3_code 160 = .ok (.ireturn, 1) := by decide +kernel
theorem pf_1 : plainFor (⟨"com/example/proofhound/proofhound/frontend/IdentifierCharactersNameablePinLaw", "pick", "(II)I"⟩ : MethodName) = true := by first | exact plainFor_of_name (by first | (simp [plainName, overriddenIn]; done) | decide +kernel) | decide +kernel
theorem pd_1 : parseMethodDescriptor "(II)I" = some ⟨[.int, .int], some .int⟩ := by decide +kernel
theorem ef_1 (m : MethodId) (p1 : Int32) (p2 : Int32) : entryFrame m #[(.int p1), (.int p2)] 2 = mkF m 0 #[.val (.int p1), .val (.int p2)] [] := by first | (simp [entryFrame, mkF, argsToLocals, Value.category]; done) | rfl
def Q1 (p1 : Int32) (p2 : Int32) (h0 : Heap) (n0 : Nat) (v : Option Value) (h : Heap) (L : List Loc) : Prop := (∃ z : Int32, v = some (.int z)) ∧ Fr n0 L ∧ h = h0
set_option maxRecDepth 65536 in
set_option maxHeartbeats 40000000 in
theorem rm1 (l : Launch) (Z : State) (a0 : Array Value) (hw : ∀ d ∈ tables_1, d.before a0 Z = true) (ws : List Jvm.Cond) (p1 : Int32) (p2 : Int32) (h0 : Heap) (n0 : Nat) (Z0 : n0 ≤ h0.size)  :
    own_Met l Z (⟨"com/example/proofhound/proofhound/frontend/IdentifierCharactersNameablePinLaw", "pick", "(II)I"⟩ : MethodName) method_3_code 2 (some .int) ws ({ frames := 0, cells := 0, slots := 0, locals := 0 } : Room) #[(.int p1), (.int p2)] h0 (Q1 p1 p2 h0 n0) := by
  refine MetFree.of_bodySF pf_1 hisR ?_
  intro p e s m args below meth c s₁ Bd hml0 hP hK
  obtain ⟨rfl, hZ, hh⟩ := hP
  have hx := Bd.exec
  have hby := Bd.bytes
  have hlk : meth.locks = false := BodyLoose.notSynchronized Bd
  have hml : c.maxLocals = 2 := hml0
  have hown : s.vm.findClass "com/example/proofhound/proofhound/frontend/IdentifierCharactersNameablePinLaw" = some m.cls := findClass_of_methodNamed Bd.named
  have hnm := (name_of_methodNamed Bd.named Bd.method).1
  have X0 : Stand p l e ({ frames := 0, cells := 0, slots := 0, locals := 0 } : Room) s m #[(.int p1), (.int p2)] below meth c s₁ [] 0 0 := Stand.of_body Bd
  have e0 : s₁.heap = h0 := by rw [← hh, Bd.state]; rfl
  have N0 := Fr.nil n0
  show own_Go p.tables e below s (Q1 p1 p2 h0 n0) ({ frames := 0, cells := 0, slots := 0, locals := 0 } : Room).cells ({ frames := 0, cells := 0, slots := 0, locals := 0 } : Room).slots _
  refine own_by (fun _ k => castTop (ef_1 m p1 p2) k) ?_
  show own_Go p.tables e below s _ _ _ (s₁.setTop (mkF m 0 #[.val (.int p1), .val (.int p2)] []))
  refine own_by (fun _ k => XS.iloadN X0.here hx rfl (hb hby d1_0) rfl k) ?_
  show own_Go p.tables e below s _ _ _ (s₁.setTop (mkF m 1 #[.val (.int p1), .val (.int p2)] [(.int p2)]))
  by_cases hc1_1 : p2 = (0 : Int32)
  · refine own_by (fun _ k => XS.ifNo X0.here hx rfl (hb hby d1_1) rfl ((if0 _ _).trans (teq hc1_1).2) k) ?_
    show own_Go p.tables e below s _ _ _ (s₁.setTop (mkF m 4 #[.val (.int p1), .val (.int p2)] []))
    refine own_by (fun _ k => XS.iloadN X0.here hx rfl (hb hby d1_4) rfl k) ?_
    show own_Go p.tables e below s _ _ _ (s₁.setTop (mkF m 5 #[.val (.int p1), .val (.int p2)] [(.int p1)]))
    exact own_retI X0 hx hlk Bd.returns (hb hby d1_5) (by decide) (by decide) ⟨⟨_, rfl⟩, N0, e0⟩
  · refine own_by (fun _ k => XS.ifYes X0.here hx rfl (pc0 := 1) (pc' := 6) rfl (hb hby d1_1) rfl ((if0 _ _).trans (feq hc1_1).2) (by decide) (by decide) k) ?_
    show own_Go p.tables e below s _ _ _ (s₁.setTop (mkF m 6 #[.val (.int p1), .val (.int p2)] []))
    refine own_by (fun _ k => XS.iloadN X0.here hx rfl (hb hby d1_6) rfl k) ?_
    show own_Go p.tables e below s _ _ _ (s₁.setTop (mkF m 7 #[.val (.int p1), .val (.int p2)] [(.int p2)]))
    refine own_by (fun _ k => XS.iconst X0.here hx rfl (hb hby d1_7) k) ?_
    show own_Go p.tables e below s _ _ _ (s₁.setTop (mkF m 8 #[.val (.int p1), .val (.int p2)] [(.int (1 : Int32)), (.int p2)]))
    by_cases hc8_2 : p2 = (1 : Int32)
    · refine own_by (fun _ k => XS.icmpNo X0.here hx rfl (hb hby d1_8) rfl (teq hc8_2).2 k) ?_
      show own_Go p.tables e below s _ _ _ (s₁.setTop (mkF m 11 #[.val (.int p1), .val (.int p2)] []))
      refine own_by (fun _ k => XS.sipush X0.here hx rfl (hb hby d1_11) k) ?_
      show own_Go p.tables e below s _ _ _ (s₁.setTop (mkF m 14 #[.val (.int p1), .val (.int p2)] [(.int (159 : Int32))]))
      exact own_retI X0 hx hlk Bd.returns (hb hby d1_14) (by decide) (by decide) ⟨⟨_, rfl⟩, N0, e0⟩
    · refine own_by (fun _ k => XS.icmpYes X0.here hx rfl (pc0 := 8) (pc' := 15) rfl (hb hby d1_8) rfl (feq hc8_2).2 (by decide) (by decide) k) ?_
      show own_Go p.tables e below s _ _ _ (s₁.setTop (mkF m 15 #[.val (.int p1), .val (.int p2)] []))
      refine own_by (fun _ k => XS.iloadN X0.here hx rfl (hb hby d1_15) rfl k) ?_
      show own_Go p.tables e below s _ _ _ (s₁.setTop (mkF m 16 #[.val (.int p1), .val (.int p2)] [(.int p2)]))
      refine own_by (fun _ k => XS.iconst X0.here hx rfl (hb hby d1_16) k) ?_
      show own_Go p.tables e below s _ _ _ (s₁.setTop (mkF m 17 #[.val (.int p1), .val (.int p2)] [(.int (2 : Int32)), (.int p2)]))
      by_cases hc17_3 : p2 = (2 : Int32)
      · refine own_by (fun _ k => XS.icmpNo X0.here hx rfl (hb hby d1_17) rfl (teq hc17_3).2 k) ?_
        show own_Go p.tables e below s _ _ _ (s₁.setTop (mkF m 20 #[.val (.int p1), .val (.int p2)] []))
        refine own_by (fun _ k => XS.sipush X0.here hx rfl (hb hby d1_20) k) ?_
        show own_Go p.tables e below s _ _ _ (s₁.setTop (mkF m 23 #[.val (.int p1), .val (.int p2)] [(.int (160 : Int32))]))
        exact own_retI X0 hx hlk Bd.returns (hb hby d1_23) (by decide) (by decide) ⟨⟨_, rfl⟩, N0, e0⟩
      · refine own_by (fun _ k => XS.icmpYes X0.here hx rfl (pc0 := 17) (pc' := 24) rfl (hb hby d1_17) rfl (feq hc17_3).2 (by decide) (by decide) k) ?_
        show own_Go p.tables e below s _ _ _ (s₁.setTop (mkF m 24 #[.val (.int p1), .val (.int p2)] []))
        refine own_by (fun _ k => XS.iloadN X0.here hx rfl (hb hby d1_24) rfl k) ?_
        show own_Go p.tables e below s _ _ _ (s₁.setTop (mkF m 25 #[.val (.int p1), .val (.int p2)] [(.int p2)]))
        refine own_by (fun _ k => XS.iconst X0.here hx rfl (hb hby d1_25) k) ?_
        show own_Go p.tables e below s _ _ _ (s₁.setTop (mkF m 26 #[.val (.int p1), .val (.int p2)] [(.int (3 : Int32)), (.int p2)]))
        by_cases hc26_4 : p2 = (3 : Int32)
        · refine own_by (fun _ k => XS.icmpNo X0.here hx rfl (hb hby d1_26) rfl (teq hc26_4).2 k) ?_
          show own_Go p.tables e below s _ _ _ (s₁.setTop (mkF m 29 #[.val (.int p1), .val (.int p2)] []))
          refine own_by (fun _ k => X0.ldcInt hx hown (mvT hZ (hw _ (List.mem_of_getElem? (i := 4) rfl))) (g := (mkF m 29 #[.val (.int p1), .val (.int p2)] [])) rfl (hb hby d1_29) _ k) ?_
          show own_Go p.tables e below s _ _ _ (s₁.setTop (mkF m 31 #[.val (.int p1), .val (.int p2)] [(.int (55295 : Int32))]))
          exact own_retI X0 hx hlk Bd.returns (hb hby d1_31) (by decide) (by decide) ⟨⟨_, rfl⟩, N0, e0⟩
        · refine own_by (fun _ k => XS.icmpYes X0.here hx rfl (pc0 := 26) (pc' := 32) rfl (hb hby d1_26) rfl (feq hc26_4).2 (by decide) (by decide) k) ?_
          show own_Go p.tables e below s _ _ _ (s₁.setTop (mkF m 32 #[.val (.int p1), .val (.int p2)] []))
          refine own_by (fun _ k => XS.iloadN X0.here hx rfl (hb hby d1_32) rfl k) ?_
          show own_Go p.tables e below s _ _ _ (s₁.setTop (mkF m 33 #[.val (.int p1), .val (.int p2)] [(.int p2)]))
          refine own_by (fun _ k => XS.iconst X0.here hx rfl (hb hby d1_33) k) ?_
          show own_Go p.tables e below s _ _ _ (s₁.setTop (mkF m 34 #[.val (.int p1), .val (.int p2)] [(.int (4 : Int32)), (.int p2)]))
          by_cases hc34_5 : p2 = (4 : Int32)
          · refine own_by (fun _ k => XS.icmpNo X0.here hx rfl (hb hby d1_34) rfl (teq hc34_5).2 k) ?_
            show own_Go p.tables e below s _ _ _ (s₁.setTop (mkF m 37 #[.val (.int p1), .val (.int p2)] []))
            refine own_by (fun _ k => X0.ldcInt hx hown (mvT hZ (hw _ (List.mem_of_getElem? (i := 14) rfl))) (g := (mkF m 37 #[.val (.int p1), .val (.int p2)] [])) rfl (hb hby d1_37) _ k) ?_
            show own_Go p.tables e below s _ _ _ (s₁.setTop (mkF m 39 #[.val (.int p1), .val (.int p2)] [(.int (55296 : Int32))]))
            exact own_retI X0 hx hlk Bd.returns (hb hby d1_39) (by decide) (by decide) ⟨⟨_, rfl⟩, N0, e0⟩
          · refine own_by (fun _ k => XS.icmpYes X0.here hx rfl (pc0 := 34) (pc' := 40) rfl (hb hby d1_34) rfl (feq hc34_5).2 (by decide) (by decide) k) ?_
            show own_Go p.tables e below s _ _ _ (s₁.setTop (mkF m 40 #[.val (.int p1), .val (.int p2)] []))
            refine own_by (fun _ k => XS.iloadN X0.here hx rfl (hb hby d1_40) rfl k) ?_
            show own_Go p.tables e below s _ _ _ (s₁.setTop (mkF m 41 #[.val (.int p1), .val (.int p2)] [(.int p2)]))
            refine own_by (fun _ k => XS.iconst X0.here hx rfl (hb hby d1_41) k) ?_
            show own_Go p.tables e below s _ _ _ (s₁.setTop (mkF m 42 #[.val (.int p1), .val (.int p2)] [(.int (5 : Int32)), (.int p2)]))
            by_cases hc42_6 : p2 = (5 : Int32)
            · refine own_by (fun _ k => XS.icmpNo X0.here hx rfl (hb hby d1_42) rfl (teq hc42_6).2 k) ?_
              show own_Go p.tables e below s _ _ _ (s₁.setTop (mkF m 45 #[.val (.int p1), .val (.int p2)] []))
              refine own_by (fun _ k => X0.ldcInt hx hown (mvT hZ (hw _ (List.mem_of_getElem? (i := 17) rfl))) (g := (mkF m 45 #[.val (.int p1), .val (.int p2)] [])) rfl (hb hby d1_45) _ k) ?_
              show own_Go p.tables e below s _ _ _ (s₁.setTop (mkF m 47 #[.val (.int p1), .val (.int p2)] [(.int (57343 : Int32))]))
              exact own_retI X0 hx hlk Bd.returns (hb hby d1_47) (by decide) (by decide) ⟨⟨_, rfl⟩, N0, e0⟩
            · refine own_by (fun _ k => XS.icmpYes X0.here hx rfl (pc0 := 42) (pc' := 48) rfl (hb hby d1_42) rfl (feq hc42_6).2 (by decide) (by decide) k) ?_
              show own_Go p.tables e below s _ _ _ (s₁.setTop (mkF m 48 #[.val (.int p1), .val (.int p2)] []))
              refine own_by (fun _ k => XS.iloadN X0.here hx rfl (hb hby d1_48) rfl k) ?_
              show own_Go p.tables e below s _ _ _ (s₁.setTop (mkF m 49 #[.val (.int p1), .val (.int p2)] [(.int p2)]))
              refine own_by (fun _ k => XS.bipush X0.here hx rfl (hb hby d1_49) k) ?_
              show own_Go p.tables e below s _ _ _ (s₁.setTop (mkF m 51 #[.val (.int p1), .val (.int p2)] [(.int (6 : Int32)), (.int p2)]))
              by_cases hc51_7 : p2 = (6 : Int32)
              · refine own_by (fun _ k => XS.icmpNo X0.here hx rfl (hb hby d1_51) rfl (teq hc51_7).2 k) ?_
                show own_Go p.tables e below s _ _ _ (s₁.setTop (mkF m 54 #[.val (.int p1), .val (.int p2)] []))
                refine own_by (fun _ k => X0.ldcInt hx hown (mvT hZ (hw _ (List.mem_of_getElem? (i := 13) rfl))) (g := (mkF m 54 #[.val (.int p1), .val (.int p2)] [])) rfl (hb hby d1_54) _ k) ?_
                show own_Go p.tables e below s _ _ _ (s₁.setTop (mkF m 56 #[.val (.int p1), .val (.int p2)] [(.int (57344 : Int32))]))
                exact own_retI X0 hx hlk Bd.returns (hb hby d1_56) (by decide) (by decide) ⟨⟨_, rfl⟩, N0, e0⟩
              · refine own_by (fun _ k => XS.icmpYes X0.here hx rfl (pc0 := 51) (pc' := 57) rfl (hb hby d1_51) rfl (feq hc51_7).2 (by decide) (by decide) k) ?_
                show own_Go p.tables e below s _ _ _ (s₁.setTop (mkF m 57 #[.val (.int p1), .val (.int p2)] []))
                refine own_by (fun _ k => XS.iloadN X0.here hx rfl (hb hby d1_57) rfl k) ?_
                show own_Go p.tables e below s _ _ _ (s₁.setTop (mkF m 58 #[.val (.int p1), .val (.int p2)] [(.int p2)]))
                refine own_by (fun _ k => XS.bipush X0.here hx rfl (hb hby d1_58) k) ?_
                show own_Go p.tables e below s _ _ _ (s₁.setTop (mkF m 60 #[.val (.int p1), .val (.int p2)] [(.int (7 : Int32)), (.int p2)]))
                by_cases hc60_8 : p2 = (7 : Int32)
                · refine own_by (fun _ k => XS.icmpNo X0.here hx rfl (hb hby d1_60) rfl (teq hc60_8).2 k) ?_
                  show own_Go p.tables e below s _ _ _ (s₁.setTop (mkF m 63 #[.val (.int p1), .val (.int p2)] []))
                  refine own_by (fun _ k => XS.bipush X0.here hx rfl (hb hby d1_63) k) ?_
                  show own_Go p.tables e below s _ _ _ (s₁.setTop (mkF m 65 #[.val (.int p1), .val (.int p2)] [(.int (36 : Int32))]))
                  exact own_retI X0 hx hlk Bd.returns (hb hby d1_65) (by decide) (by decide) ⟨⟨_, rfl⟩, N0, e0⟩
                · refine own_by (fun _ k => XS.icmpYes X0.here hx rfl (pc0 := 60) (pc' := 66) rfl (hb hby d1_60) rfl (feq hc60_8).2 (by decide) (by decide) k) ?_
                  show own_Go p.tables e below s _ _ _ (s₁.setTop (mkF m 66 #[.val (.int p1), .val (.int p2)] []))
                  refine own_by (fun _ k => XS.iloadN X0.here hx rfl (hb hby d1_66) rfl k) ?_
                  show own_Go p.tables e below s _ _ _ (s₁.setTop (mkF m 67 #[.val (.int p1), .val (.int p2)] [(.int p2)]))
                  refine own_by (fun _ k => XS.bipush X0.here hx rfl (hb hby d1_67) k) ?_
                  show own_Go p.tables e below s _ _ _ (s₁.setTop (mkF m 69 #[.val (.int p1), .val (.int p2)] [(.int (8 : Int32)), (.int p2)]))
                  by_cases hc69_9 : p2 = (8 : Int32)
                  · refine own_by (fun _ k => XS.icmpNo X0.here hx rfl (hb hby d1_69) rfl (teq hc69_9).2 k) ?_
                    show own_Go p.tables e below s _ _ _ (s₁.setTop (mkF m 72 #[.val (.int p1), .val (.int p2)] []))
                    refine own_by (fun _ k => XS.bipush X0.here hx rfl (hb hby d1_72) k) ?_
                    show own_Go p.tables e below s _ _ _ (s₁.setTop (mkF m 74 #[.val (.int p1), .val (.int p2)] [(.int (64 : Int32))]))
                    exact own_retI X0 hx hlk Bd.returns (hb hby d1_74) (by decide) (by decide) ⟨⟨_, rfl⟩, N0, e0⟩
                  · refine own_by (fun _ k => XS.icmpYes X0.here hx rfl (pc0 := 69) (pc' := 75) rfl (hb hby d1_69) rfl (feq hc69_9).2 (by decide) (by decide) k) ?_
                    show own_Go p.tables e below s _ _ _ (s₁.setTop (mkF m 75 #[.val (.int p1), .val (.int p2)] []))
                    refine own_by (fun _ k => XS.iloadN X0.here hx rfl (hb hby d1_75) rfl k) ?_
                    show own_Go p.tables e below s _ _ _ (s₁.setTop (mkF m 76 #[.val (.int p1), .val (.int p2)] [(.int p2)]))
                    refine own_by (fun _ k => XS.bipush X0.here hx rfl (hb hby d1_76) k) ?_
                    show own_Go p.tables e below s _ _ _ (s₁.setTop (mkF m 78 #[.val (.int p1), .val (.int p2)] [(.int (9 : Int32)), (.int p2)]))
                    by_cases hc78_10 : p2 = (9 : Int32)
                    · refine own_by (fun _ k => XS.icmpNo X0.here hx rfl (hb hby d1_78) rfl (teq hc78_10).2 k) ?_
                      show own_Go p.tables e below s _ _ _ (s₁.setTop (mkF m 81 #[.val (.int p1), .val (.int p2)] []))
                      refine own_by (fun _ k => XS.bipush X0.here hx rfl (hb hby d1_81) k) ?_
                      show own_Go p.tables e below s _ _ _ (s₁.setTop (mkF m 83 #[.val (.int p1), .val (.int p2)] [(.int (96 : Int32))]))
                      exact own_retI X0 hx hlk Bd.returns (hb hby d1_83) (by decide) (by decide) ⟨⟨_, rfl⟩, N0, e0⟩
                    · refine own_by (fun _ k => XS.icmpYes X0.here hx rfl (pc0 := 78) (pc' := 84) rfl (hb hby d1_78) rfl (feq hc78_10).2 (by decide) (by decide) k) ?_
                      show own_Go p.tables e below s _ _ _ (s₁.setTop (mkF m 84 #[.val (.int p1), .val (.int p2)] []))
                      refine own_by (fun _ k => XS.iloadN X0.here hx rfl (hb hby d1_84) rfl k) ?_
                      show own_Go p.tables e below s _ _ _ (s₁.setTop (mkF m 85 #[.val (.int p1), .val (.int p2)] [(.int p2)]))
                      refine own_by (fun _ k => XS.bipush X0.here hx rfl (hb hby d1_85) k) ?_
                      show own_Go p.tables e below s _ _ _ (s₁.setTop (mkF m 87 #[.val (.int p1), .val (.int p2)] [(.int (10 : Int32)), (.int p2)]))
                      by_cases hc87_11 : p2 = (10 : Int32)
                      · refine own_by (fun _ k => XS.icmpNo X0.here hx rfl (hb hby d1_87) rfl (teq hc87_11).2 k) ?_
                        show own_Go p.tables e below s _ _ _ (s₁.setTop (mkF m 90 #[.val (.int p1), .val (.int p2)] []))
                        refine own_by (fun _ k => XS.iloadN X0.here hx rfl (hb hby d1_90) rfl k) ?_
                        show own_Go p.tables e below s _ _ _ (s₁.setTop (mkF m 91 #[.val (.int p1), .val (.int p2)] [(.int p1)]))
                        refine own_by (fun _ k => XS.sipush X0.here hx rfl (hb hby d1_91) k) ?_
                        show own_Go p.tables e below s _ _ _ (s₁.setTop (mkF m 94 #[.val (.int p1), .val (.int p2)] [(.int (255 : Int32)), (.int p1)]))
                        refine own_by (fun _ k => XS.iand X0.here hx rfl (hb hby d1_94) rfl k) ?_
                        show own_Go p.tables e below s _ _ _ (s₁.setTop (mkF m 95 #[.val (.int p1), .val (.int p2)] [(.int (p1 &&& (255 : Int32)))]))
                        exact own_retI X0 hx hlk Bd.returns (hb hby d1_95) (by decide) (by decide) ⟨⟨_, rfl⟩, N0, e0⟩
                      · refine own_by (fun _ k => XS.icmpYes X0.here hx rfl (pc0 := 87) (pc' := 96) rfl (hb hby d1_87) rfl (feq hc87_11).2 (by decide) (by decide) k) ?_
                        show own_Go p.tables e below s _ _ _ (s₁.setTop (mkF m 96 #[.val (.int p1), .val (.int p2)] []))
                        refine own_by (fun _ k => XS.iloadN X0.here hx rfl (hb hby d1_96) rfl k) ?_
                        show own_Go p.tables e below s _ _ _ (s₁.setTop (mkF m 97 #[.val (.int p1), .val (.int p2)] [(.int p2)]))
                        refine own_by (fun _ k => XS.bipush X0.here hx rfl (hb hby d1_97) k) ?_
                        show own_Go p.tables e below s _ _ _ (s₁.setTop (mkF m 99 #[.val (.int p1), .val (.int p2)] [(.int (11 : Int32)), (.int p2)]))
                        by_cases hc99_12 : p2 = (11 : Int32)
                        · refine own_by (fun _ k => XS.icmpNo X0.here hx rfl (hb hby d1_99) rfl (teq hc99_12).2 k) ?_
                          show own_Go p.tables e below s _ _ _ (s₁.setTop (mkF m 102 #[.val (.int p1), .val (.int p2)] []))
                          refine own_by (fun _ k => X0.ldcInt hx hown (mvT hZ (hw _ (List.mem_of_getElem? (i := 14) rfl))) (g := (mkF m 102 #[.val (.int p1), .val (.int p2)] [])) rfl (hb hby d1_102) _ k) ?_
                          show own_Go p.tables e below s _ _ _ (s₁.setTop (mkF m 104 #[.val (.int p1), .val (.int p2)] [(.int (55296 : Int32))]))
                          refine own_by (fun _ k => XS.iloadN X0.here hx rfl (hb hby d1_104) rfl k) ?_
                          show own_Go p.tables e below s _ _ _ (s₁.setTop (mkF m 105 #[.val (.int p1), .val (.int p2)] [(.int p1), (.int (55296 : Int32))]))
                          refine own_by (fun _ k => XS.sipush X0.here hx rfl (hb hby d1_105) k) ?_
                          show own_Go p.tables e below s _ _ _ (s₁.setTop (mkF m 108 #[.val (.int p1), .val (.int p2)] [(.int (2047 : Int32)), (.int p1), (.int (55296 : Int32))]))
                          refine own_by (fun _ k => XS.iand X0.here hx rfl (hb hby d1_108) rfl k) ?_
                          show own_Go p.tables e below s _ _ _ (s₁.setTop (mkF m 109 #[.val (.int p1), .val (.int p2)] [(.int (p1 &&& (2047 : Int32))), (.int (55296 : Int32))]))
                          refine own_by (fun _ k => XS.iadd X0.here hx rfl (hb hby d1_109) rfl k) ?_
                          show own_Go p.tables e below s _ _ _ (s₁.setTop (mkF m 110 #[.val (.int p1), .val (.int p2)] [(.int ((55296 : Int32) + (p1 &&& (2047 : Int32))))]))
                          exact own_retI X0 hx hlk Bd.returns (hb hby d1_110) (by decide) (by decide) ⟨⟨_, rfl⟩, N0, e0⟩
                        · refine own_by (fun _ k => XS.icmpYes X0.here hx rfl (pc0 := 99) (pc' := 111) rfl (hb hby d1_99) rfl (feq hc99_12).2 (by decide) (by decide) k) ?_
                          show own_Go p.tables e below s _ _ _ (s₁.setTop (mkF m 111 #[.val (.int p1), .val (.int p2)] []))
                          refine own_by (fun _ k => XS.iloadN X0.here hx rfl (hb hby d1_111) rfl k) ?_
                          show own_Go p.tables e below s _ _ _ (s₁.setTop (mkF m 112 #[.val (.int p1), .val (.int p2)] [(.int p2)]))
                          refine own_by (fun _ k => XS.bipush X0.here hx rfl (hb hby d1_112) k) ?_
                          show own_Go p.tables e below s _ _ _ (s₁.setTop (mkF m 114 #[.val (.int p1), .val (.int p2)] [(.int (12 : Int32)), (.int p2)]))
                          by_cases hc114_13 : p2 = (12 : Int32)
                          · refine own_by (fun _ k => XS.icmpNo X0.here hx rfl (hb hby d1_114) rfl (teq hc114_13).2 k) ?_
                            show own_Go p.tables e below s _ _ _ (s₁.setTop (mkF m 117 #[.val (.int p1), .val (.int p2)] []))
                            refine own_by (fun _ k => XS.bipush X0.here hx rfl (hb hby d1_117) k) ?_
                            show own_Go p.tables e below s _ _ _ (s₁.setTop (mkF m 119 #[.val (.int p1), .val (.int p2)] [(.int (35 : Int32))]))
                            refine own_by (fun _ k => XS.iloadN X0.here hx rfl (hb hby d1_119) rfl k) ?_
                            show own_Go p.tables e below s _ _ _ (s₁.setTop (mkF m 120 #[.val (.int p1), .val (.int p2)] [(.int p1), (.int (35 : Int32))]))
                            refine own_by (fun _ k => XS.iconst X0.here hx rfl (hb hby d1_120) k) ?_
                            show own_Go p.tables e below s _ _ _ (s₁.setTop (mkF m 121 #[.val (.int p1), .val (.int p2)] [(.int (1 : Int32)), (.int p1), (.int (35 : Int32))]))
                            refine own_by (fun _ k => XS.iand X0.here hx rfl (hb hby d1_121) rfl k) ?_
                            show own_Go p.tables e below s _ _ _ (s₁.setTop (mkF m 122 #[.val (.int p1), .val (.int p2)] [(.int (p1 &&& (1 : Int32))), (.int (35 : Int32))]))
                            refine own_by (fun _ k => XS.iconst X0.here hx rfl (hb hby d1_122) k) ?_
                            show own_Go p.tables e below s _ _ _ (s₁.setTop (mkF m 123 #[.val (.int p1), .val (.int p2)] [(.int (2 : Int32)), (.int (p1 &&& (1 : Int32))), (.int (35 : Int32))]))
                            refine own_by (fun _ k => XS.imul X0.here hx rfl (hb hby d1_123) rfl k) ?_
                            show own_Go p.tables e below s _ _ _ (s₁.setTop (mkF m 124 #[.val (.int p1), .val (.int p2)] [(.int ((p1 &&& (1 : Int32)) * (2 : Int32))), (.int (35 : Int32))]))
                            refine own_by (fun _ k => XS.iadd X0.here hx rfl (hb hby d1_124) rfl k) ?_
                            show own_Go p.tables e below s _ _ _ (s₁.setTop (mkF m 125 #[.val (.int p1), .val (.int p2)] [(.int ((35 : Int32) + ((p1 &&& (1 : Int32)) * (2 : Int32))))]))
                            exact own_retI X0 hx hlk Bd.returns (hb hby d1_125) (by decide) (by decide) ⟨⟨_, rfl⟩, N0, e0⟩
                          · refine own_by (fun _ k => XS.icmpYes X0.here hx rfl (pc0 := 114) (pc' := 126) rfl (hb hby d1_114) rfl (feq hc114_13).2 (by decide) (by decide) k) ?_
                            show own_Go p.tables e below s _ _ _ (s₁.setTop (mkF m 126 #[.val (.int p1), .val (.int p2)] []))
                            refine own_by (fun _ k => XS.iloadN X0.here hx rfl (hb hby d1_126) rfl k) ?_
                            show own_Go p.tables e below s _ _ _ (s₁.setTop (mkF m 127 #[.val (.int p1), .val (.int p2)] [(.int p2)]))
                            refine own_by (fun _ k => XS.bipush X0.here hx rfl (hb hby d1_127) k) ?_
                            show own_Go p.tables e below s _ _ _ (s₁.setTop (mkF m 129 #[.val (.int p1), .val (.int p2)] [(.int (13 : Int32)), (.int p2)]))
                            by_cases hc129_14 : p2 = (13 : Int32)
                            · refine own_by (fun _ k => XS.icmpNo X0.here hx rfl (hb hby d1_129) rfl (teq hc129_14).2 k) ?_
                              show own_Go p.tables e below s _ _ _ (s₁.setTop (mkF m 132 #[.val (.int p1), .val (.int p2)] []))
                              refine own_by (fun _ k => XS.bipush X0.here hx rfl (hb hby d1_132) k) ?_
                              show own_Go p.tables e below s _ _ _ (s₁.setTop (mkF m 134 #[.val (.int p1), .val (.int p2)] [(.int (63 : Int32))]))
                              refine own_by (fun _ k => XS.iloadN X0.here hx rfl (hb hby d1_134) rfl k) ?_
                              show own_Go p.tables e below s _ _ _ (s₁.setTop (mkF m 135 #[.val (.int p1), .val (.int p2)] [(.int p1), (.int (63 : Int32))]))
                              refine own_by (fun _ k => XS.iconst X0.here hx rfl (hb hby d1_135) k) ?_
                              show own_Go p.tables e below s _ _ _ (s₁.setTop (mkF m 136 #[.val (.int p1), .val (.int p2)] [(.int (1 : Int32)), (.int p1), (.int (63 : Int32))]))
                              refine own_by (fun _ k => XS.iand X0.here hx rfl (hb hby d1_136) rfl k) ?_
                              show own_Go p.tables e below s _ _ _ (s₁.setTop (mkF m 137 #[.val (.int p1), .val (.int p2)] [(.int (p1 &&& (1 : Int32))), (.int (63 : Int32))]))
                              refine own_by (fun _ k => XS.iconst X0.here hx rfl (hb hby d1_137) k) ?_
                              show own_Go p.tables e below s _ _ _ (s₁.setTop (mkF m 138 #[.val (.int p1), .val (.int p2)] [(.int (2 : Int32)), (.int (p1 &&& (1 : Int32))), (.int (63 : Int32))]))
                              refine own_by (fun _ k => XS.imul X0.here hx rfl (hb hby d1_138) rfl k) ?_
                              show own_Go p.tables e below s _ _ _ (s₁.setTop (mkF m 139 #[.val (.int p1), .val (.int p2)] [(.int ((p1 &&& (1 : Int32)) * (2 : Int32))), (.int (63 : Int32))]))
                              refine own_by (fun _ k => XS.iadd X0.here hx rfl (hb hby d1_139) rfl k) ?_
                              show own_Go p.tables e below s _ _ _ (s₁.setTop (mkF m 140 #[.val (.int p1), .val (.int p2)] [(.int ((63 : Int32) + ((p1 &&& (1 : Int32)) * (2 : Int32))))]))
                              exact own_retI X0 hx hlk Bd.returns (hb hby d1_140) (by decide) (by decide) ⟨⟨_, rfl⟩, N0, e0⟩
                            · refine own_by (fun _ k => XS.icmpYes X0.here hx rfl (pc0 := 129) (pc' := 141) rfl (hb hby d1_129) rfl (feq hc129_14).2 (by decide) (by decide) k) ?_
                              show own_Go p.tables e below s _ _ _ (s₁.setTop (mkF m 141 #[.val (.int p1), .val (.int p2)] []))
                              refine own_by (fun _ k => XS.iloadN X0.here hx rfl (hb hby d1_141) rfl k) ?_
                              show own_Go p.tables e below s _ _ _ (s₁.setTop (mkF m 142 #[.val (.int p1), .val (.int p2)] [(.int p2)]))
                              refine own_by (fun _ k => XS.bipush X0.here hx rfl (hb hby d1_142) k) ?_
                              show own_Go p.tables e below s _ _ _ (s₁.setTop (mkF m 144 #[.val (.int p1), .val (.int p2)] [(.int (14 : Int32)), (.int p2)]))
                              by_cases hc144_15 : p2 = (14 : Int32)
                              · refine own_by (fun _ k => XS.icmpNo X0.here hx rfl (hb hby d1_144) rfl (teq hc144_15).2 k) ?_
                                show own_Go p.tables e below s _ _ _ (s₁.setTop (mkF m 147 #[.val (.int p1), .val (.int p2)] []))
                                refine own_by (fun _ k => XS.bipush X0.here hx rfl (hb hby d1_147) k) ?_
                                show own_Go p.tables e below s _ _ _ (s₁.setTop (mkF m 149 #[.val (.int p1), .val (.int p2)] [(.int (95 : Int32))]))
                                refine own_by (fun _ k => XS.iloadN X0.here hx rfl (hb hby d1_149) rfl k) ?_
                                show own_Go p.tables e below s _ _ _ (s₁.setTop (mkF m 150 #[.val (.int p1), .val (.int p2)] [(.int p1), (.int (95 : Int32))]))
                                refine own_by (fun _ k => XS.iconst X0.here hx rfl (hb hby d1_150) k) ?_
                                show own_Go p.tables e below s _ _ _ (s₁.setTop (mkF m 151 #[.val (.int p1), .val (.int p2)] [(.int (1 : Int32)), (.int p1), (.int (95 : Int32))]))
                                refine own_by (fun _ k => XS.iand X0.here hx rfl (hb hby d1_151) rfl k) ?_
                                show own_Go p.tables e below s _ _ _ (s₁.setTop (mkF m 152 #[.val (.int p1), .val (.int p2)] [(.int (p1 &&& (1 : Int32))), (.int (95 : Int32))]))
                                refine own_by (fun _ k => XS.iconst X0.here hx rfl (hb hby d1_152) k) ?_
                                show own_Go p.tables e below s _ _ _ (s₁.setTop (mkF m 153 #[.val (.int p1), .val (.int p2)] [(.int (2 : Int32)), (.int (p1 &&& (1 : Int32))), (.int (95 : Int32))]))
                                refine own_by (fun _ k => XS.imul X0.here hx rfl (hb hby d1_153) rfl k) ?_
                                show own_Go p.tables e below s _ _ _ (s₁.setTop (mkF m 154 #[.val (.int p1), .val (.int p2)] [(.int ((p1 &&& (1 : Int32)) * (2 : Int32))), (.int (95 : Int32))]))
                                refine own_by (fun _ k => XS.iadd X0.here hx rfl (hb hby d1_154) rfl k) ?_
                                show own_Go p.tables e below s _ _ _ (s₁.setTop (mkF m 155 #[.val (.int p1), .val (.int p2)] [(.int ((95 : Int32) + ((p1 &&& (1 : Int32)) * (2 : Int32))))]))
                                exact own_retI X0 hx hlk Bd.returns (hb hby d1_155) (by decide) (by decide) ⟨⟨_, rfl⟩, N0, e0⟩
                              · refine own_by (fun _ k => XS.icmpYes X0.here hx rfl (pc0 := 144) (pc' := 156) rfl (hb hby d1_144) rfl (feq hc144_15).2 (by decide) (by decide) k) ?_
                                show own_Go p.tables e below s _ _ _ (s₁.setTop (mkF m 156 #[.val (.int p1), .val (.int p2)] []))
                                refine own_by (fun _ k => XS.iloadN X0.here hx rfl (hb hby d1_156) rfl k) ?_
                                show own_Go p.tables e below s _ _ _ (s₁.setTop (mkF m 157 #[.val (.int p1), .val (.int p2)] [(.int p1)]))
                                refine own_by (fun _ k => X0.ldcInt hx hown (mvT hZ (hw _ (List.mem_of_getElem? (i := 16) rfl))) (g := (mkF m 157 #[.val (.int p1), .val (.int p2)] [(.int p1)])) rfl (hb hby d1_157) _ k) ?_
                                show own_Go p.tables e below s _ _ _ (s₁.setTop (mkF m 159 #[.val (.int p1), .val (.int p2)] [(.int (2097151 : Int32)), (.int p1)]))
                                refine own_by (fun _ k => XS.iand X0.here hx rfl (hb hby d1_159) rfl k) ?_
                                show own_Go p.tables e below s _ _ _ (s₁.setTop (mkF m 160 #[.val (.int p1), .val (.int p2)] [(.int (p1 &&& (2097151 : Int32)))]))
                                exact own_retI X0 hx hlk Bd.returns (hb hby d1_160) (by decide) (by decide) ⟨⟨_, rfl⟩, N0, e0⟩
theorem d2_0 : decode prog_102_method_2_code 0 = .ok (.iload_n 0, 1) := by decide +kernel
theorem d2_1 : decode prog_102_method_2_code 1 = .ok (.sipush 160, 3) := by decide +kernel
theorem d2_4 : decode prog_102_method_2_code 4 = .ok (.if_icmp .ge 25, 3) := by decide +kernel
theorem d2_7 : decode prog_102_method_2_code 7 = .ok (.iload_n 0, 1) := by decide +kernel
theorem d2_8 : decode prog_102_method_2_code 8 = .ok (.bipush 36, 2) := by decide +kernel
theorem d2_10 : decode prog_102_method_2_code 10 = .ok (.if_icmp .eq 19, 3) := by decide +kernel
theorem d2_13 : decode prog_102_method_2_code 13 = .ok (.iload_n 0, 1) := by decide +kernel
theorem d2_14 : decode prog_102_method_2_code 14 = .ok (.bipush 64, 2) := by decide +kernel
theorem d2_16 : decode prog_102_method_2_code 16 = .ok (.if_icmp .eq 13, 3) := by decide +kernel
theorem d2_19 : decode prog_102_method_2_code 19 = .ok (.iload_n 0, 1) := by decide +kernel
theorem d2_20 : decode prog_102_method_2_code 20 = .ok (.bipush 96, 2) := by decide +kernel
theorem d2_22 : decode prog_102_method_2_code 22 = .ok (.if_icmp .eq 7, 3) := by decide +kernel
theorem d2_25 : decode prog_102_method_2_code 25 = .ok (.iconst 1, 1) := by decide +kernel
theorem d2_26 : decode prog_102_method_2_code 26 = .ok (.goto 4, 3) := by decide +kernel
theorem d2_29 : decode prog_102_method_2_code 29 = .ok (.iconst 0, 1) := by decide +kernel
theorem d2_30 : decode prog_102_method_2_code 30 = .ok (.istore_n 1, 1) := by decide +kernel
theorem d2_31 : decode prog_102_method_2_code 31 = .ok (.iload_n 1, 1) := by decide +kernel
theorem d2_32 : decode prog_102_method_2_code 32 = .ok (.ifCond .ne 19, 3) := by decide +kernel
theorem d2_35 : decode prog_102_method_2_code 35 = .ok (.iload_n 0, 1) := by decide +kernel
theorem d2_36 : decode prog_102_method_2_code 36 = .ok (.ldc 7, 2) := by decide +kernel
theorem d2_38 : decode prog_102_method_2_code 38 = .ok (.if_icmp .lt 9, 3) := by decide +kernel
theorem d2_41 : decode prog_102_method_2_code 41 = .ok (.iload_n 0, 1) := by decide +kernel
theorem d2_42 : decode prog_102_method_2_code 42 = .ok (.ldc 8, 2) := by decide +kernel
theorem d2_44 : decode prog_102_method_2_code 44 = .ok (.if_icmp .le 7, 3) := by decide +kernel
theorem d2_47 : decode prog_102_method_2_code 47 = .ok (.iconst 1, 1) := by decide +kernel
theorem d2_48 : decode prog_102_method_2_code 48 = .ok (.goto 4, 3) := by decide +kernel
theorem d2_51 : decode prog_102_method_2_code 51 = .ok (.iconst 0, 1) := by decide +kernel
theorem d2_52 : decode prog_102_method_2_code 52 = .ok (.ireturn, 1) := by decide +kernel
theorem pf_2 : plainFor (⟨"com/example/proofhound/proofhound/frontend/IdentifierCharacters", "nameable", "(I)Z"⟩ : MethodName) = true := by first | exact plainFor_of_name (by first | (simp [plainName, overriddenIn]; done) | decide +kernel) | decide +kernel
theorem pd_2 : parseMethodDescriptor "(I)Z" = some ⟨[.int], some .boolean⟩ := by decide +kernel
theorem ef_2 (m : MethodId) (p1 : Int32) : entryFrame m #[(.int p1)] 2 = mkF m 0 #[.val (.int p1), .unset] [] := by first | (simp [entryFrame, mkF, argsToLocals, Value.category]; done) | rfl
def Q2 (p1 : Int32) (h0 : Heap) (n0 : Nat) (v : Option Value) (h : Heap) (L : List Loc) : Prop := v = some (.int (own_nm p1)) ∧ Fr n0 L ∧ h = h0
set_option maxRecDepth 65536 in
set_option maxHeartbeats 40000000 in
theorem rm2 (l : Launch) (Z : State) (a0 : Array Value) (hw : ∀ d ∈ tables_1, d.before a0 Z = true) (ws : List Jvm.Cond) (p1 : Int32) (h0 : Heap) (n0 : Nat) (Z0 : n0 ≤ h0.size)  :
    own_Met l Z (⟨"com/example/proofhound/proofhound/frontend/IdentifierCharacters", "nameable", "(I)Z"⟩ : MethodName) prog_102_method_2_code 2 (some .boolean) ws ({ frames := 0, cells := 0, slots := 0, locals := 0 } : Room) #[(.int p1)] h0 (Q2 p1 h0 n0) := by
  refine MetFree.of_bodySF pf_2 hisR ?_
  intro p e s m args below meth c s₁ Bd hml0 hP hK
  obtain ⟨rfl, hZ, hh⟩ := hP
  have hx := Bd.exec
  have hby := Bd.bytes
  have hlk : meth.locks = false := BodyLoose.notSynchronized Bd
  have hml : c.maxLocals = 2 := hml0
  have hown : s.vm.findClass "com/example/proofhound/proofhound/frontend/IdentifierCharacters" = some m.cls := findClass_of_methodNamed Bd.named
  have hnm := (name_of_methodNamed Bd.named Bd.method).1
  have X0 : Stand p l e ({ frames := 0, cells := 0, slots := 0, locals := 0 } : Room) s m #[(.int p1)] below meth c s₁ [] 0 0 := Stand.of_body Bd
  have e0 : s₁.heap = h0 := by rw [← hh, Bd.state]; rfl
  have N0 := Fr.nil n0
  show own_Go p.tables e below s (Q2 p1 h0 n0) ({ frames := 0, cells := 0, slots := 0, locals := 0 } : Room).cells ({ frames := 0, cells := 0, slots := 0, locals := 0 } : Room).slots _
  refine own_by (fun _ k => castTop (ef_2 m p1) k) ?_
  show own_Go p.tables e below s _ _ _ (s₁.setTop (mkF m 0 #[.val (.int p1), .unset] []))
  refine own_by (fun _ k => XS.iloadN X0.here hx rfl (hb hby d2_0) rfl k) ?_
  show own_Go p.tables e below s _ _ _ (s₁.setTop (mkF m 1 #[.val (.int p1), .unset] [(.int p1)]))
  refine own_by (fun _ k => XS.sipush X0.here hx rfl (hb hby d2_1) k) ?_
  show own_Go p.tables e below s _ _ _ (s₁.setTop (mkF m 4 #[.val (.int p1), .unset] [(.int (160 : Int32)), (.int p1)]))
  by_cases hc4_1 : p1 < (160 : Int32)
  · refine own_by (fun _ k => XS.icmpNo X0.here hx rfl (hb hby d2_4) rfl (tlt hc4_1).2.1 k) ?_
    show own_Go p.tables e below s _ _ _ (s₁.setTop (mkF m 7 #[.val (.int p1), .unset] []))
    refine own_by (fun _ k => XS.iloadN X0.here hx rfl (hb hby d2_7) rfl k) ?_
    show own_Go p.tables e below s _ _ _ (s₁.setTop (mkF m 8 #[.val (.int p1), .unset] [(.int p1)]))
    refine own_by (fun _ k => XS.bipush X0.here hx rfl (hb hby d2_8) k) ?_
    show own_Go p.tables e below s _ _ _ (s₁.setTop (mkF m 10 #[.val (.int p1), .unset] [(.int (36 : Int32)), (.int p1)]))
    by_cases hc10_2 : p1 = (36 : Int32)
    · refine own_by (fun _ k => XS.icmpYes X0.here hx rfl (pc0 := 10) (pc' := 29) rfl (hb hby d2_10) rfl (teq hc10_2).1 (by decide) (by decide) k) ?_
      show own_Go p.tables e below s _ _ _ (s₁.setTop (mkF m 29 #[.val (.int p1), .unset] []))
      refine own_by (fun _ k => XS.iconst X0.here hx rfl (hb hby d2_29) k) ?_
      show own_Go p.tables e below s _ _ _ (s₁.setTop (mkF m 30 #[.val (.int p1), .unset] [(.int (0 : Int32))]))
      refine own_by (fun _ k => XS.istoreN X0.here hx rfl (hb hby d2_30) rfl (l' := #[.val (.int p1), .val (.int (0 : Int32))]) rfl k) ?_
      show own_Go p.tables e below s _ _ _ (s₁.setTop (mkF m 31 #[.val (.int p1), .val (.int (0 : Int32))] []))
      refine own_by (fun _ k => XS.iloadN X0.here hx rfl (hb hby d2_31) rfl k) ?_
      show own_Go p.tables e below s _ _ _ (s₁.setTop (mkF m 32 #[.val (.int p1), .val (.int (0 : Int32))] [(.int (0 : Int32))]))
      refine own_by (fun _ k => XS.ifNo X0.here hx rfl (hb hby d2_32) rfl ((if0 _ _).trans (teq (by decide : ((0 : Int32) = (0 : Int32)))).2) k) ?_
      show own_Go p.tables e below s _ _ _ (s₁.setTop (mkF m 35 #[.val (.int p1), .val (.int (0 : Int32))] []))
      refine own_by (fun _ k => XS.iloadN X0.here hx rfl (hb hby d2_35) rfl k) ?_
      show own_Go p.tables e below s _ _ _ (s₁.setTop (mkF m 36 #[.val (.int p1), .val (.int (0 : Int32))] [(.int p1)]))
      refine own_by (fun _ k => X0.ldcInt hx hown (mvT hZ (hw _ (List.mem_of_getElem? (i := 9) rfl))) (g := (mkF m 36 #[.val (.int p1), .val (.int (0 : Int32))] [(.int p1)])) rfl (hb hby d2_36) _ k) ?_
      show own_Go p.tables e below s _ _ _ (s₁.setTop (mkF m 38 #[.val (.int p1), .val (.int (0 : Int32))] [(.int (55296 : Int32)), (.int p1)]))
      by_cases hc38_3 : p1 < (55296 : Int32)
      · refine own_by (fun _ k => XS.icmpYes X0.here hx rfl (pc0 := 38) (pc' := 47) rfl (hb hby d2_38) rfl (tlt hc38_3).1 (by decide) (by decide) k) ?_
        show own_Go p.tables e below s _ _ _ (s₁.setTop (mkF m 47 #[.val (.int p1), .val (.int (0 : Int32))] []))
        refine own_by (fun _ k => XS.iconst X0.here hx rfl (hb hby d2_47) k) ?_
        show own_Go p.tables e below s _ _ _ (s₁.setTop (mkF m 48 #[.val (.int p1), .val (.int (0 : Int32))] [(.int (1 : Int32))]))
        refine own_by (fun _ k => XS.goto X0.here hx rfl (pc0 := 48) (pc' := 52) rfl (hb hby d2_48) (by decide) (by decide) k) ?_
        show own_Go p.tables e below s _ _ _ (s₁.setTop (mkF m 52 #[.val (.int p1), .val (.int (0 : Int32))] [(.int (1 : Int32))]))
        have hz : own_nm p1 = (1 : Int32) := by
          simp only [own_lt, own_eq, Int32.reduceToInt] at hc4_1 hc10_2 hc38_3
          exact own_nm1 (by omega)
        exact own_retZ X0 hx hlk Bd.returns (hb hby d2_52) (by decide) (by decide) ⟨by rw [hz]; rfl, N0, e0⟩
      · refine own_by (fun _ k => XS.icmpNo X0.here hx rfl (hb hby d2_38) rfl (flt hc38_3).1 k) ?_
        show own_Go p.tables e below s _ _ _ (s₁.setTop (mkF m 41 #[.val (.int p1), .val (.int (0 : Int32))] []))
        refine own_by (fun _ k => XS.iloadN X0.here hx rfl (hb hby d2_41) rfl k) ?_
        show own_Go p.tables e below s _ _ _ (s₁.setTop (mkF m 42 #[.val (.int p1), .val (.int (0 : Int32))] [(.int p1)]))
        refine own_by (fun _ k => X0.ldcInt hx hown (mvT hZ (hw _ (List.mem_of_getElem? (i := 15) rfl))) (g := (mkF m 42 #[.val (.int p1), .val (.int (0 : Int32))] [(.int p1)])) rfl (hb hby d2_42) _ k) ?_
        show own_Go p.tables e below s _ _ _ (s₁.setTop (mkF m 44 #[.val (.int p1), .val (.int (0 : Int32))] [(.int (57343 : Int32)), (.int p1)]))
        by_cases hc44_4 : (57343 : Int32) < p1
        · refine own_by (fun _ k => XS.icmpNo X0.here hx rfl (hb hby d2_44) rfl (tlt hc44_4).2.2.2 k) ?_
          show own_Go p.tables e below s _ _ _ (s₁.setTop (mkF m 47 #[.val (.int p1), .val (.int (0 : Int32))] []))
          refine own_by (fun _ k => XS.iconst X0.here hx rfl (hb hby d2_47) k) ?_
          show own_Go p.tables e below s _ _ _ (s₁.setTop (mkF m 48 #[.val (.int p1), .val (.int (0 : Int32))] [(.int (1 : Int32))]))
          refine own_by (fun _ k => XS.goto X0.here hx rfl (pc0 := 48) (pc' := 52) rfl (hb hby d2_48) (by decide) (by decide) k) ?_
          show own_Go p.tables e below s _ _ _ (s₁.setTop (mkF m 52 #[.val (.int p1), .val (.int (0 : Int32))] [(.int (1 : Int32))]))
          have hz : own_nm p1 = (1 : Int32) := by
            simp only [own_lt, own_eq, Int32.reduceToInt] at hc4_1 hc10_2 hc38_3 hc44_4
            exact own_nm1 (by omega)
          exact own_retZ X0 hx hlk Bd.returns (hb hby d2_52) (by decide) (by decide) ⟨by rw [hz]; rfl, N0, e0⟩
        · refine own_by (fun _ k => XS.icmpYes X0.here hx rfl (pc0 := 44) (pc' := 51) rfl (hb hby d2_44) rfl (flt hc44_4).2.2.2 (by decide) (by decide) k) ?_
          show own_Go p.tables e below s _ _ _ (s₁.setTop (mkF m 51 #[.val (.int p1), .val (.int (0 : Int32))] []))
          refine own_by (fun _ k => XS.iconst X0.here hx rfl (hb hby d2_51) k) ?_
          show own_Go p.tables e below s _ _ _ (s₁.setTop (mkF m 52 #[.val (.int p1), .val (.int (0 : Int32))] [(.int (0 : Int32))]))
          have hz : own_nm p1 = (0 : Int32) := by
            simp only [own_lt, own_eq, Int32.reduceToInt] at hc4_1 hc10_2 hc38_3 hc44_4
            exact own_nm0 (by omega)
          exact own_retZ X0 hx hlk Bd.returns (hb hby d2_52) (by decide) (by decide) ⟨by rw [hz]; rfl, N0, e0⟩
    · refine own_by (fun _ k => XS.icmpNo X0.here hx rfl (hb hby d2_10) rfl (feq hc10_2).1 k) ?_
      show own_Go p.tables e below s _ _ _ (s₁.setTop (mkF m 13 #[.val (.int p1), .unset] []))
      refine own_by (fun _ k => XS.iloadN X0.here hx rfl (hb hby d2_13) rfl k) ?_
      show own_Go p.tables e below s _ _ _ (s₁.setTop (mkF m 14 #[.val (.int p1), .unset] [(.int p1)]))
      refine own_by (fun _ k => XS.bipush X0.here hx rfl (hb hby d2_14) k) ?_
      show own_Go p.tables e below s _ _ _ (s₁.setTop (mkF m 16 #[.val (.int p1), .unset] [(.int (64 : Int32)), (.int p1)]))
      by_cases hc16_5 : p1 = (64 : Int32)
      · refine own_by (fun _ k => XS.icmpYes X0.here hx rfl (pc0 := 16) (pc' := 29) rfl (hb hby d2_16) rfl (teq hc16_5).1 (by decide) (by decide) k) ?_
        show own_Go p.tables e below s _ _ _ (s₁.setTop (mkF m 29 #[.val (.int p1), .unset] []))
        refine own_by (fun _ k => XS.iconst X0.here hx rfl (hb hby d2_29) k) ?_
        show own_Go p.tables e below s _ _ _ (s₁.setTop (mkF m 30 #[.val (.int p1), .unset] [(.int (0 : Int32))]))
        refine own_by (fun _ k => XS.istoreN X0.here hx rfl (hb hby d2_30) rfl (l' := #[.val (.int p1), .val (.int (0 : Int32))]) rfl k) ?_
        show own_Go p.tables e below s _ _ _ (s₁.setTop (mkF m 31 #[.val (.int p1), .val (.int (0 : Int32))] []))
        refine own_by (fun _ k => XS.iloadN X0.here hx rfl (hb hby d2_31) rfl k) ?_
        show own_Go p.tables e below s _ _ _ (s₁.setTop (mkF m 32 #[.val (.int p1), .val (.int (0 : Int32))] [(.int (0 : Int32))]))
        refine own_by (fun _ k => XS.ifNo X0.here hx rfl (hb hby d2_32) rfl ((if0 _ _).trans (teq (by decide : ((0 : Int32) = (0 : Int32)))).2) k) ?_
        show own_Go p.tables e below s _ _ _ (s₁.setTop (mkF m 35 #[.val (.int p1), .val (.int (0 : Int32))] []))
        refine own_by (fun _ k => XS.iloadN X0.here hx rfl (hb hby d2_35) rfl k) ?_
        show own_Go p.tables e below s _ _ _ (s₁.setTop (mkF m 36 #[.val (.int p1), .val (.int (0 : Int32))] [(.int p1)]))
        refine own_by (fun _ k => X0.ldcInt hx hown (mvT hZ (hw _ (List.mem_of_getElem? (i := 9) rfl))) (g := (mkF m 36 #[.val (.int p1), .val (.int (0 : Int32))] [(.int p1)])) rfl (hb hby d2_36) _ k) ?_
        show own_Go p.tables e below s _ _ _ (s₁.setTop (mkF m 38 #[.val (.int p1), .val (.int (0 : Int32))] [(.int (55296 : Int32)), (.int p1)]))
        by_cases hc38_6 : p1 < (55296 : Int32)
        · refine own_by (fun _ k => XS.icmpYes X0.here hx rfl (pc0 := 38) (pc' := 47) rfl (hb hby d2_38) rfl (tlt hc38_6).1 (by decide) (by decide) k) ?_
          show own_Go p.tables e below s _ _ _ (s₁.setTop (mkF m 47 #[.val (.int p1), .val (.int (0 : Int32))] []))
          refine own_by (fun _ k => XS.iconst X0.here hx rfl (hb hby d2_47) k) ?_
          show own_Go p.tables e below s _ _ _ (s₁.setTop (mkF m 48 #[.val (.int p1), .val (.int (0 : Int32))] [(.int (1 : Int32))]))
          refine own_by (fun _ k => XS.goto X0.here hx rfl (pc0 := 48) (pc' := 52) rfl (hb hby d2_48) (by decide) (by decide) k) ?_
          show own_Go p.tables e below s _ _ _ (s₁.setTop (mkF m 52 #[.val (.int p1), .val (.int (0 : Int32))] [(.int (1 : Int32))]))
          have hz : own_nm p1 = (1 : Int32) := by
            simp only [own_lt, own_eq, Int32.reduceToInt] at hc4_1 hc10_2 hc16_5 hc38_6
            exact own_nm1 (by omega)
          exact own_retZ X0 hx hlk Bd.returns (hb hby d2_52) (by decide) (by decide) ⟨by rw [hz]; rfl, N0, e0⟩
        · refine own_by (fun _ k => XS.icmpNo X0.here hx rfl (hb hby d2_38) rfl (flt hc38_6).1 k) ?_
          show own_Go p.tables e below s _ _ _ (s₁.setTop (mkF m 41 #[.val (.int p1), .val (.int (0 : Int32))] []))
          refine own_by (fun _ k => XS.iloadN X0.here hx rfl (hb hby d2_41) rfl k) ?_
          show own_Go p.tables e below s _ _ _ (s₁.setTop (mkF m 42 #[.val (.int p1), .val (.int (0 : Int32))] [(.int p1)]))
          refine own_by (fun _ k => X0.ldcInt hx hown (mvT hZ (hw _ (List.mem_of_getElem? (i := 15) rfl))) (g := (mkF m 42 #[.val (.int p1), .val (.int (0 : Int32))] [(.int p1)])) rfl (hb hby d2_42) _ k) ?_
          show own_Go p.tables e below s _ _ _ (s₁.setTop (mkF m 44 #[.val (.int p1), .val (.int (0 : Int32))] [(.int (57343 : Int32)), (.int p1)]))
          by_cases hc44_7 : (57343 : Int32) < p1
          · refine own_by (fun _ k => XS.icmpNo X0.here hx rfl (hb hby d2_44) rfl (tlt hc44_7).2.2.2 k) ?_
            show own_Go p.tables e below s _ _ _ (s₁.setTop (mkF m 47 #[.val (.int p1), .val (.int (0 : Int32))] []))
            refine own_by (fun _ k => XS.iconst X0.here hx rfl (hb hby d2_47) k) ?_
            show own_Go p.tables e below s _ _ _ (s₁.setTop (mkF m 48 #[.val (.int p1), .val (.int (0 : Int32))] [(.int (1 : Int32))]))
            refine own_by (fun _ k => XS.goto X0.here hx rfl (pc0 := 48) (pc' := 52) rfl (hb hby d2_48) (by decide) (by decide) k) ?_
            show own_Go p.tables e below s _ _ _ (s₁.setTop (mkF m 52 #[.val (.int p1), .val (.int (0 : Int32))] [(.int (1 : Int32))]))
            have hz : own_nm p1 = (1 : Int32) := by
              simp only [own_lt, own_eq, Int32.reduceToInt] at hc4_1 hc10_2 hc16_5 hc38_6 hc44_7
              exact own_nm1 (by omega)
            exact own_retZ X0 hx hlk Bd.returns (hb hby d2_52) (by decide) (by decide) ⟨by rw [hz]; rfl, N0, e0⟩
          · refine own_by (fun _ k => XS.icmpYes X0.here hx rfl (pc0 := 44) (pc' := 51) rfl (hb hby d2_44) rfl (flt hc44_7).2.2.2 (by decide) (by decide) k) ?_
            show own_Go p.tables e below s _ _ _ (s₁.setTop (mkF m 51 #[.val (.int p1), .val (.int (0 : Int32))] []))
            refine own_by (fun _ k => XS.iconst X0.here hx rfl (hb hby d2_51) k) ?_
            show own_Go p.tables e below s _ _ _ (s₁.setTop (mkF m 52 #[.val (.int p1), .val (.int (0 : Int32))] [(.int (0 : Int32))]))
            have hz : own_nm p1 = (0 : Int32) := by
              simp only [own_lt, own_eq, Int32.reduceToInt] at hc4_1 hc10_2 hc16_5 hc38_6 hc44_7
              exact own_nm0 (by omega)
            exact own_retZ X0 hx hlk Bd.returns (hb hby d2_52) (by decide) (by decide) ⟨by rw [hz]; rfl, N0, e0⟩
      · refine own_by (fun _ k => XS.icmpNo X0.here hx rfl (hb hby d2_16) rfl (feq hc16_5).1 k) ?_
        show own_Go p.tables e below s _ _ _ (s₁.setTop (mkF m 19 #[.val (.int p1), .unset] []))
        refine own_by (fun _ k => XS.iloadN X0.here hx rfl (hb hby d2_19) rfl k) ?_
        show own_Go p.tables e below s _ _ _ (s₁.setTop (mkF m 20 #[.val (.int p1), .unset] [(.int p1)]))
        refine own_by (fun _ k => XS.bipush X0.here hx rfl (hb hby d2_20) k) ?_
        show own_Go p.tables e below s _ _ _ (s₁.setTop (mkF m 22 #[.val (.int p1), .unset] [(.int (96 : Int32)), (.int p1)]))
        by_cases hc22_8 : p1 = (96 : Int32)
        · refine own_by (fun _ k => XS.icmpYes X0.here hx rfl (pc0 := 22) (pc' := 29) rfl (hb hby d2_22) rfl (teq hc22_8).1 (by decide) (by decide) k) ?_
          show own_Go p.tables e below s _ _ _ (s₁.setTop (mkF m 29 #[.val (.int p1), .unset] []))
          refine own_by (fun _ k => XS.iconst X0.here hx rfl (hb hby d2_29) k) ?_
          show own_Go p.tables e below s _ _ _ (s₁.setTop (mkF m 30 #[.val (.int p1), .unset] [(.int (0 : Int32))]))
          refine own_by (fun _ k => XS.istoreN X0.here hx rfl (hb hby d2_30) rfl (l' := #[.val (.int p1), .val (.int (0 : Int32))]) rfl k) ?_
          show own_Go p.tables e below s _ _ _ (s₁.setTop (mkF m 31 #[.val (.int p1), .val (.int (0 : Int32))] []))
          refine own_by (fun _ k => XS.iloadN X0.here hx rfl (hb hby d2_31) rfl k) ?_
          show own_Go p.tables e below s _ _ _ (s₁.setTop (mkF m 32 #[.val (.int p1), .val (.int (0 : Int32))] [(.int (0 : Int32))]))
          refine own_by (fun _ k => XS.ifNo X0.here hx rfl (hb hby d2_32) rfl ((if0 _ _).trans (teq (by decide : ((0 : Int32) = (0 : Int32)))).2) k) ?_
          show own_Go p.tables e below s _ _ _ (s₁.setTop (mkF m 35 #[.val (.int p1), .val (.int (0 : Int32))] []))
          refine own_by (fun _ k => XS.iloadN X0.here hx rfl (hb hby d2_35) rfl k) ?_
          show own_Go p.tables e below s _ _ _ (s₁.setTop (mkF m 36 #[.val (.int p1), .val (.int (0 : Int32))] [(.int p1)]))
          refine own_by (fun _ k => X0.ldcInt hx hown (mvT hZ (hw _ (List.mem_of_getElem? (i := 9) rfl))) (g := (mkF m 36 #[.val (.int p1), .val (.int (0 : Int32))] [(.int p1)])) rfl (hb hby d2_36) _ k) ?_
          show own_Go p.tables e below s _ _ _ (s₁.setTop (mkF m 38 #[.val (.int p1), .val (.int (0 : Int32))] [(.int (55296 : Int32)), (.int p1)]))
          by_cases hc38_9 : p1 < (55296 : Int32)
          · refine own_by (fun _ k => XS.icmpYes X0.here hx rfl (pc0 := 38) (pc' := 47) rfl (hb hby d2_38) rfl (tlt hc38_9).1 (by decide) (by decide) k) ?_
            show own_Go p.tables e below s _ _ _ (s₁.setTop (mkF m 47 #[.val (.int p1), .val (.int (0 : Int32))] []))
            refine own_by (fun _ k => XS.iconst X0.here hx rfl (hb hby d2_47) k) ?_
            show own_Go p.tables e below s _ _ _ (s₁.setTop (mkF m 48 #[.val (.int p1), .val (.int (0 : Int32))] [(.int (1 : Int32))]))
            refine own_by (fun _ k => XS.goto X0.here hx rfl (pc0 := 48) (pc' := 52) rfl (hb hby d2_48) (by decide) (by decide) k) ?_
            show own_Go p.tables e below s _ _ _ (s₁.setTop (mkF m 52 #[.val (.int p1), .val (.int (0 : Int32))] [(.int (1 : Int32))]))
            have hz : own_nm p1 = (1 : Int32) := by
              simp only [own_lt, own_eq, Int32.reduceToInt] at hc4_1 hc10_2 hc16_5 hc22_8 hc38_9
              exact own_nm1 (by omega)
            exact own_retZ X0 hx hlk Bd.returns (hb hby d2_52) (by decide) (by decide) ⟨by rw [hz]; rfl, N0, e0⟩
          · refine own_by (fun _ k => XS.icmpNo X0.here hx rfl (hb hby d2_38) rfl (flt hc38_9).1 k) ?_
            show own_Go p.tables e below s _ _ _ (s₁.setTop (mkF m 41 #[.val (.int p1), .val (.int (0 : Int32))] []))
            refine own_by (fun _ k => XS.iloadN X0.here hx rfl (hb hby d2_41) rfl k) ?_
            show own_Go p.tables e below s _ _ _ (s₁.setTop (mkF m 42 #[.val (.int p1), .val (.int (0 : Int32))] [(.int p1)]))
            refine own_by (fun _ k => X0.ldcInt hx hown (mvT hZ (hw _ (List.mem_of_getElem? (i := 15) rfl))) (g := (mkF m 42 #[.val (.int p1), .val (.int (0 : Int32))] [(.int p1)])) rfl (hb hby d2_42) _ k) ?_
            show own_Go p.tables e below s _ _ _ (s₁.setTop (mkF m 44 #[.val (.int p1), .val (.int (0 : Int32))] [(.int (57343 : Int32)), (.int p1)]))
            by_cases hc44_10 : (57343 : Int32) < p1
            · refine own_by (fun _ k => XS.icmpNo X0.here hx rfl (hb hby d2_44) rfl (tlt hc44_10).2.2.2 k) ?_
              show own_Go p.tables e below s _ _ _ (s₁.setTop (mkF m 47 #[.val (.int p1), .val (.int (0 : Int32))] []))
              refine own_by (fun _ k => XS.iconst X0.here hx rfl (hb hby d2_47) k) ?_
              show own_Go p.tables e below s _ _ _ (s₁.setTop (mkF m 48 #[.val (.int p1), .val (.int (0 : Int32))] [(.int (1 : Int32))]))
              refine own_by (fun _ k => XS.goto X0.here hx rfl (pc0 := 48) (pc' := 52) rfl (hb hby d2_48) (by decide) (by decide) k) ?_
              show own_Go p.tables e below s _ _ _ (s₁.setTop (mkF m 52 #[.val (.int p1), .val (.int (0 : Int32))] [(.int (1 : Int32))]))
              have hz : own_nm p1 = (1 : Int32) := by
                simp only [own_lt, own_eq, Int32.reduceToInt] at hc4_1 hc10_2 hc16_5 hc22_8 hc38_9 hc44_10
                exact own_nm1 (by omega)
              exact own_retZ X0 hx hlk Bd.returns (hb hby d2_52) (by decide) (by decide) ⟨by rw [hz]; rfl, N0, e0⟩
            · refine own_by (fun _ k => XS.icmpYes X0.here hx rfl (pc0 := 44) (pc' := 51) rfl (hb hby d2_44) rfl (flt hc44_10).2.2.2 (by decide) (by decide) k) ?_
              show own_Go p.tables e below s _ _ _ (s₁.setTop (mkF m 51 #[.val (.int p1), .val (.int (0 : Int32))] []))
              refine own_by (fun _ k => XS.iconst X0.here hx rfl (hb hby d2_51) k) ?_
              show own_Go p.tables e below s _ _ _ (s₁.setTop (mkF m 52 #[.val (.int p1), .val (.int (0 : Int32))] [(.int (0 : Int32))]))
              have hz : own_nm p1 = (0 : Int32) := by
                simp only [own_lt, own_eq, Int32.reduceToInt] at hc4_1 hc10_2 hc16_5 hc22_8 hc38_9 hc44_10
                exact own_nm0 (by omega)
              exact own_retZ X0 hx hlk Bd.returns (hb hby d2_52) (by decide) (by decide) ⟨by rw [hz]; rfl, N0, e0⟩
        · refine own_by (fun _ k => XS.icmpNo X0.here hx rfl (hb hby d2_22) rfl (feq hc22_8).1 k) ?_
          show own_Go p.tables e below s _ _ _ (s₁.setTop (mkF m 25 #[.val (.int p1), .unset] []))
          refine own_by (fun _ k => XS.iconst X0.here hx rfl (hb hby d2_25) k) ?_
          show own_Go p.tables e below s _ _ _ (s₁.setTop (mkF m 26 #[.val (.int p1), .unset] [(.int (1 : Int32))]))
          refine own_by (fun _ k => XS.goto X0.here hx rfl (pc0 := 26) (pc' := 30) rfl (hb hby d2_26) (by decide) (by decide) k) ?_
          show own_Go p.tables e below s _ _ _ (s₁.setTop (mkF m 30 #[.val (.int p1), .unset] [(.int (1 : Int32))]))
          refine own_by (fun _ k => XS.istoreN X0.here hx rfl (hb hby d2_30) rfl (l' := #[.val (.int p1), .val (.int (1 : Int32))]) rfl k) ?_
          show own_Go p.tables e below s _ _ _ (s₁.setTop (mkF m 31 #[.val (.int p1), .val (.int (1 : Int32))] []))
          refine own_by (fun _ k => XS.iloadN X0.here hx rfl (hb hby d2_31) rfl k) ?_
          show own_Go p.tables e below s _ _ _ (s₁.setTop (mkF m 32 #[.val (.int p1), .val (.int (1 : Int32))] [(.int (1 : Int32))]))
          refine own_by (fun _ k => XS.ifYes X0.here hx rfl (pc0 := 32) (pc' := 51) rfl (hb hby d2_32) rfl ((if0 _ _).trans (feq (by decide : ¬ ((1 : Int32) = (0 : Int32)))).2) (by decide) (by decide) k) ?_
          show own_Go p.tables e below s _ _ _ (s₁.setTop (mkF m 51 #[.val (.int p1), .val (.int (1 : Int32))] []))
          refine own_by (fun _ k => XS.iconst X0.here hx rfl (hb hby d2_51) k) ?_
          show own_Go p.tables e below s _ _ _ (s₁.setTop (mkF m 52 #[.val (.int p1), .val (.int (1 : Int32))] [(.int (0 : Int32))]))
          have hz : own_nm p1 = (0 : Int32) := by
            simp only [own_lt, own_eq, Int32.reduceToInt] at hc4_1 hc10_2 hc16_5 hc22_8
            exact own_nm0 (by omega)
          exact own_retZ X0 hx hlk Bd.returns (hb hby d2_52) (by decide) (by decide) ⟨by rw [hz]; rfl, N0, e0⟩
  · refine own_by (fun _ k => XS.icmpYes X0.here hx rfl (pc0 := 4) (pc' := 29) rfl (hb hby d2_4) rfl (flt hc4_1).2.1 (by decide) (by decide) k) ?_
    show own_Go p.tables e below s _ _ _ (s₁.setTop (mkF m 29 #[.val (.int p1), .unset] []))
    refine own_by (fun _ k => XS.iconst X0.here hx rfl (hb hby d2_29) k) ?_
    show own_Go p.tables e below s _ _ _ (s₁.setTop (mkF m 30 #[.val (.int p1), .unset] [(.int (0 : Int32))]))
    refine own_by (fun _ k => XS.istoreN X0.here hx rfl (hb hby d2_30) rfl (l' := #[.val (.int p1), .val (.int (0 : Int32))]) rfl k) ?_
    show own_Go p.tables e below s _ _ _ (s₁.setTop (mkF m 31 #[.val (.int p1), .val (.int (0 : Int32))] []))
    refine own_by (fun _ k => XS.iloadN X0.here hx rfl (hb hby d2_31) rfl k) ?_
    show own_Go p.tables e below s _ _ _ (s₁.setTop (mkF m 32 #[.val (.int p1), .val (.int (0 : Int32))] [(.int (0 : Int32))]))
    refine own_by (fun _ k => XS.ifNo X0.here hx rfl (hb hby d2_32) rfl ((if0 _ _).trans (teq (by decide : ((0 : Int32) = (0 : Int32)))).2) k) ?_
    show own_Go p.tables e below s _ _ _ (s₁.setTop (mkF m 35 #[.val (.int p1), .val (.int (0 : Int32))] []))
    refine own_by (fun _ k => XS.iloadN X0.here hx rfl (hb hby d2_35) rfl k) ?_
    show own_Go p.tables e below s _ _ _ (s₁.setTop (mkF m 36 #[.val (.int p1), .val (.int (0 : Int32))] [(.int p1)]))
    refine own_by (fun _ k => X0.ldcInt hx hown (mvT hZ (hw _ (List.mem_of_getElem? (i := 9) rfl))) (g := (mkF m 36 #[.val (.int p1), .val (.int (0 : Int32))] [(.int p1)])) rfl (hb hby d2_36) _ k) ?_
    show own_Go p.tables e below s _ _ _ (s₁.setTop (mkF m 38 #[.val (.int p1), .val (.int (0 : Int32))] [(.int (55296 : Int32)), (.int p1)]))
    by_cases hc38_11 : p1 < (55296 : Int32)
    · refine own_by (fun _ k => XS.icmpYes X0.here hx rfl (pc0 := 38) (pc' := 47) rfl (hb hby d2_38) rfl (tlt hc38_11).1 (by decide) (by decide) k) ?_
      show own_Go p.tables e below s _ _ _ (s₁.setTop (mkF m 47 #[.val (.int p1), .val (.int (0 : Int32))] []))
      refine own_by (fun _ k => XS.iconst X0.here hx rfl (hb hby d2_47) k) ?_
      show own_Go p.tables e below s _ _ _ (s₁.setTop (mkF m 48 #[.val (.int p1), .val (.int (0 : Int32))] [(.int (1 : Int32))]))
      refine own_by (fun _ k => XS.goto X0.here hx rfl (pc0 := 48) (pc' := 52) rfl (hb hby d2_48) (by decide) (by decide) k) ?_
      show own_Go p.tables e below s _ _ _ (s₁.setTop (mkF m 52 #[.val (.int p1), .val (.int (0 : Int32))] [(.int (1 : Int32))]))
      have hz : own_nm p1 = (1 : Int32) := by
        simp only [own_lt, own_eq, Int32.reduceToInt] at hc4_1 hc38_11
        exact own_nm1 (by omega)
      exact own_retZ X0 hx hlk Bd.returns (hb hby d2_52) (by decide) (by decide) ⟨by rw [hz]; rfl, N0, e0⟩
    · refine own_by (fun _ k => XS.icmpNo X0.here hx rfl (hb hby d2_38) rfl (flt hc38_11).1 k) ?_
      show own_Go p.tables e below s _ _ _ (s₁.setTop (mkF m 41 #[.val (.int p1), .val (.int (0 : Int32))] []))
      refine own_by (fun _ k => XS.iloadN X0.here hx rfl (hb hby d2_41) rfl k) ?_
      show own_Go p.tables e below s _ _ _ (s₁.setTop (mkF m 42 #[.val (.int p1), .val (.int (0 : Int32))] [(.int p1)]))
      refine own_by (fun _ k => X0.ldcInt hx hown (mvT hZ (hw _ (List.mem_of_getElem? (i := 15) rfl))) (g := (mkF m 42 #[.val (.int p1), .val (.int (0 : Int32))] [(.int p1)])) rfl (hb hby d2_42) _ k) ?_
      show own_Go p.tables e below s _ _ _ (s₁.setTop (mkF m 44 #[.val (.int p1), .val (.int (0 : Int32))] [(.int (57343 : Int32)), (.int p1)]))
      by_cases hc44_12 : (57343 : Int32) < p1
      · refine own_by (fun _ k => XS.icmpNo X0.here hx rfl (hb hby d2_44) rfl (tlt hc44_12).2.2.2 k) ?_
        show own_Go p.tables e below s _ _ _ (s₁.setTop (mkF m 47 #[.val (.int p1), .val (.int (0 : Int32))] []))
        refine own_by (fun _ k => XS.iconst X0.here hx rfl (hb hby d2_47) k) ?_
        show own_Go p.tables e below s _ _ _ (s₁.setTop (mkF m 48 #[.val (.int p1), .val (.int (0 : Int32))] [(.int (1 : Int32))]))
        refine own_by (fun _ k => XS.goto X0.here hx rfl (pc0 := 48) (pc' := 52) rfl (hb hby d2_48) (by decide) (by decide) k) ?_
        show own_Go p.tables e below s _ _ _ (s₁.setTop (mkF m 52 #[.val (.int p1), .val (.int (0 : Int32))] [(.int (1 : Int32))]))
        have hz : own_nm p1 = (1 : Int32) := by
          simp only [own_lt, own_eq, Int32.reduceToInt] at hc4_1 hc38_11 hc44_12
          exact own_nm1 (by omega)
        exact own_retZ X0 hx hlk Bd.returns (hb hby d2_52) (by decide) (by decide) ⟨by rw [hz]; rfl, N0, e0⟩
      · refine own_by (fun _ k => XS.icmpYes X0.here hx rfl (pc0 := 44) (pc' := 51) rfl (hb hby d2_44) rfl (flt hc44_12).2.2.2 (by decide) (by decide) k) ?_
        show own_Go p.tables e below s _ _ _ (s₁.setTop (mkF m 51 #[.val (.int p1), .val (.int (0 : Int32))] []))
        refine own_by (fun _ k => XS.iconst X0.here hx rfl (hb hby d2_51) k) ?_
        show own_Go p.tables e below s _ _ _ (s₁.setTop (mkF m 52 #[.val (.int p1), .val (.int (0 : Int32))] [(.int (0 : Int32))]))
        have hz : own_nm p1 = (0 : Int32) := by
          simp only [own_lt, own_eq, Int32.reduceToInt] at hc4_1 hc38_11 hc44_12
          exact own_nm0 (by omega)
        exact own_retZ X0 hx hlk Bd.returns (hb hby d2_52) (by decide) (by decide) ⟨by rw [hz]; rfl, N0, e0⟩
theorem d3_0 : decode method_4_code 0 = .ok (.iload_n 0, 1) := by decide +kernel
theorem d3_1 : decode method_4_code 1 = .ok (.ldc 25, 2) := by decide +kernel
theorem d3_3 : decode method_4_code 3 = .ok (.if_icmp .lt 5, 3) := by decide +kernel
theorem d3_6 : decode method_4_code 6 = .ok (.iconst 1, 1) := by decide +kernel
theorem d3_7 : decode method_4_code 7 = .ok (.ireturn, 1) := by decide +kernel
theorem d3_8 : decode method_4_code 8 = .ok (.iload_n 0, 1) := by decide +kernel
theorem d3_9 : decode method_4_code 9 = .ok (.ldc 23, 2) := by decide +kernel
theorem d3_11 : decode method_4_code 11 = .ok (.if_icmp .lt 5, 3) := by decide +kernel
theorem d3_14 : decode method_4_code 14 = .ok (.iconst 0, 1) := by decide +kernel
theorem d3_15 : decode method_4_code 15 = .ok (.ireturn, 1) := by decide +kernel
theorem d3_16 : decode method_4_code 16 = .ok (.iload_n 0, 1) := by decide +kernel
theorem d3_17 : decode method_4_code 17 = .ok (.sipush 160, 3) := by decide +kernel
theorem d3_20 : decode method_4_code 20 = .ok (.if_icmp .lt 5, 3) := by decide +kernel
theorem d3_23 : decode method_4_code 23 = .ok (.iconst 1, 1) := by decide +kernel
theorem d3_24 : decode method_4_code 24 = .ok (.ireturn, 1) := by decide +kernel
theorem d3_25 : decode method_4_code 25 = .ok (.iload_n 0, 1) := by decide +kernel
theorem d3_26 : decode method_4_code 26 = .ok (.bipush 36, 2) := by decide +kernel
theorem d3_28 : decode method_4_code 28 = .ok (.if_icmp .eq 15, 3) := by decide +kernel
theorem d3_31 : decode method_4_code 31 = .ok (.iload_n 0, 1) := by decide +kernel
theorem d3_32 : decode method_4_code 32 = .ok (.bipush 64, 2) := by decide +kernel
theorem d3_34 : decode method_4_code 34 = .ok (.if_icmp .eq 9, 3) := by decide +kernel
theorem d3_37 : decode method_4_code 37 = .ok (.iload_n 0, 1) := by decide +kernel
theorem d3_38 : decode method_4_code 38 = .ok (.bipush 96, 2) := by decide +kernel
theorem d3_40 : decode method_4_code 40 = .ok (.if_icmp .ne 7, 3) := by decide +kernel
theorem d3_43 : decode method_4_code 43 = .ok (.iconst 1, 1) := by decide +kernel
theorem d3_44 : decode method_4_code 44 = .ok (.goto 4, 3) := by decide +kernel
theorem d3_47 : decode method_4_code 47 = .ok (.iconst 0, 1) := by decide +kernel
theorem d3_48 : decode method_4_code 48 = .ok (.ireturn, 1) := by decide +kernel
theorem pf_3 : plainFor (⟨"com/example/proofhound/proofhound/frontend/IdentifierCharactersNameablePinLaw", "expected", "(I)Z"⟩ : MethodName) = true := by first | exact plainFor_of_name (by first | (simp [plainName, overriddenIn]; done) | decide +kernel) | decide +kernel
theorem pd_3 : parseMethodDescriptor "(I)Z" = some ⟨[.int], some .boolean⟩ := by decide +kernel
theorem ef_3 (m : MethodId) (p1 : Int32) : entryFrame m #[(.int p1)] 1 = mkF m 0 #[.val (.int p1)] [] := by first | (simp [entryFrame, mkF, argsToLocals, Value.category]; done) | rfl
def Q3 (p1 : Int32) (h0 : Heap) (n0 : Nat) (v : Option Value) (h : Heap) (L : List Loc) : Prop := v = some (.int (own_nm p1)) ∧ Fr n0 L ∧ h = h0
set_option maxRecDepth 65536 in
set_option maxHeartbeats 40000000 in
theorem rm3 (l : Launch) (Z : State) (a0 : Array Value) (hw : ∀ d ∈ tables_1, d.before a0 Z = true) (ws : List Jvm.Cond) (p1 : Int32) (h0 : Heap) (n0 : Nat) (Z0 : n0 ≤ h0.size)  :
    own_Met l Z (⟨"com/example/proofhound/proofhound/frontend/IdentifierCharactersNameablePinLaw", "expected", "(I)Z"⟩ : MethodName) method_4_code 1 (some .boolean) ws ({ frames := 0, cells := 0, slots := 0, locals := 0 } : Room) #[(.int p1)] h0 (Q3 p1 h0 n0) := by
  refine MetFree.of_bodySF pf_3 hisR ?_
  intro p e s m args below meth c s₁ Bd hml0 hP hK
  obtain ⟨rfl, hZ, hh⟩ := hP
  have hx := Bd.exec
  have hby := Bd.bytes
  have hlk : meth.locks = false := BodyLoose.notSynchronized Bd
  have hml : c.maxLocals = 1 := hml0
  have hown : s.vm.findClass "com/example/proofhound/proofhound/frontend/IdentifierCharactersNameablePinLaw" = some m.cls := findClass_of_methodNamed Bd.named
  have hnm := (name_of_methodNamed Bd.named Bd.method).1
  have X0 : Stand p l e ({ frames := 0, cells := 0, slots := 0, locals := 0 } : Room) s m #[(.int p1)] below meth c s₁ [] 0 0 := Stand.of_body Bd
  have e0 : s₁.heap = h0 := by rw [← hh, Bd.state]; rfl
  have N0 := Fr.nil n0
  show own_Go p.tables e below s (Q3 p1 h0 n0) ({ frames := 0, cells := 0, slots := 0, locals := 0 } : Room).cells ({ frames := 0, cells := 0, slots := 0, locals := 0 } : Room).slots _
  refine own_by (fun _ k => castTop (ef_3 m p1) k) ?_
  show own_Go p.tables e below s _ _ _ (s₁.setTop (mkF m 0 #[.val (.int p1)] []))
  refine own_by (fun _ k => XS.iloadN X0.here hx rfl (hb hby d3_0) rfl k) ?_
  show own_Go p.tables e below s _ _ _ (s₁.setTop (mkF m 1 #[.val (.int p1)] [(.int p1)]))
  refine own_by (fun _ k => X0.ldcInt hx hown (mvT hZ (hw _ (List.mem_of_getElem? (i := 13) rfl))) (g := (mkF m 1 #[.val (.int p1)] [(.int p1)])) rfl (hb hby d3_1) _ k) ?_
  show own_Go p.tables e below s _ _ _ (s₁.setTop (mkF m 3 #[.val (.int p1)] [(.int (57344 : Int32)), (.int p1)]))
  by_cases hc3_1 : p1 < (57344 : Int32)
  · refine own_by (fun _ k => XS.icmpYes X0.here hx rfl (pc0 := 3) (pc' := 8) rfl (hb hby d3_3) rfl (tlt hc3_1).1 (by decide) (by decide) k) ?_
    show own_Go p.tables e below s _ _ _ (s₁.setTop (mkF m 8 #[.val (.int p1)] []))
    refine own_by (fun _ k => XS.iloadN X0.here hx rfl (hb hby d3_8) rfl k) ?_
    show own_Go p.tables e below s _ _ _ (s₁.setTop (mkF m 9 #[.val (.int p1)] [(.int p1)]))
    refine own_by (fun _ k => X0.ldcInt hx hown (mvT hZ (hw _ (List.mem_of_getElem? (i := 14) rfl))) (g := (mkF m 9 #[.val (.int p1)] [(.int p1)])) rfl (hb hby d3_9) _ k) ?_
    show own_Go p.tables e below s _ _ _ (s₁.setTop (mkF m 11 #[.val (.int p1)] [(.int (55296 : Int32)), (.int p1)]))
    by_cases hc11_2 : p1 < (55296 : Int32)
    · refine own_by (fun _ k => XS.icmpYes X0.here hx rfl (pc0 := 11) (pc' := 16) rfl (hb hby d3_11) rfl (tlt hc11_2).1 (by decide) (by decide) k) ?_
      show own_Go p.tables e below s _ _ _ (s₁.setTop (mkF m 16 #[.val (.int p1)] []))
      refine own_by (fun _ k => XS.iloadN X0.here hx rfl (hb hby d3_16) rfl k) ?_
      show own_Go p.tables e below s _ _ _ (s₁.setTop (mkF m 17 #[.val (.int p1)] [(.int p1)]))
      refine own_by (fun _ k => XS.sipush X0.here hx rfl (hb hby d3_17) k) ?_
      show own_Go p.tables e below s _ _ _ (s₁.setTop (mkF m 20 #[.val (.int p1)] [(.int (160 : Int32)), (.int p1)]))
      by_cases hc20_3 : p1 < (160 : Int32)
      · refine own_by (fun _ k => XS.icmpYes X0.here hx rfl (pc0 := 20) (pc' := 25) rfl (hb hby d3_20) rfl (tlt hc20_3).1 (by decide) (by decide) k) ?_
        show own_Go p.tables e below s _ _ _ (s₁.setTop (mkF m 25 #[.val (.int p1)] []))
        refine own_by (fun _ k => XS.iloadN X0.here hx rfl (hb hby d3_25) rfl k) ?_
        show own_Go p.tables e below s _ _ _ (s₁.setTop (mkF m 26 #[.val (.int p1)] [(.int p1)]))
        refine own_by (fun _ k => XS.bipush X0.here hx rfl (hb hby d3_26) k) ?_
        show own_Go p.tables e below s _ _ _ (s₁.setTop (mkF m 28 #[.val (.int p1)] [(.int (36 : Int32)), (.int p1)]))
        by_cases hc28_4 : p1 = (36 : Int32)
        · refine own_by (fun _ k => XS.icmpYes X0.here hx rfl (pc0 := 28) (pc' := 43) rfl (hb hby d3_28) rfl (teq hc28_4).1 (by decide) (by decide) k) ?_
          show own_Go p.tables e below s _ _ _ (s₁.setTop (mkF m 43 #[.val (.int p1)] []))
          refine own_by (fun _ k => XS.iconst X0.here hx rfl (hb hby d3_43) k) ?_
          show own_Go p.tables e below s _ _ _ (s₁.setTop (mkF m 44 #[.val (.int p1)] [(.int (1 : Int32))]))
          refine own_by (fun _ k => XS.goto X0.here hx rfl (pc0 := 44) (pc' := 48) rfl (hb hby d3_44) (by decide) (by decide) k) ?_
          show own_Go p.tables e below s _ _ _ (s₁.setTop (mkF m 48 #[.val (.int p1)] [(.int (1 : Int32))]))
          have hz : own_nm p1 = (1 : Int32) := by
            simp only [own_lt, own_eq, Int32.reduceToInt] at hc3_1 hc11_2 hc20_3 hc28_4
            exact own_nm1 (by omega)
          exact own_retZ X0 hx hlk Bd.returns (hb hby d3_48) (by decide) (by decide) ⟨by rw [hz]; rfl, N0, e0⟩
        · refine own_by (fun _ k => XS.icmpNo X0.here hx rfl (hb hby d3_28) rfl (feq hc28_4).1 k) ?_
          show own_Go p.tables e below s _ _ _ (s₁.setTop (mkF m 31 #[.val (.int p1)] []))
          refine own_by (fun _ k => XS.iloadN X0.here hx rfl (hb hby d3_31) rfl k) ?_
          show own_Go p.tables e below s _ _ _ (s₁.setTop (mkF m 32 #[.val (.int p1)] [(.int p1)]))
          refine own_by (fun _ k => XS.bipush X0.here hx rfl (hb hby d3_32) k) ?_
          show own_Go p.tables e below s _ _ _ (s₁.setTop (mkF m 34 #[.val (.int p1)] [(.int (64 : Int32)), (.int p1)]))
          by_cases hc34_5 : p1 = (64 : Int32)
          · refine own_by (fun _ k => XS.icmpYes X0.here hx rfl (pc0 := 34) (pc' := 43) rfl (hb hby d3_34) rfl (teq hc34_5).1 (by decide) (by decide) k) ?_
            show own_Go p.tables e below s _ _ _ (s₁.setTop (mkF m 43 #[.val (.int p1)] []))
            refine own_by (fun _ k => XS.iconst X0.here hx rfl (hb hby d3_43) k) ?_
            show own_Go p.tables e below s _ _ _ (s₁.setTop (mkF m 44 #[.val (.int p1)] [(.int (1 : Int32))]))
            refine own_by (fun _ k => XS.goto X0.here hx rfl (pc0 := 44) (pc' := 48) rfl (hb hby d3_44) (by decide) (by decide) k) ?_
            show own_Go p.tables e below s _ _ _ (s₁.setTop (mkF m 48 #[.val (.int p1)] [(.int (1 : Int32))]))
            have hz : own_nm p1 = (1 : Int32) := by
              simp only [own_lt, own_eq, Int32.reduceToInt] at hc3_1 hc11_2 hc20_3 hc28_4 hc34_5
              exact own_nm1 (by omega)
            exact own_retZ X0 hx hlk Bd.returns (hb hby d3_48) (by decide) (by decide) ⟨by rw [hz]; rfl, N0, e0⟩
          · refine own_by (fun _ k => XS.icmpNo X0.here hx rfl (hb hby d3_34) rfl (feq hc34_5).1 k) ?_
            show own_Go p.tables e below s _ _ _ (s₁.setTop (mkF m 37 #[.val (.int p1)] []))
            refine own_by (fun _ k => XS.iloadN X0.here hx rfl (hb hby d3_37) rfl k) ?_
            show own_Go p.tables e below s _ _ _ (s₁.setTop (mkF m 38 #[.val (.int p1)] [(.int p1)]))
            refine own_by (fun _ k => XS.bipush X0.here hx rfl (hb hby d3_38) k) ?_
            show own_Go p.tables e below s _ _ _ (s₁.setTop (mkF m 40 #[.val (.int p1)] [(.int (96 : Int32)), (.int p1)]))
            by_cases hc40_6 : p1 = (96 : Int32)
            · refine own_by (fun _ k => XS.icmpNo X0.here hx rfl (hb hby d3_40) rfl (teq hc40_6).2 k) ?_
              show own_Go p.tables e below s _ _ _ (s₁.setTop (mkF m 43 #[.val (.int p1)] []))
              refine own_by (fun _ k => XS.iconst X0.here hx rfl (hb hby d3_43) k) ?_
              show own_Go p.tables e below s _ _ _ (s₁.setTop (mkF m 44 #[.val (.int p1)] [(.int (1 : Int32))]))
              refine own_by (fun _ k => XS.goto X0.here hx rfl (pc0 := 44) (pc' := 48) rfl (hb hby d3_44) (by decide) (by decide) k) ?_
              show own_Go p.tables e below s _ _ _ (s₁.setTop (mkF m 48 #[.val (.int p1)] [(.int (1 : Int32))]))
              have hz : own_nm p1 = (1 : Int32) := by
                simp only [own_lt, own_eq, Int32.reduceToInt] at hc3_1 hc11_2 hc20_3 hc28_4 hc34_5 hc40_6
                exact own_nm1 (by omega)
              exact own_retZ X0 hx hlk Bd.returns (hb hby d3_48) (by decide) (by decide) ⟨by rw [hz]; rfl, N0, e0⟩
            · refine own_by (fun _ k => XS.icmpYes X0.here hx rfl (pc0 := 40) (pc' := 47) rfl (hb hby d3_40) rfl (feq hc40_6).2 (by decide) (by decide) k) ?_
              show own_Go p.tables e below s _ _ _ (s₁.setTop (mkF m 47 #[.val (.int p1)] []))
              refine own_by (fun _ k => XS.iconst X0.here hx rfl (hb hby d3_47) k) ?_
              show own_Go p.tables e below s _ _ _ (s₁.setTop (mkF m 48 #[.val (.int p1)] [(.int (0 : Int32))]))
              have hz : own_nm p1 = (0 : Int32) := by
                simp only [own_lt, own_eq, Int32.reduceToInt] at hc3_1 hc11_2 hc20_3 hc28_4 hc34_5 hc40_6
                exact own_nm0 (by omega)
              exact own_retZ X0 hx hlk Bd.returns (hb hby d3_48) (by decide) (by decide) ⟨by rw [hz]; rfl, N0, e0⟩
      · refine own_by (fun _ k => XS.icmpNo X0.here hx rfl (hb hby d3_20) rfl (flt hc20_3).1 k) ?_
        show own_Go p.tables e below s _ _ _ (s₁.setTop (mkF m 23 #[.val (.int p1)] []))
        refine own_by (fun _ k => XS.iconst X0.here hx rfl (hb hby d3_23) k) ?_
        show own_Go p.tables e below s _ _ _ (s₁.setTop (mkF m 24 #[.val (.int p1)] [(.int (1 : Int32))]))
        have hz : own_nm p1 = (1 : Int32) := by
          simp only [own_lt, own_eq, Int32.reduceToInt] at hc3_1 hc11_2 hc20_3
          exact own_nm1 (by omega)
        exact own_retZ X0 hx hlk Bd.returns (hb hby d3_24) (by decide) (by decide) ⟨by rw [hz]; rfl, N0, e0⟩
    · refine own_by (fun _ k => XS.icmpNo X0.here hx rfl (hb hby d3_11) rfl (flt hc11_2).1 k) ?_
      show own_Go p.tables e below s _ _ _ (s₁.setTop (mkF m 14 #[.val (.int p1)] []))
      refine own_by (fun _ k => XS.iconst X0.here hx rfl (hb hby d3_14) k) ?_
      show own_Go p.tables e below s _ _ _ (s₁.setTop (mkF m 15 #[.val (.int p1)] [(.int (0 : Int32))]))
      have hz : own_nm p1 = (0 : Int32) := by
        simp only [own_lt, own_eq, Int32.reduceToInt] at hc3_1 hc11_2
        exact own_nm0 (by omega)
      exact own_retZ X0 hx hlk Bd.returns (hb hby d3_15) (by decide) (by decide) ⟨by rw [hz]; rfl, N0, e0⟩
  · refine own_by (fun _ k => XS.icmpNo X0.here hx rfl (hb hby d3_3) rfl (flt hc3_1).1 k) ?_
    show own_Go p.tables e below s _ _ _ (s₁.setTop (mkF m 6 #[.val (.int p1)] []))
    refine own_by (fun _ k => XS.iconst X0.here hx rfl (hb hby d3_6) k) ?_
    show own_Go p.tables e below s _ _ _ (s₁.setTop (mkF m 7 #[.val (.int p1)] [(.int (1 : Int32))]))
    have hz : own_nm p1 = (1 : Int32) := by
      simp only [own_lt, own_eq, Int32.reduceToInt] at hc3_1
      exact own_nm1 (by omega)
    exact own_retZ X0 hx hlk Bd.returns (hb hby d3_7) (by decide) (by decide) ⟨by rw [hz]; rfl, N0, e0⟩

theorem pf_0 : plainFor x = true := by first | exact plainFor_of_name (by first | (simp [plainName, overriddenIn]; done) | decide +kernel) | decide +kernel
theorem pd_0 : parseMethodDescriptor "(II)Z" = some ⟨[.int, .int], some .boolean⟩ := by decide +kernel
theorem ef_0 (m : MethodId) (p1 : Int32) (p2 : Int32) : entryFrame m #[(.int p1), (.int p2)] maxLocals = mkF m 0 #[.val (.int p1), .val (.int p2), .unset] [] := by first | (simp [entryFrame, mkF, argsToLocals, Value.category, maxLocals]; done) | rfl
def Q0 (p1 : Int32) (p2 : Int32) (h0 : Heap) (n0 : Nat) (v : Option Value) (h : Heap) (L : List Loc) : Prop := v = some (.int 1) ∧ Fr n0 L
set_option maxRecDepth 65536 in
set_option maxHeartbeats 40000000 in
theorem rm0 (l : Launch) (Z : State) (a0 : Array Value) (hw : ∀ d ∈ tables_1, d.before a0 Z = true) (ws : List Jvm.Cond) (p1 : Int32) (p2 : Int32) (h0 : Heap) (n0 : Nat) (Z0 : n0 ≤ h0.size)  :
    own_Met l Z x code maxLocals ret ws room_1 #[(.int p1), (.int p2)] h0 (Q0 p1 p2 h0 n0) := by
  refine MetFree.of_bodySF pf_0 hisR ?_
  intro p e s m args below meth c s₁ Bd hml0 hP hK
  obtain ⟨rfl, hZ, hh⟩ := hP
  have hx := Bd.exec
  have hby := Bd.bytes
  have hlk : meth.locks = false := BodyLoose.notSynchronized Bd
  have hml : c.maxLocals = 3 := hml0
  have hown : s.vm.findClass "com/example/proofhound/proofhound/frontend/IdentifierCharactersNameablePinLaw" = some m.cls := findClass_of_methodNamed Bd.named
  have hnm := (name_of_methodNamed Bd.named Bd.method).1
  have X0 : Stand p l e room_1 s m #[(.int p1), (.int p2)] below meth c s₁ [] 0 0 := Stand.of_body Bd
  have e0 : s₁.heap = h0 := by rw [← hh, Bd.state]; rfl
  have N0 := Fr.nil n0
  show own_Go p.tables e below s (Q0 p1 p2 h0 n0) room_1.cells room_1.slots _
  refine own_by (fun _ k => castTop (ef_0 m p1 p2) k) ?_
  show own_Go p.tables e below s _ _ _ (s₁.setTop (mkF m 0 #[.val (.int p1), .val (.int p2), .unset] []))
  refine own_by (fun _ k => XS.iloadN X0.here hx rfl (hb hby at_0) rfl k) ?_
  show own_Go p.tables e below s _ _ _ (s₁.setTop (mkF m 1 #[.val (.int p1), .val (.int p2), .unset] [(.int p1)]))
  refine own_by (fun _ k => XS.iloadN X0.here hx rfl (hb hby at_1) rfl k) ?_
  show own_Go p.tables e below s _ _ _ (s₁.setTop (mkF m 2 #[.val (.int p1), .val (.int p2), .unset] [(.int p2), (.int p1)]))
  refine own_by (fun _ k => XS.bipush X0.here hx rfl (hb hby at_2) k) ?_
  show own_Go p.tables e below s _ _ _ (s₁.setTop (mkF m 4 #[.val (.int p1), .val (.int p2), .unset] [(.int (15 : Int32)), (.int p2), (.int p1)]))
  refine own_by (fun _ k => XS.iand X0.here hx rfl (hb hby at_4) rfl k) ?_
  show own_Go p.tables e below s _ _ _ (s₁.setTop (mkF m 5 #[.val (.int p1), .val (.int p2), .unset] [(.int (p2 &&& (15 : Int32))), (.int p1)]))
  obtain ⟨v1, T1, L1, X1, q1, st1⟩ := own_callS X0 hx hZ hown (hw _ (List.mem_of_getElem? (i := 0) rfl)) (hw _ (List.mem_of_getElem? (i := 1) rfl)) (hw _ (List.mem_of_getElem? (i := 2) rfl)) (hw _ (List.mem_of_getElem? (i := 3) rfl)) (by decide) (rm1 l Z a0 hw [] p1 (p2 &&& (15 : Int32)) h0 n0 Z0) (W := 0) (by decide) (by decide) e0 (g := (mkF m 5 #[.val (.int p1), .val (.int p2), .unset] [(.int (p2 &&& (15 : Int32))), (.int p1)])) rfl (by rw [hml]; rfl) (argsL := [(.int p1), (.int (p2 &&& (15 : Int32)))]) (rest := []) (lenOf pd_1 rfl) rfl rfl (by show 2 * 0 + _ ≤ _; exact Nat.le_of_eq rfl) (hb hby at_5) (by decide) (by decide)
  obtain ⟨⟨z1, rfl⟩, Nq1, hh1⟩ := q1
  have N1 := Fr.app N0 Nq1
  refine own_by st1 ?_
  show own_Go p.tables e below s _ _ _ (T1.setTop (mkF m 8 #[.val (.int p1), .val (.int p2), .unset] [(.int z1)]))
  refine own_by (fun _ k => XS.istoreN X1.here hx rfl (hb hby at_8) rfl (l' := #[.val (.int p1), .val (.int p2), .val (.int z1)]) rfl k) ?_
  show own_Go p.tables e below s _ _ _ (T1.setTop (mkF m 9 #[.val (.int p1), .val (.int p2), .val (.int z1)] []))
  refine own_by (fun _ k => XS.iloadN X1.here hx rfl (hb hby at_9) rfl k) ?_
  show own_Go p.tables e below s _ _ _ (T1.setTop (mkF m 10 #[.val (.int p1), .val (.int p2), .val (.int z1)] [(.int z1)]))
  obtain ⟨v2, T2, L2, X2, q2, st2⟩ := own_callS X1 hx hZ hown (hw _ (List.mem_of_getElem? (i := 5) rfl)) (hw _ (List.mem_of_getElem? (i := 6) rfl)) (hw _ (List.mem_of_getElem? (i := 7) rfl)) (hw _ (List.mem_of_getElem? (i := 8) rfl)) (by decide) (rm2 l Z a0 hw [] z1 h0 n0 Z0) (W := 0) (by decide) (by decide) hh1 (g := (mkF m 10 #[.val (.int p1), .val (.int p2), .val (.int z1)] [(.int z1)])) rfl (by rw [hml]; rfl) (argsL := [(.int z1)]) (rest := []) (lenOf pd_2 rfl) rfl rfl (by show 2 * 0 + _ ≤ _; exact Nat.le_of_eq rfl) (hb hby at_10) (by decide) (by decide)
  obtain ⟨rfl, Nq2, hh2⟩ := q2
  have N2 := Fr.app N1 Nq2
  refine own_by st2 ?_
  show own_Go p.tables e below s _ _ _ (T2.setTop (mkF m 13 #[.val (.int p1), .val (.int p2), .val (.int z1)] [(.int (own_nm z1))]))
  refine own_by (fun _ k => XS.iloadN X2.here hx rfl (hb hby at_13) rfl k) ?_
  show own_Go p.tables e below s _ _ _ (T2.setTop (mkF m 14 #[.val (.int p1), .val (.int p2), .val (.int z1)] [(.int z1), (.int (own_nm z1))]))
  obtain ⟨v3, T3, L3, X3, q3, st3⟩ := own_callS X2 hx hZ hown (hw _ (List.mem_of_getElem? (i := 10) rfl)) (hw _ (List.mem_of_getElem? (i := 11) rfl)) (hw _ (List.mem_of_getElem? (i := 2) rfl)) (hw _ (List.mem_of_getElem? (i := 12) rfl)) (by decide) (rm3 l Z a0 hw [] z1 h0 n0 Z0) (W := 1) (by decide) (by decide) hh2 (g := (mkF m 14 #[.val (.int p1), .val (.int p2), .val (.int z1)] [(.int z1), (.int (own_nm z1))])) rfl (by rw [hml]; rfl) (argsL := [(.int z1)]) (rest := [(.int (own_nm z1))]) (lenOf pd_3 rfl) rfl rfl (by show 2 * 0 + _ ≤ _; exact Nat.le_of_eq rfl) (hb hby at_14) (by decide) (by decide)
  obtain ⟨rfl, Nq3, hh3⟩ := q3
  have N3 := Fr.app N2 Nq3
  refine own_by st3 ?_
  show own_Go p.tables e below s _ _ _ (T3.setTop (mkF m 17 #[.val (.int p1), .val (.int p2), .val (.int z1)] [(.int (own_nm z1)), (.int (own_nm z1))]))
  by_cases hc17_4 : (own_nm z1) = (own_nm z1)
  · refine own_by (fun _ k => XS.icmpNo X3.here hx rfl (hb hby at_17) rfl (teq hc17_4).2 k) ?_
    show own_Go p.tables e below s _ _ _ (T3.setTop (mkF m 20 #[.val (.int p1), .val (.int p2), .val (.int z1)] []))
    refine own_by (fun _ k => XS.iconst X3.here hx rfl (hb hby at_20) k) ?_
    show own_Go p.tables e below s _ _ _ (T3.setTop (mkF m 21 #[.val (.int p1), .val (.int p2), .val (.int z1)] [(.int (1 : Int32))]))
    refine own_by (fun _ k => XS.goto X3.here hx rfl (pc0 := 21) (pc' := 25) rfl (hb hby at_21) (by decide) (by decide) k) ?_
    show own_Go p.tables e below s _ _ _ (T3.setTop (mkF m 25 #[.val (.int p1), .val (.int p2), .val (.int z1)] [(.int (1 : Int32))]))
    exact own_retZ X3 hx hlk Bd.returns (hb hby at_25) (by decide) (by decide) ⟨rfl, N3⟩
  · refine own_by (fun _ k => XS.icmpYes X3.here hx rfl (pc0 := 17) (pc' := 24) rfl (hb hby at_17) rfl (feq hc17_4).2 (by decide) (by decide) k) ?_
    show own_Go p.tables e below s _ _ _ (T3.setTop (mkF m 24 #[.val (.int p1), .val (.int p2), .val (.int z1)] []))
    refine own_by (fun _ k => XS.iconst X3.here hx rfl (hb hby at_24) k) ?_
    show own_Go p.tables e below s _ _ _ (T3.setTop (mkF m 25 #[.val (.int p1), .val (.int p2), .val (.int z1)] [(.int (0 : Int32))]))
    exact absurd rfl hc17_4
set_option maxRecDepth 65536 in
set_option maxHeartbeats 40000000 in
theorem comes_1 {Post : Tables → Env → Array Value → State → Outcome → State → Prop} (hpost : ∀ tb e args s v u, (limb_1_1.after args s (.returned v) u = true ∧ limb_1_2.after args s (.returned v) u = true ∧ True) → FrameEnd s (.returned v) u (Jvm.fieldLocs frame_1_writes args s ++ Jvm.arrayLocs frame_1_arrays args s ++ Jvm.staticLocs frame_1_statics s) 0 0 → Post tb e args s (.returned v) u) :
    ArmFor flags0 classFile x code maxLocals ret World_1 tables_1 room_1 Calls_1 rest_1 Pre_1 Post := by
  intro l hfl _ _ p e ha hc hk s m args below hf hA hF happ hP
  obtain ⟨hcalls, hrest, hpre⟩ := hP
  obtain ⟨-, -, -, hnamed, -, -, -, hat⟩ := (Spec.applies_iff hf).mp happ
  obtain ⟨hg, hn⟩ := and_e (Cond.before_iff.mp (show (Jvm.Cond.and given_1 narrow_1).before args s = true from hpre))
  obtain ⟨hcount, hr0⟩ := and_e hg
  obtain ⟨ha0, hr1⟩ := and_e hr0
  obtain ⟨w0, w1, rfl⟩ : ∃ w0 w1 : Value, args = #[w0, w1] := by
    have hs : args.size = 2 := by simpa [Cond.value, given_1] using hcount
    obtain ⟨L⟩ := args
    match L, hs with
    | [w0, w1], _ => exact ⟨w0, w1, rfl⟩
  have hw := fun d (hd : d ∈ tables_1) => atoms_spec (ws := Jvm.Cond.code x code maxLocals ret :: tables_1) hat d (List.mem_cons_of_mem _ hd)
  obtain ⟨i0, ev0⟩ := is_v ha0
  obtain rfl : w0 = (.int i0) := Option.some.inj ev0
  obtain ⟨i1, ev1⟩ := is_v hr1
  obtain rfl : w1 = (.int i1) := Option.some.inj ev1
  obtain ⟨n, o, h1, h2, h3, _, L, rfl, ⟨rfl, N⟩, hq⟩ := rm0 l s _ hw tables_1 i0 i1 s.heap s.heap.size (Nat.le_refl _) p e ha hc hk s m _ below hf ((Spec.applies_iff_loose hf).mp happ).1 ⟨rfl, State.Warmed39.refl s, rfl⟩ trivial
  refine ⟨n, _, h1, h2, h3, hpost _ _ _ _ _ _ ⟨Cond.after_iff.mpr rfl, Cond.after_iff.mpr (eq_i res_at (Term.int_eval (1)) rfl), trivial⟩ ⟨hq.1, hq.2.1, (hq.2.2.sift fun y hy => Or.inr (N y hy)).mono (by decide) (by decide)⟩⟩
theorem main_1_1 : Claimed_1_1 := comes_1 fun _ _ _ _ _ _ h hF => ⟨h.1, hF⟩
theorem main_1_2 : Claimed_1_2 := comes_1 fun _ _ _ _ _ _ h hF => ⟨h.2.1, hF⟩
end Jvm.Pilot.@@N@@
namespace Jvm.Pilot.@@N@@
open Jvm Jvm.ClassFile Sem Op Lib Jvm.Free Jvm.Stand Jvm.Pilot.@@N@@.Jvm.D
/-! MADE BY PROGRAM (witnessworld.py) out of the Statement's table words and the real class files: 9 classes; the members and pool entries that the words name. The judged class is class 1, her method 1. -/
namespace start1
open Jvm.ClassFile
def u (s : String) : CpInfo := .utf8 (stringToUtf16 s)
/-- a pool by its gaps: so many unusable entries, then the entry; so many at the end -/
def gap : Nat → List CpInfo → List CpInfo
  | 0, r => r
  | n + 1, r => .unusable :: gap n r
def poolList (es : List (Nat × CpInfo)) (last : Nat) : List CpInfo := es.foldr (fun e r => gap e.1 (e.2 :: r)) (gap last [])
def pool (es : List (Nat × CpInfo)) (last : Nat) : Array CpInfo := ⟨poolList es last⟩
def fileOf (pool : Array CpInfo) (this : Nat) (attrs : Array Attribute := #[]) (ms : Array MethodInfo := #[]) (fl : Nat := 33) (sup : Nat := 0) (ifs : Array Nat := #[]) (fds : Array FieldInfo := #[]) : ClassFile where
  minorVersion := 0
  majorVersion := 65
  constantPool := pool
  accessFlags := fl
  thisClass := this
  superClass := sup
  interfaces := ifs
  fields := fds
  methods := ms
  attributes := attrs
def plain (name : String) (sup : Option ClassId) : Class where
  name := name
  kind := .ordinary
  loader := none
  accessFlags := 33
  super := sup
  interfaces := #[]
  cf := none
  fields := #[]
  methods := #[]
  instanceTypes := #[]
  staticTypes := #[]
  resolved := #[]
  callSites := []
  init := .initialized
  statics := none
  mirror := none

def pool0 : Array CpInfo := pool [(5, u "<init>"), (0, u "()V"), (1, .class_ 10), (1, u "java/lang/Object")] 113

def k0m0 : Method := { name := "<init>", desc := "()V", sig := { parameters := [], returnType := none }, accessFlags := 1, code := none }
/-- java/lang/Object -/
def k0 : Class := { plain "java/lang/Object" none with
  accessFlags := 33
  interfaces := #[]
  cf := some (fileOf pool0 8 #[] #[{ accessFlags := 1, nameIndex := 5, descriptorIndex := 6, attributes := #[] }] 33 0 #[] #[])
  fields := #[]
  methods := #[k0m0]
  instanceTypes := #[]
  staticTypes := #[]
  resolved := Array.replicate 124 none
  statics := none }

def pool1 : Array CpInfo := pool [(2, .class_ 4), (1, u "java/lang/Object"), (0, u "<init>"), (0, u "()V"), (0, .methodref 8 9), (0, .class_ 10), (0, .nameAndType 11 12), (0, u "com/example/proofhound/proofhound/frontend/IdentifierCharactersNameablePinLaw"), (0, u "pick"), (0, u "(II)I"), (0, .methodref 14 15), (0, .class_ 16), (0, .nameAndType 17 18), (0, u "com/example/proofhound/proofhound/frontend/IdentifierCharacters"), (0, u "nameable"), (0, u "(I)Z"), (0, .methodref 8 20), (0, .nameAndType 21 18), (0, u "expected"), (0, .integer 55295), (0, .integer 55296), (0, .integer 57343), (0, .integer 57344), (0, .integer 2097151), (2, u "law"), (0, u "(II)Z")] 3

def k1m0 : Method := { name := "<init>", desc := "()V", sig := { parameters := [], returnType := none }, accessFlags := 2, code := none }
def k1c1 : Code := { maxStack := 3, maxLocals := 3, code := code, exceptionTable := #[], attributes := #[] }
def k1m1 : Method := { name := "law", desc := "(II)Z", sig := { parameters := [.int, .int], returnType := some .boolean }, accessFlags := 9, code := some k1c1 }
def k1c2 : Code := { maxStack := 3, maxLocals := 2, code := method_3_code, exceptionTable := #[], attributes := #[] }
def k1m2 : Method := { name := "pick", desc := "(II)I", sig := { parameters := [.int, .int], returnType := some .int }, accessFlags := 10, code := some k1c2 }
def k1c3 : Code := { maxStack := 2, maxLocals := 1, code := method_4_code, exceptionTable := #[], attributes := #[] }
def k1m3 : Method := { name := "expected", desc := "(I)Z", sig := { parameters := [.int], returnType := some .boolean }, accessFlags := 10, code := some k1c3 }
/-- com/example/proofhound/proofhound/frontend/IdentifierCharactersNameablePinLaw -/
def k1 : Class := { plain "com/example/proofhound/proofhound/frontend/IdentifierCharactersNameablePinLaw" (some 0) with
  accessFlags := 49
  interfaces := #[]
  cf := some (fileOf pool1 8 #[] #[{ accessFlags := 2, nameIndex := 5, descriptorIndex := 6, attributes := #[] }, { accessFlags := 9, nameIndex := 29, descriptorIndex := 30, attributes := #[] }, { accessFlags := 10, nameIndex := 11, descriptorIndex := 12, attributes := #[] }, { accessFlags := 10, nameIndex := 21, descriptorIndex := 18, attributes := #[] }] 49 2 #[] #[])
  fields := #[]
  methods := #[k1m0, k1m1, k1m2, k1m3]
  instanceTypes := #[]
  staticTypes := #[]
  resolved := Array.replicate 34 none
  statics := none }

def pool2 : Array CpInfo := pool [(2, .class_ 4), (1, u "java/lang/Object"), (0, u "<init>"), (0, u "()V"), (0, .integer 55296), (0, .integer 57343), (1, .class_ 12), (1, u "com/example/proofhound/proofhound/frontend/IdentifierCharacters"), (0, u "ALLOWED"), (0, u "[[I"), (6, u "NOT_FIRST"), (41, u "nameable"), (0, u "(I)Z")] 7

def k2m0 : Method := { name := "<init>", desc := "()V", sig := { parameters := [], returnType := none }, accessFlags := 2, code := none }
def k2c1 : Code := { maxStack := 2, maxLocals := 2, code := prog_102_method_2_code, exceptionTable := #[], attributes := #[] }
def k2m1 : Method := { name := "nameable", desc := "(I)Z", sig := { parameters := [.int], returnType := some .boolean }, accessFlags := 8, code := some k2c1 }
/-- com/example/proofhound/proofhound/frontend/IdentifierCharacters -/
def k2 : Class := { plain "com/example/proofhound/proofhound/frontend/IdentifierCharacters" (some 0) with
  accessFlags := 48
  interfaces := #[]
  cf := some (fileOf pool2 10 #[] #[{ accessFlags := 2, nameIndex := 5, descriptorIndex := 6, attributes := #[] }, { accessFlags := 8, nameIndex := 63, descriptorIndex := 64, attributes := #[] }] 48 2 #[] #[{ accessFlags := 26, nameIndex := 13, descriptorIndex := 14, attributes := #[] }, { accessFlags := 26, nameIndex := 21, descriptorIndex := 14, attributes := #[] }])
  fields := #[{ name := "ALLOWED", type := (.array (.array .int)), accessFlags := 26, slot := 0, constantValue := 0 }, { name := "NOT_FIRST", type := (.array (.array .int)), accessFlags := 26, slot := 1, constantValue := 0 }]
  methods := #[k2m0, k2m1]
  instanceTypes := #[]
  staticTypes := #[(.array (.array .int)), (.array (.array .int))]
  resolved := Array.replicate 72 none
  statics := none }

def pool3 : Array CpInfo := pool [(1, u "java/lang/Cloneable"), (0, .class_ 1), (0, u "java/lang/Object"), (0, .class_ 3)] 3

/-- java/lang/Cloneable -/
def k3 : Class := { plain "java/lang/Cloneable" (some 0) with
  accessFlags := 1537
  interfaces := #[]
  cf := some (fileOf pool3 2 #[] #[] 1537 4 #[] #[])
  fields := #[]
  methods := #[]
  instanceTypes := #[]
  staticTypes := #[]
  resolved := Array.replicate 8 none
  statics := none }

def pool4 : Array CpInfo := pool [(1, u "java/io/Serializable"), (0, .class_ 1), (0, u "java/lang/Object"), (0, .class_ 3)] 3

/-- java/io/Serializable -/
def k4 : Class := { plain "java/io/Serializable" (some 0) with
  accessFlags := 1537
  interfaces := #[]
  cf := some (fileOf pool4 2 #[] #[] 1537 4 #[] #[])
  fields := #[]
  methods := #[]
  instanceTypes := #[]
  staticTypes := #[]
  resolved := Array.replicate 8 none
  statics := none }

/-- the primitive byte -/
def k5 : Class := { plain "byte" none with kind := .primitive 'B', accessFlags := 0x411 }
/-- [B -/
def k6 : Class := { plain "[B" (some 0) with kind := .array 5 .byte, interfaces := #[3, 4], accessFlags := 1041 }

/-- the primitive int -/
def k7 : Class := { plain "int" none with kind := .primitive 'I', accessFlags := 0x411 }
/-- [I -/
def k8 : Class := { plain "[I" (some 0) with kind := .array 7 .int, interfaces := #[3, 4], accessFlags := 1041 }

def heap : Heap := #[]
def classes : Array Class := #[k0, k1, k2, k3, k4, k5, k6, k7, k8]
def interned : List (Array UInt16 × Addr) := []
def slotsUsed : Nat := 0
def theMethod : MethodId := ⟨1, 1⟩
def args0 : Array Value := #[.int 5, .int 0]
def aboutOver (below : List Frame) : State where
  vm := { classes := classes, interned := interned.toArray }
  heap := heap
  slotsUsed := slotsUsed
  threads := #[{ frames := .invoking theMethod args0 :: below }]
def below0 : List Frame := [.native { method := ⟨0, 0⟩, args := #[] }]
def about1 : State := aboutOver below0
def p0 : Program := .bare "" "" ""
def e0 : Env := launch0.env 0 0 0
theorem w_frames : about1.frames = Frame.invoking theMethod args0 :: below0 := rfl
set_option maxRecDepth 65536 in
theorem w_args : argsFit about1.vm theMethod args0 = true := by decide +kernel
set_option maxRecDepth 65536 in
theorem w_heap : heapFits about1 = true := by decide +kernel
set_option maxRecDepth 65536 in
theorem w_runnable : about1.curStatus? = some .runnable := by decide +kernel
set_option maxRecDepth 65536 in
theorem w_alone : about1.alone = true := by decide +kernel
set_option maxRecDepth 65536 in
theorem w_named : about1.methodNamed? x = some theMethod := by decide +kernel
set_option maxRecDepth 65536 in
theorem w_hears : about1.hears theMethod below0 = true := by decide +kernel
set_option maxRecDepth 65536 in
theorem w_ripe : about1.ripe theMethod args0 below0 = true := by decide +kernel
theorem w_running : about1.status = .running := rfl
set_option maxRecDepth 65536 in
theorem w_room : about1.hasRoom e0.platform room_1 = true :=
  launch0.hasRoom_least _ room_1 (by decide +kernel) (by decide +kernel) (by decide +kernel) (by decide +kernel) (by decide +kernel) (by decide +kernel)
theorem allAtoms_all (ts : List Jvm.Cond) (a : Array Jvm.Value) (st : Jvm.State) : (allAtoms ts).before a st = ts.all (fun c => c.before a st) := by
  induction ts with
  | nil => rfl
  | cons c t ih =>
    show (Jvm.Cond.and c (allAtoms t)).before a st = _
    rw [Jvm.Cond.before_and, ih, List.all_cons]
def words1 : List Jvm.Cond := Jvm.Cond.code x code maxLocals ret :: tables_1
/-- a 'code' word, met by the world's own term for the bytes: nothing is compared byte by byte -/
theorem code_word {y : MethodName} {bytes : ByteArray} {mx : Nat} {rt : Option FieldType} {a : Array Value} {s : State} {m : MethodId} {meth : Method} {c : Code} (h1 : s.methodNamed? y = some m) (h2 : s.vm.method? m = some meth) (h3 : meth.code = some c) (h4 : c.code = bytes)
    (h5 : (c.maxLocals == mx && c.exceptionTable.isEmpty && decide (c.maxStack ≤ mostOperands) && decide (meth.sig.returnType = rt) && !meth.locks && decide (parseMethodDescriptor y.desc = some meth.sig)) = true) : (Jvm.Cond.code y bytes mx rt).before a s = true := by
  simp only [Bool.and_eq_true, beq_iff_eq, Bool.not_eq_true', decide_eq_true_eq] at h5
  obtain ⟨⟨⟨⟨⟨g1, g2⟩, g3⟩, g4⟩, g5⟩, g6⟩ := h5
  simp [Cond.before, Cond.holds, Cond.value, h1, h2, h3, h4, g1, g2, g3, g4, g5, g6]
def isCode : Jvm.Cond → Bool
  | .code _ _ _ _ => true
  | _ => false
theorem all_split {L : List Jvm.Cond} {P : Jvm.Cond → Bool} (h1 : L.all (fun c => isCode c || P c) = true) (h2 : ∀ c ∈ L.filter isCode, P c = true) : L.all P = true := by
  refine List.all_eq_true.mpr fun c hc => ?_
  have h := List.all_eq_true.mp h1 c hc
  rcases Bool.eq_false_or_eq_true (isCode c) with hi | hi
  · exact h2 c (List.mem_filter.mpr ⟨hc, hi⟩)
  · simpa [hi] using h
set_option maxRecDepth 65536 in
theorem w_c0 : (Jvm.Cond.code x code maxLocals ret).before args0 about1 = true := code_word (m := ⟨1, 1⟩) (meth := k1m1) (c := k1c1) (by decide +kernel) rfl rfl rfl (by decide +kernel)
set_option maxRecDepth 65536 in
theorem w_c1 : (Jvm.Cond.code ({ cls := "com/example/proofhound/proofhound/frontend/IdentifierCharactersNameablePinLaw", name := "pick", desc := "(II)I" } : Jvm.MethodName) method_3_code (2 : Nat) (Option.some Jvm.ClassFile.FieldType.int)).before args0 about1 = true := code_word (m := ⟨1, 2⟩) (meth := k1m2) (c := k1c2) (by decide +kernel) rfl rfl rfl (by decide +kernel)
set_option maxRecDepth 65536 in
theorem w_c2 : (Jvm.Cond.code ({ cls := "com/example/proofhound/proofhound/frontend/IdentifierCharacters", name := "nameable", desc := "(I)Z" } : Jvm.MethodName) prog_102_method_2_code (2 : Nat) (Option.some Jvm.ClassFile.FieldType.boolean)).before args0 about1 = true := code_word (m := ⟨2, 1⟩) (meth := k2m1) (c := k2c1) (by decide +kernel) rfl rfl rfl (by decide +kernel)
set_option maxRecDepth 65536 in
theorem w_c3 : (Jvm.Cond.code ({ cls := "com/example/proofhound/proofhound/frontend/IdentifierCharactersNameablePinLaw", name := "expected", desc := "(I)Z" } : Jvm.MethodName) method_4_code (1 : Nat) (Option.some Jvm.ClassFile.FieldType.boolean)).before args0 about1 = true := code_word (m := ⟨1, 3⟩) (meth := k1m3) (c := k1c3) (by decide +kernel) rfl rfl rfl (by decide +kernel)
def codes1 : List Jvm.Cond := [Jvm.Cond.code x code maxLocals ret, Jvm.Cond.code ({ cls := "com/example/proofhound/proofhound/frontend/IdentifierCharactersNameablePinLaw", name := "pick", desc := "(II)I" } : Jvm.MethodName) method_3_code (2 : Nat) (Option.some Jvm.ClassFile.FieldType.int), Jvm.Cond.code ({ cls := "com/example/proofhound/proofhound/frontend/IdentifierCharacters", name := "nameable", desc := "(I)Z" } : Jvm.MethodName) prog_102_method_2_code (2 : Nat) (Option.some Jvm.ClassFile.FieldType.boolean), Jvm.Cond.code ({ cls := "com/example/proofhound/proofhound/frontend/IdentifierCharactersNameablePinLaw", name := "expected", desc := "(I)Z" } : Jvm.MethodName) method_4_code (1 : Nat) (Option.some Jvm.ClassFile.FieldType.boolean)]
set_option maxRecDepth 65536 in
theorem codes_eq : words1.filter isCode = codes1 := rfl
theorem w_codes : ∀ c ∈ words1.filter isCode, c.before args0 about1 = true := by
  rw [codes_eq]
  intro c hc
  simp only [codes1, List.mem_cons, List.not_mem_nil, or_false] at hc
  rcases hc with rfl | rfl | rfl | rfl
  · exact w_c0
  · exact w_c1
  · exact w_c2
  · exact w_c3
set_option maxRecDepth 65536 in
theorem w_t1 : words1.all (fun c => isCode c || c.before args0 about1) = true := by decide +kernel
theorem w_tables : (allAtoms (Jvm.Cond.code x code maxLocals ret :: tables_1)).before args0 about1 = true := by
  rw [allAtoms_all]
  show words1.all (fun c => c.before args0 about1) = true
  refine all_split ?_ w_codes
  rw [w_t1]
set_option maxRecDepth 65536 in
theorem w_case : (Jvm.Cond.and given_1 narrow_1).before args0 about1 = true := by decide +kernel
theorem w_applies : (headSpec (Jvm.Cond.code x code maxLocals ret :: tables_1) room_1).applies x e0.platform about1 = true :=
  (Spec.applies_iff w_frames).mpr ⟨w_running, w_runnable, w_alone, w_named, w_hears, w_ripe, w_room, w_tables⟩
theorem atStart : AtStart classFile x code maxLocals ret World_1 tables_1 room_1 Calls_1 rest_1 Pre_1 launch0 p0 e0 about1 theMethod args0 below0 :=
  ⟨lists_1, trivial, launch0.admits_env _ _ _, launch0.least_env, fairChoices_fair.cas, fairChoices_fair.clock, w_frames, w_args, w_heap, w_applies, trivial, trivial, w_case⟩
end start1
theorem witness_1 : WitnessClaimed_1 := ⟨start1.p0, start1.e0, start1.about1, start1.theMethod, start1.args0, start1.below0, start1.atStart⟩
end Jvm.Pilot.@@N@@
