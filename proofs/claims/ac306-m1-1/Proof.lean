import JvmDerived
import JvmDerived.Pilot.@@N@@Statement
import JvmDerived.Pilot.@@N@@Code
set_option linter.unusedVariables false
set_option linter.unusedSimpArgs false
namespace Jvm.Pilot.@@N@@
open Jvm Jvm.ClassFile Sem Op Lib Jvm.Free Jvm.Stand Jvm.LawKit Jvm.RoadKit Bundle Jvm.Pilot.@@N@@.Jvm.D
/-- Java's >>> on longs and on ints -/
def own_sr (x : Int64) (k : Int32) : Int64 := ((x.toUInt64 >>> (k &&& 0x3f).toInt64.toUInt64).toInt64)
def own_sri (x : Int32) (k : Int32) : Int32 := ((x.toUInt32 >>> (k &&& 31).toUInt32).toInt32)
section Own
variable {p : Program} {l : Launch} {e : Env} {R : Room} {s : State} {m : MethodId} {args : Array Value} {below : List Frame} {meth : Method} {c : Code} {T : State} {locs : List Loc} {cells slots : Nat} {Z : State} {a0 : Array Value} {h : Heap} {Q : Option Value → Heap → List Loc → Prop} {kc kn : Nat}
/-- from the state A the body comes to an end that answers Q -/
def own_Go (tb : Tables) (e : Env) (below : List Frame) (s : State) (Q : Option Value → Heap → List Loc → Prop) (kc kn : Nat) (A : State) : Prop :=
  ∃ s₂ o, Steps tb e below A s₂ ∧ s₂.status = .running ∧ Ended s₂ below o ∧ ∃ v L, o = .returned v ∧ Q v s₂.heap L ∧ FrameEnd s o s₂ L kc kn
theorem own_by {tb : Tables} {A B : State} (g : ∀ t, Steps tb e below B t → Steps tb e below A t) (k : own_Go tb e below s Q kc kn B) : own_Go tb e below s Q kc kn A := by
  obtain ⟨s₂, o, h1, r⟩ := k
  exact ⟨s₂, o, g s₂ h1, r⟩
theorem own_end (X : Stand p l e R s m args below meth c T locs cells slots) {v : Option Value} (hv : meth.sig.returnType = none → v = none) (hlocks : meth.locks = false) {A : State}
    (hA : ∀ fs : List Frame, (∀ (f : JFrame) (acts : List Action), f.method = m → f.locked = none → f.entered = [] → (doReturn e (T.setTop f) acts v).1 = T.setFrames fs) → Steps p.tables e below A (T.setFrames fs)) (hk : cells ≤ kc) (hn : slots ≤ kn) (hQ : Q v T.heap locs) : own_Go p.tables e below s Q kc kn A := by
  obtain ⟨fs, hr, hrun, hended, hW, hsame⟩ := X.leave hv hlocks
  exact ⟨_, _, hA fs hr, hrun, hended, _, _, rfl, hQ, ⟨_, rfl⟩, hW, hsame.mono hk hn⟩
theorem own_retZ (X : Stand p l e R s m args below meth c T locs cells slots) (hx : p.tables.exec = Jvm.exec) (hlocks : meth.locks = false) (hret : meth.sig.returnType = some .boolean) {pc : Nat} {Ls : Array Slot} {z : Int32} {rest : List Value} (hd : decode c.code pc = .ok (.ireturn, 1)) (hk : cells ≤ kc) (hn : slots ≤ kn) (hQ : Q (some (.int (z &&& 1))) T.heap locs) : own_Go p.tables e below s Q kc kn (T.setTop (mkF m pc Ls (.int z :: rest))) :=
  own_end X (v := some (.int (z &&& 1))) (fun q => by rw [hret] at q; cases q) hlocks (fun fs hr => retN X hx (t := .boolean) hret (by simp) hd hr) hk hn hQ
theorem own_retI (X : Stand p l e R s m args below meth c T locs cells slots) (hx : p.tables.exec = Jvm.exec) (hlocks : meth.locks = false) (hret : meth.sig.returnType = some .int) {pc : Nat} {Ls : Array Slot} {z : Int32} {rest : List Value} (hd : decode c.code pc = .ok (.ireturn, 1)) (hk : cells ≤ kc) (hn : slots ≤ kn) (hQ : Q (some (.int z)) T.heap locs) : own_Go p.tables e below s Q kc kn (T.setTop (mkF m pc Ls (.int z :: rest))) :=
  own_end X (v := some (.int z)) (fun q => by rw [hret] at q; cases q) hlocks (fun fs hr => retOut X hx hret rfl (Or.inl ⟨rfl, Or.inl rfl, z, rfl⟩) hd hr) hk hn hQ
theorem own_retJ (X : Stand p l e R s m args below meth c T locs cells slots) (hx : p.tables.exec = Jvm.exec) (hlocks : meth.locks = false) (hret : meth.sig.returnType = some .long) {pc : Nat} {Ls : Array Slot} {z : Int64} {rest : List Value} (hd : decode c.code pc = .ok (.lreturn, 1)) (hk : cells ≤ kc) (hn : slots ≤ kn) (hQ : Q (some (.long z)) T.heap locs) : own_Go p.tables e below s Q kc kn (T.setTop (mkF m pc Ls (.long z :: rest))) :=
  own_end X (v := some (.long z)) (fun q => by rw [hret] at q; cases q) hlocks (fun fs hr => retOut X hx hret rfl (Or.inr (Or.inl ⟨rfl, rfl, z, rfl⟩)) hd hr) hk hn hQ
theorem own_retA (X : Stand p l e R s m args below meth c T locs cells slots) (hx : p.tables.exec = Jvm.exec) (hlocks : meth.locks = false) {t : FieldType} (hret : meth.sig.returnType = some t) (ht : t.isReference = true) {pc : Nat} {Ls : Array Slot} {a : Addr} {rest : List Value} (hd : decode c.code pc = .ok (.areturn, 1)) (hk : cells ≤ kc) (hn : slots ≤ kn) (hQ : Q (some (.ref a)) T.heap locs) : own_Go p.tables e below s Q kc kn (T.setTop (mkF m pc Ls (.ref a :: rest))) :=
  own_end X (v := some (.ref a)) (fun q => by rw [hret] at q; cases q) hlocks (fun fs hr => retOut X hx hret (by cases t <;> first | rfl | cases ht) (Or.inr (Or.inr (Or.inr (Or.inr ⟨rfl, ht, rfl⟩)))) hd hr) hk hn hQ
theorem own_retV (X : Stand p l e R s m args below meth c T locs cells slots) (hx : p.tables.exec = Jvm.exec) (hlocks : meth.locks = false) (hret : meth.sig.returnType = none) {pc : Nat} {Ls : Array Slot} (hd : decode c.code pc = .ok (.return_, 1)) (hk : cells ≤ kc) (hn : slots ≤ kn) (hQ : Q none T.heap locs) : own_Go p.tables e below s Q kc kn (T.setTop (mkF m pc Ls [])) :=
  own_end X (v := none) (fun _ => rfl) hlocks (fun fs hr => X.returnOut hx hret hd hr) hk hn hQ
/-- what a body of this text answers: from these arguments, at this heap -/
abbrev own_Met (l : Launch) (Z : State) (y : MethodName) (bytes : ByteArray) (maxL : Nat) (ret : Option FieldType) (ws : List Jvm.Cond) (rm : Room) (as' : Array Value) (h0 : Heap) (Q : Option Value → Heap → List Loc → Prop) : Prop :=
  MetFree l y (head1 (Jvm.Cond.code y bytes maxL ret :: ws) rm) (fun a U => a = as' ∧ Z.Warmed39 U.vm ∧ U.heap = h0) (fun _ _ _ _ _ => True) (fun _ U o U' => ∃ v L, o = .returned v ∧ Q v U'.heap L ∧ FrameEnd U o U' L rm.cells rm.slots)
theorem own_callS (X : Stand p l e R s m args below meth c T locs cells slots) (hx : p.tables.exec = Jvm.exec) (hZ : Z.Warmed39 s.vm) {own : String} {index : Nat} {y : MethodName} {bytes : ByteArray} {maxL : Nat} {ret : Option FieldType} {rm : Room} {as' : Array Value}
    (hown : s.vm.findClass own = some m.cls) (w1 : (Jvm.Cond.methodLink own index y).before a0 Z = true) (w2 : (Jvm.Cond.static y).before a0 Z = true) (w3 : (Jvm.Cond.initialized y.cls).before a0 Z = true) (w4 : (Jvm.Cond.code y bytes maxL ret).before a0 Z = true)
    (hy : y.cls ≠ "java/lang/invoke/MethodHandle" ∧ y.cls ≠ "java/lang/invoke/VarHandle") (hM : own_Met l Z y bytes maxL ret [] rm as' h Q) {W : Nat} (hf : rm.frames + 1 ≤ R.frames) (hl : W + (maxL + 11) + rm.locals ≤ R.locals) (eT : T.heap = h)
    {g : JFrame} (hg : g.method = m) (hsize : g.locals.size = c.maxLocals) {argsL rest : List Value} (hlen : ∀ sig, parseMethodDescriptor y.desc = some sig → argsL.length = sig.parameters.length) (hstack : g.stack = argsL.reverse ++ rest) (has : argsL.toArray = as')
    (hW : 2 * g.monitorRoom + (rest.map fun v => v.category).sum ≤ W) (hdg : decode c.code g.pc = .ok (.invokestatic index, 3)) (hc : cells + rm.cells ≤ R.cells) (hn : slots + rm.slots ≤ R.slots) :
    ∃ (v : Option Value) (T' : State) (L : List Loc), Stand p l e R s m args below meth c T' (locs ++ L) (cells + rm.cells) (slots + rm.slots) ∧ Q v T'.heap L ∧ ∀ t, Steps p.tables e below (T'.setTop { g with pc := g.pc + 3, stack := v.toList ++ rest }) t → Steps p.tables e below (T.setTop g) t := by
  subst eT
  obtain ⟨v, vm₁, ⟨T', L', k', n'⟩, -, X', ⟨Lc, hQ, l1, y1, z1⟩, st⟩ := Jvm.LawKit.callS X hx (y := y) hown (mvT hZ w1) (mvT hZ w2) (mvT hZ w3) (mvT hZ w4) hy (backOf (W := W) hM hZ w4 w3 hf hl) hg hsize (argsL := argsL) (rest := rest) hlen hstack hW hdg (fun _ _ => ⟨has, rfl, hc, hn⟩)
  dsimp only [Pt.U, Pt.locs, Pt.cells, Pt.slots] at X' l1 y1 z1 st hQ
  subst l1 y1 z1
  exact ⟨v, T', Lc, X', hQ, st⟩
theorem own_callI (X : Stand p l e R s m args below meth c T locs cells slots) (hx : p.tables.exec = Jvm.exec) (hZ : Z.Warmed39 s.vm) {own : String} {index : Nat} {y : MethodName} {bytes : ByteArray} {maxL : Nat} {rm : Room} {as' : Array Value} (hy1 : y.name = "<init>")
    (hown : s.vm.findClass own = some m.cls) (w1 : (Jvm.Cond.methodLink own index y).before a0 Z = true) (w2 : (Jvm.Cond.instanceMethod y).before a0 Z = true) (w3 : (Jvm.Cond.initialized y.cls).before a0 Z = true) (w4 : (Jvm.Cond.code y bytes maxL none).before a0 Z = true)
    (hy : y.cls ≠ "java/lang/invoke/MethodHandle" ∧ y.cls ≠ "java/lang/invoke/VarHandle") (hM : own_Met l Z y bytes maxL none [] rm as' h Q) {W : Nat} (hf : rm.frames + 1 ≤ R.frames) (hl : W + (maxL + 11) + rm.locals ≤ R.locals) (eT : T.heap = h)
    {g : JFrame} (hg : g.method = m) (hsize : g.locals.size = c.maxLocals) {a : Addr} {argsL rest : List Value} (hlen : ∀ sig, parseMethodDescriptor y.desc = some sig → argsL.length = sig.parameters.length) (hstack : g.stack = argsL.reverse ++ .ref a :: rest) (has : (Value.ref a :: argsL).toArray = as')
    (hW : 2 * g.monitorRoom + (rest.map fun v => v.category).sum ≤ W) (hdg : decode c.code g.pc = .ok (.invokespecial index, 3)) (hc : cells + rm.cells ≤ R.cells) (hn : slots + rm.slots ≤ R.slots) :
    ∃ (v : Option Value) (T' : State) (L : List Loc), Stand p l e R s m args below meth c T' (locs ++ L) (cells + rm.cells) (slots + rm.slots) ∧ Q v T'.heap L ∧ ∀ t, Steps p.tables e below (T'.setTop { g with pc := g.pc + 3, stack := v.toList ++ rest }) t → Steps p.tables e below (T.setTop g) t := by
  subst eT
  obtain ⟨v, vm₁, ⟨T', L', k', n'⟩, -, X', ⟨Lc, hQ, l1, y1, z1⟩, st⟩ := X.specialBack hx (y := y) hy1 hown (mvT hZ w1) (mvT hZ w2) (mvT hZ w4) hy (backOf (W := W) hM hZ w4 w3 hf hl) hg hsize (Steps.refl _) (a := a) (argsL := argsL) (rest := rest) hlen hstack hW hdg (fun _ _ => ⟨has, rfl, hc, hn⟩)
  dsimp only [Pt.U, Pt.locs, Pt.cells, Pt.slots] at X' l1 y1 z1 st hQ
  subst l1 y1 z1
  exact ⟨v, T', Lc, X', hQ, fun t k => st.trans k⟩
theorem own_callV (X : Stand p l e R s m args below meth c T locs cells slots) (hx : p.tables.exec = Jvm.exec) (hZ : Z.Warmed39 s.vm) {own : String} {index : Nat} {y : MethodName} {bytes : ByteArray} {maxL : Nat} {ret : Option FieldType} {rm : Room} {as' : Array Value}
    (hown : s.vm.findClass own = some m.cls) (w1 : (Jvm.Cond.methodLink own index y).before a0 Z = true) (w5 : (Jvm.Cond.declares y).before a0 Z = true) (w6 : (Jvm.Cond.selects y.cls y y).before a0 Z = true) (w2 : (Jvm.Cond.instanceMethod y).before a0 Z = true) (w3 : (Jvm.Cond.initialized y.cls).before a0 Z = true) (w4 : (Jvm.Cond.code y bytes maxL ret).before a0 Z = true)
    (hy : y.cls ≠ "java/lang/invoke/MethodHandle" ∧ y.cls ≠ "java/lang/invoke/VarHandle") (hM : own_Met l Z y bytes maxL ret [] rm as' h Q) {W : Nat} (hf : rm.frames + 1 ≤ R.frames) (hl : W + (maxL + 11) + rm.locals ≤ R.locals) (eT : T.heap = h) {a : Addr} (E : Exa Z h a y.cls)
    {g : JFrame} (hg : g.method = m) (hsize : g.locals.size = c.maxLocals) {argsL rest : List Value} (hlen : ∀ sig, parseMethodDescriptor y.desc = some sig → argsL.length = sig.parameters.length) (hstack : g.stack = argsL.reverse ++ .ref a :: rest) (has : (Value.ref a :: argsL).toArray = as')
    (hW : 2 * g.monitorRoom + (rest.map fun v => v.category).sum ≤ W) (hdg : decode c.code g.pc = .ok (.invokevirtual index, 3)) (hc : cells + rm.cells ≤ R.cells) (hn : slots + rm.slots ≤ R.slots) :
    ∃ (v : Option Value) (T' : State) (L : List Loc), Stand p l e R s m args below meth c T' (locs ++ L) (cells + rm.cells) (slots + rm.slots) ∧ Q v T'.heap L ∧ ∀ t, Steps p.tables e below (T'.setTop { g with pc := g.pc + 3, stack := v.toList ++ rest }) t → Steps p.tables e below (T.setTop g) t := by
  subst eT
  obtain ⟨cq, kq, qa, qb, qc⟩ := isOf hZ rfl E
  obtain ⟨v, vm₁, ⟨T', L', k', n'⟩, -, X', ⟨Lc, hQ, l1, y1, z1⟩, st⟩ := X.virtualBack hx (y := y) (z := y) hown (mvT hZ w1) (mvT hZ w5) (notFace_of_selects (args := #[]) (mvT hZ w6)) (mvT hZ w6) (mvT hZ w2) hy (backOf (W := W) hM hZ w4 w3 hf hl) qa qc hg hsize (Steps.refl _) (argsL := argsL) (rest := rest) hlen hstack hW hdg (fun _ _ => ⟨has, rfl, hc, hn⟩)
  dsimp only [Pt.U, Pt.locs, Pt.cells, Pt.slots] at X' l1 y1 z1 st hQ
  subst l1 y1 z1
  exact ⟨v, T', Lc, X', hQ, fun t k => st.trans k⟩
end Own

/-! the plain law -/
theorem own_sr_bv (x : Int64) (k : Int32) (n : Nat) (hk : (k &&& 0x3f).toInt64.toUInt64.toBitVec.toNat % 64 = n) : (own_sr x k).toBitVec = x.toBitVec >>> n := by
  subst hk
  apply BitVec.eq_of_toNat_eq
  simp [own_sr]
theorem own_xor_shift (x : BitVec 64) (k : Nat) (hk : 64 ≤ 3 * k) : (x ^^^ x >>> k) ^^^ (x ^^^ x >>> k) >>> k ^^^ (x ^^^ x >>> k) >>> (2 * k) = x := by
  apply BitVec.eq_of_getLsbD_eq
  intro i hi
  simp only [BitVec.getLsbD_xor, BitVec.getLsbD_ushiftRight]
  have h3 : x.getLsbD (k + (2 * k + i)) = false := BitVec.getLsbD_of_ge x _ (by omega)
  have e1 : k + (k + i) = 2 * k + i := by omega
  rw [h3, e1]
  cases x.getLsbD i <;> cases x.getLsbD (k + i) <;> cases x.getLsbD (2 * k + i) <;> rfl
def own_xs (x : Int64) (k : Int32) : Int64 := x ^^^ own_sr x k
def own_ux (x : Int64) (k k2 : Int32) : Int64 := (own_xs x k) ^^^ own_sr x k2
theorem own_undo (x : Int64) (k k2 : Int32) (n : Nat) (hk : (k &&& 0x3f).toInt64.toUInt64.toBitVec.toNat % 64 = n) (hk2 : (k2 &&& 0x3f).toInt64.toUInt64.toBitVec.toNat % 64 = 2 * n) (hn : 64 ≤ 3 * n) : own_ux (own_xs x k) k k2 = x := by
  apply Int64.toBitVec_inj.mp
  have e : (own_xs x k).toBitVec = x.toBitVec ^^^ x.toBitVec >>> n := by
    show (x ^^^ own_sr x k).toBitVec = _
    rw [Int64.toBitVec_xor, own_sr_bv x k n hk]
  show ((own_xs x k ^^^ own_sr (own_xs x k) k) ^^^ own_sr (own_xs x k) k2).toBitVec = _
  rw [Int64.toBitVec_xor, Int64.toBitVec_xor, own_sr_bv _ k n hk, own_sr_bv _ k2 (2 * n) hk2, e]
  exact own_xor_shift _ n hn
def own_nw (a x : Int64) : Int64 := x * ((2 : Int64) - (a * x))
def own_inv (a : Int64) : Int64 := own_nw a (own_nw a (own_nw a (own_nw a (own_nw a a))))
theorem own_invA : (-4658895280553007687 : Int64) * own_inv (-4658895280553007687 : Int64) = 1 := by decide +kernel
theorem own_invB : (-7723592293110705685 : Int64) * own_inv (-7723592293110705685 : Int64) = 1 := by decide +kernel
def own_mix (x : Int64) : Int64 := own_xs ((own_xs ((own_xs x 30) * (-4658895280553007687 : Int64)) 27) * (-7723592293110705685 : Int64)) 31
def own_unmix (y : Int64) : Int64 := own_ux ((own_ux ((own_ux y 31 62) * own_inv (-7723592293110705685 : Int64)) 27 54) * own_inv (-4658895280553007687 : Int64)) 30 60
theorem own_back (x : Int64) : own_unmix (own_mix x) = x := by
  unfold own_unmix own_mix
  rw [own_undo _ 31 62 31 (by decide) (by decide) (by decide), Int64.mul_assoc, own_invB, Int64.mul_one, own_undo _ 27 54 27 (by decide) (by decide) (by decide), Int64.mul_assoc, own_invA, Int64.mul_one, own_undo _ 30 60 30 (by decide) (by decide) (by decide)]

theorem d1_0 : decode prog_28_method_1_code 0 = .ok (.aload_n 0, 1) := by decide +kernel
theorem d1_1 : decode prog_28_method_1_code 1 = .ok (.invokespecial 1, 3) := by decide +kernel
theorem d1_4 : decode prog_28_method_1_code 4 = .ok (.aload_n 0, 1) := by decide +kernel
theorem d1_5 : decode prog_28_method_1_code 5 = .ok (.lload_n 1, 1) := by decide +kernel
theorem d1_6 : decode prog_28_method_1_code 6 = .ok (.putfield 7, 3) := by decide +kernel
theorem d1_9 : decode prog_28_method_1_code 9 = .ok (.return_, 1) := by decide +kernel
theorem pf_1 : plainFor (⟨"com/example/inferlink/inferlink/SplitMix64", "<init>", "(J)V"⟩ : MethodName) = true := by first | exact plainFor_of_name (by first | (simp [plainName, overriddenIn]; done) | decide +kernel) | decide +kernel
theorem pd_1 : parseMethodDescriptor "(J)V" = some ⟨[.long], none⟩ := by decide +kernel
theorem ef_1 (m : MethodId) (p0 : Addr) (p1 : Int64) : entryFrame m #[(.ref p0), (.long p1)] 3 = mkF m 0 #[.val (.ref p0), .val (.long p1), .second] [] := by first | (simp [entryFrame, mkF, argsToLocals, Value.category]; done) | rfl
def Q1 (Z : State) (p0 : Addr) (p1 : Int64) (h0 : Heap) (n0 : Nat) (v : Option Value) (h : Heap) (L : List Loc) : Prop := v = none ∧ Fr n0 L ∧ Keep h0 h [p0] ∧ Fld Z h p0 "com/example/inferlink/inferlink/SplitMix64" "state" "J" (.long p1)
set_option maxRecDepth 65536 in
set_option maxHeartbeats 40000000 in
theorem rm1 (l : Launch) (Z : State) (a0 : Array Value) (hw : ∀ d ∈ tables_1, d.before a0 Z = true) (ws : List Jvm.Cond) (p0 : Addr) (p1 : Int64) (h0 : Heap) (n0 : Nat) (Z0 : n0 ≤ h0.size) (w : Int64) (Ex0 : Exa Z h0 p0 "com/example/inferlink/inferlink/SplitMix64") (Fs0 : Fld Z h0 p0 "com/example/inferlink/inferlink/SplitMix64" "state" "J" (.long w)) (ge0 : n0 ≤ p0) :
    own_Met l Z (⟨"com/example/inferlink/inferlink/SplitMix64", "<init>", "(J)V"⟩ : MethodName) prog_28_method_1_code 3 none ws ({ frames := 1, cells := 0, slots := 0, locals := 12 } : Room) #[(.ref p0), (.long p1)] h0 (Q1 Z p0 p1 h0 n0) := by
  refine MetFree.of_bodySF pf_1 hisR ?_
  intro p e s m args below meth c s₁ Bd hml0 hP hK
  obtain ⟨rfl, hZ, hh⟩ := hP
  have hx := Bd.exec
  have hby := Bd.bytes
  have hlk : meth.locks = false := BodyLoose.notSynchronized Bd
  have hml : c.maxLocals = 3 := hml0
  have hown : s.vm.findClass "com/example/inferlink/inferlink/SplitMix64" = some m.cls := findClass_of_methodNamed Bd.named
  have hnm := (name_of_methodNamed Bd.named Bd.method).1
  have X0 : Stand p l e ({ frames := 1, cells := 0, slots := 0, locals := 12 } : Room) s m #[(.ref p0), (.long p1)] below meth c s₁ [] 0 0 := Stand.of_body Bd
  have e0 : s₁.heap = h0 := by rw [← hh, Bd.state]; rfl
  have N0 := Fr.nil n0
  have K0 := Keep.refl h0 [p0]
  show own_Go p.tables e below s (Q1 Z p0 p1 h0 n0) ({ frames := 1, cells := 0, slots := 0, locals := 12 } : Room).cells ({ frames := 1, cells := 0, slots := 0, locals := 12 } : Room).slots _
  refine own_by (fun _ k => castTop (ef_1 m p0 p1) k) ?_
  show own_Go p.tables e below s _ _ _ (s₁.setTop (mkF m 0 #[.val (.ref p0), .val (.long p1), .second] []))
  refine own_by (fun _ k => XS.aloadN X0.here hx rfl (hb hby d1_0) rfl rfl k) ?_
  show own_Go p.tables e below s _ _ _ (s₁.setTop (mkF m 1 #[.val (.ref p0), .val (.long p1), .second] [(.ref p0)]))
  obtain ⟨T1, X1, e1, st1⟩ := initO X0 hx hZ hown (hw _ (List.mem_of_getElem? (i := 6) rfl)) (hw _ (List.mem_of_getElem? (i := 7) rfl)) (hw _ (List.mem_of_getElem? (i := 8) rfl)) e0 (g := (mkF m 1 #[.val (.ref p0), .val (.long p1), .second] [(.ref p0)])) rfl (by rw [hml]; rfl) rfl (hb hby d1_1) (by decide) (W := 0) (by show 2 * 0 + _ ≤ _; exact Nat.le_of_eq rfl) (by decide)
  refine own_by st1 ?_
  show own_Go p.tables e below s _ _ _ (T1.setTop (mkF m 4 #[.val (.ref p0), .val (.long p1), .second] []))
  refine own_by (fun _ k => XS.aloadN X1.here hx rfl (hb hby d1_4) rfl rfl k) ?_
  show own_Go p.tables e below s _ _ _ (T1.setTop (mkF m 5 #[.val (.ref p0), .val (.long p1), .second] [(.ref p0)]))
  refine own_by (fun _ k => XS.lloadN X1.here hx rfl (hb hby d1_5) rfl k) ?_
  show own_Go p.tables e below s _ _ _ (T1.setTop (mkF m 6 #[.val (.ref p0), .val (.long p1), .second] [(.long p1), (.ref p0)]))
  obtain ⟨T2, h2, X2, e2, W2, st2⟩ := putF X1 hx hZ hown (host := "") (Or.inl (hw _ (List.mem_of_getElem? (i := 9) rfl))) Via.refl e1 Fs0 Ex0 (Or.inl (hw _ (List.mem_of_getElem? (i := 10) rfl))) (hw _ (List.mem_of_getElem? (i := 1) rfl)) (ty := .long) (by decide) rfl rfl (g := (mkF m 6 #[.val (.ref p0), .val (.long p1), .second] [(.long p1), (.ref p0)])) rfl rfl (hb hby d1_6)
  have N2 := Fr.snoc X2 N0 ge0
  have Z2 : n0 ≤ h2.size := by rw [W2.size]; exact Z0
  have K2 := K0.wr W2 (Or.inl (List.mem_of_getElem? (i := 0) rfl))
  have Ex0_h2 := Ex0.wr W2
  have Fs0_h2 := Fs0.same W2
  refine own_by st2 ?_
  show own_Go p.tables e below s _ _ _ (T2.setTop (mkF m 9 #[.val (.ref p0), .val (.long p1), .second] []))
  exact own_retV X2 hx hlk Bd.returns (hb hby d1_9) (by decide) (by decide) ⟨rfl, N2, by rw [e2]; exact K2, by rw [e2]; exact Fs0_h2⟩
theorem d3_0 : decode prog_28_method_2_code 0 = .ok (.aload_n 0, 1) := by decide +kernel
theorem d3_1 : decode prog_28_method_2_code 1 = .ok (.dup, 1) := by decide +kernel
theorem d3_2 : decode prog_28_method_2_code 2 = .ok (.getfield 7, 3) := by decide +kernel
theorem d3_5 : decode prog_28_method_2_code 5 = .ok (.ldc2_w 13, 3) := by decide +kernel
theorem d3_8 : decode prog_28_method_2_code 8 = .ok (.ladd, 1) := by decide +kernel
theorem d3_9 : decode prog_28_method_2_code 9 = .ok (.putfield 7, 3) := by decide +kernel
theorem d3_12 : decode prog_28_method_2_code 12 = .ok (.aload_n 0, 1) := by decide +kernel
theorem d3_13 : decode prog_28_method_2_code 13 = .ok (.getfield 7, 3) := by decide +kernel
theorem d3_16 : decode prog_28_method_2_code 16 = .ok (.lstore_n 1, 1) := by decide +kernel
theorem d3_17 : decode prog_28_method_2_code 17 = .ok (.lload_n 1, 1) := by decide +kernel
theorem d3_18 : decode prog_28_method_2_code 18 = .ok (.lload_n 1, 1) := by decide +kernel
theorem d3_19 : decode prog_28_method_2_code 19 = .ok (.bipush 30, 2) := by decide +kernel
theorem d3_21 : decode prog_28_method_2_code 21 = .ok (.lushr, 1) := by decide +kernel
theorem d3_22 : decode prog_28_method_2_code 22 = .ok (.lxor, 1) := by decide +kernel
theorem d3_23 : decode prog_28_method_2_code 23 = .ok (.ldc2_w 15, 3) := by decide +kernel
theorem d3_26 : decode prog_28_method_2_code 26 = .ok (.lmul, 1) := by decide +kernel
theorem d3_27 : decode prog_28_method_2_code 27 = .ok (.lstore_n 1, 1) := by decide +kernel
theorem d3_28 : decode prog_28_method_2_code 28 = .ok (.lload_n 1, 1) := by decide +kernel
theorem d3_29 : decode prog_28_method_2_code 29 = .ok (.lload_n 1, 1) := by decide +kernel
theorem d3_30 : decode prog_28_method_2_code 30 = .ok (.bipush 27, 2) := by decide +kernel
theorem d3_32 : decode prog_28_method_2_code 32 = .ok (.lushr, 1) := by decide +kernel
theorem d3_33 : decode prog_28_method_2_code 33 = .ok (.lxor, 1) := by decide +kernel
theorem d3_34 : decode prog_28_method_2_code 34 = .ok (.ldc2_w 17, 3) := by decide +kernel
theorem d3_37 : decode prog_28_method_2_code 37 = .ok (.lmul, 1) := by decide +kernel
theorem d3_38 : decode prog_28_method_2_code 38 = .ok (.lstore_n 1, 1) := by decide +kernel
theorem d3_39 : decode prog_28_method_2_code 39 = .ok (.lload_n 1, 1) := by decide +kernel
theorem d3_40 : decode prog_28_method_2_code 40 = .ok (.lload_n 1, 1) := by decide +kernel
theorem d3_41 : decode prog_28_method_2_code 41 = .ok (.bipush 31, 2) := by decide +kernel
theorem d3_43 : decode prog_28_method_2_code 43 = .ok (.lushr, 1) := by decide +kernel
theorem d3_44 : decode prog_28_method_2_code 44 = .ok (.lxor, 1) := by decide +kernel
theorem d3_45 : decode prog_28_method_2_code 45 = .ok (.lreturn, 1) := by decide +kernel
theorem pf_3 : plainFor (⟨"com/example/inferlink/inferlink/SplitMix64", "nextLong", "()J"⟩ : MethodName) = true := by first | exact plainFor_of_name (by first | (simp [plainName, overriddenIn]; done) | decide +kernel) | decide +kernel
theorem pd_3 : parseMethodDescriptor "()J" = some ⟨[], some .long⟩ := by decide +kernel
theorem ef_3 (m : MethodId) (p0 : Addr) : entryFrame m #[(.ref p0)] 3 = mkF m 0 #[.val (.ref p0), .unset, .unset] [] := by first | (simp [entryFrame, mkF, argsToLocals, Value.category]; done) | rfl
def Q3 (Z : State) (p0 : Addr) (w : Int64) (h0 : Heap) (n0 : Nat) (v : Option Value) (h : Heap) (L : List Loc) : Prop := v = some (.long (own_mix (w + (-7046029254386353131 : Int64)))) ∧ Fr n0 L ∧ Keep h0 h [p0] ∧ Fld Z h p0 "com/example/inferlink/inferlink/SplitMix64" "state" "J" (.long (w + (-7046029254386353131 : Int64)))
set_option maxRecDepth 65536 in
set_option maxHeartbeats 40000000 in
theorem rm3 (l : Launch) (Z : State) (a0 : Array Value) (hw : ∀ d ∈ tables_1, d.before a0 Z = true) (ws : List Jvm.Cond) (p0 : Addr) (h0 : Heap) (n0 : Nat) (Z0 : n0 ≤ h0.size) (w : Int64) (Ex0 : Exa Z h0 p0 "com/example/inferlink/inferlink/SplitMix64") (Fs0 : Fld Z h0 p0 "com/example/inferlink/inferlink/SplitMix64" "state" "J" (.long w)) (ge0 : n0 ≤ p0) :
    own_Met l Z (⟨"com/example/inferlink/inferlink/SplitMix64", "nextLong", "()J"⟩ : MethodName) prog_28_method_2_code 3 (some .long) ws ({ frames := 0, cells := 0, slots := 0, locals := 0 } : Room) #[(.ref p0)] h0 (Q3 Z p0 w h0 n0) := by
  refine MetFree.of_bodySF pf_3 hisR ?_
  intro p e s m args below meth c s₁ Bd hml0 hP hK
  obtain ⟨rfl, hZ, hh⟩ := hP
  have hx := Bd.exec
  have hby := Bd.bytes
  have hlk : meth.locks = false := BodyLoose.notSynchronized Bd
  have hml : c.maxLocals = 3 := hml0
  have hown : s.vm.findClass "com/example/inferlink/inferlink/SplitMix64" = some m.cls := findClass_of_methodNamed Bd.named
  have hnm := (name_of_methodNamed Bd.named Bd.method).1
  have X0 : Stand p l e ({ frames := 0, cells := 0, slots := 0, locals := 0 } : Room) s m #[(.ref p0)] below meth c s₁ [] 0 0 := Stand.of_body Bd
  have e0 : s₁.heap = h0 := by rw [← hh, Bd.state]; rfl
  have N0 := Fr.nil n0
  have K0 := Keep.refl h0 [p0]
  show own_Go p.tables e below s (Q3 Z p0 w h0 n0) ({ frames := 0, cells := 0, slots := 0, locals := 0 } : Room).cells ({ frames := 0, cells := 0, slots := 0, locals := 0 } : Room).slots _
  refine own_by (fun _ k => castTop (ef_3 m p0) k) ?_
  show own_Go p.tables e below s _ _ _ (s₁.setTop (mkF m 0 #[.val (.ref p0), .unset, .unset] []))
  refine own_by (fun _ k => XS.aloadN X0.here hx rfl (hb hby d3_0) rfl rfl k) ?_
  show own_Go p.tables e below s _ _ _ (s₁.setTop (mkF m 1 #[.val (.ref p0), .unset, .unset] [(.ref p0)]))
  refine own_by (fun _ k => XS.dup X0.here hx rfl (hb hby d3_1) rfl rfl k) ?_
  show own_Go p.tables e below s _ _ _ (s₁.setTop (mkF m 2 #[.val (.ref p0), .unset, .unset] [(.ref p0), (.ref p0)]))
  obtain ⟨T1, X1, e1, st1⟩ := getF X0 hx hZ hown (host := "") (Or.inl (hw _ (List.mem_of_getElem? (i := 9) rfl))) Via.refl e0 Fs0 (g := (mkF m 2 #[.val (.ref p0), .unset, .unset] [(.ref p0), (.ref p0)])) rfl rfl (hb hby d3_2)
  refine own_by st1 ?_
  show own_Go p.tables e below s _ _ _ (T1.setTop (mkF m 5 #[.val (.ref p0), .unset, .unset] [(.long w), (.ref p0)]))
  refine own_by (fun _ k => X1.ldc2Long hx hown (mvT hZ (hw _ (List.mem_of_getElem? (i := 16) rfl))) (g := (mkF m 5 #[.val (.ref p0), .unset, .unset] [(.long w), (.ref p0)])) rfl (hb hby d3_5) _ k) ?_
  show own_Go p.tables e below s _ _ _ (T1.setTop (mkF m 8 #[.val (.ref p0), .unset, .unset] [(.long (-7046029254386353131 : Int64)), (.long w), (.ref p0)]))
  refine own_by (fun _ k => XS.ladd X1.here hx rfl (hb hby d3_8) rfl k) ?_
  show own_Go p.tables e below s _ _ _ (T1.setTop (mkF m 9 #[.val (.ref p0), .unset, .unset] [(.long (w + (-7046029254386353131 : Int64))), (.ref p0)]))
  obtain ⟨T2, h2, X2, e2, W2, st2⟩ := putF X1 hx hZ hown (host := "") (Or.inl (hw _ (List.mem_of_getElem? (i := 9) rfl))) Via.refl e1 Fs0 Ex0 (Or.inl (hw _ (List.mem_of_getElem? (i := 10) rfl))) (hw _ (List.mem_of_getElem? (i := 1) rfl)) (ty := .long) (by decide) rfl rfl (g := (mkF m 9 #[.val (.ref p0), .unset, .unset] [(.long (w + (-7046029254386353131 : Int64))), (.ref p0)])) rfl rfl (hb hby d3_9)
  have N2 := Fr.snoc X2 N0 ge0
  have Z2 : n0 ≤ h2.size := by rw [W2.size]; exact Z0
  have K2 := K0.wr W2 (Or.inl (List.mem_of_getElem? (i := 0) rfl))
  have Ex0_h2 := Ex0.wr W2
  have Fs0_h2 := Fs0.same W2
  refine own_by st2 ?_
  show own_Go p.tables e below s _ _ _ (T2.setTop (mkF m 12 #[.val (.ref p0), .unset, .unset] []))
  refine own_by (fun _ k => XS.aloadN X2.here hx rfl (hb hby d3_12) rfl rfl k) ?_
  show own_Go p.tables e below s _ _ _ (T2.setTop (mkF m 13 #[.val (.ref p0), .unset, .unset] [(.ref p0)]))
  obtain ⟨T3, X3, e3, st3⟩ := getF X2 hx hZ hown (host := "") (Or.inl (hw _ (List.mem_of_getElem? (i := 9) rfl))) Via.refl e2 Fs0_h2 (g := (mkF m 13 #[.val (.ref p0), .unset, .unset] [(.ref p0)])) rfl rfl (hb hby d3_13)
  refine own_by st3 ?_
  show own_Go p.tables e below s _ _ _ (T3.setTop (mkF m 16 #[.val (.ref p0), .unset, .unset] [(.long (w + (-7046029254386353131 : Int64)))]))
  refine own_by (fun _ k => XS.lstoreN X3.here hx rfl (hb hby d3_16) rfl (l' := #[.val (.ref p0), .val (.long (w + (-7046029254386353131 : Int64))), .second]) rfl k) ?_
  show own_Go p.tables e below s _ _ _ (T3.setTop (mkF m 17 #[.val (.ref p0), .val (.long (w + (-7046029254386353131 : Int64))), .second] []))
  refine own_by (fun _ k => XS.lloadN X3.here hx rfl (hb hby d3_17) rfl k) ?_
  show own_Go p.tables e below s _ _ _ (T3.setTop (mkF m 18 #[.val (.ref p0), .val (.long (w + (-7046029254386353131 : Int64))), .second] [(.long (w + (-7046029254386353131 : Int64)))]))
  refine own_by (fun _ k => XS.lloadN X3.here hx rfl (hb hby d3_18) rfl k) ?_
  show own_Go p.tables e below s _ _ _ (T3.setTop (mkF m 19 #[.val (.ref p0), .val (.long (w + (-7046029254386353131 : Int64))), .second] [(.long (w + (-7046029254386353131 : Int64))), (.long (w + (-7046029254386353131 : Int64)))]))
  refine own_by (fun _ k => XS.bipush X3.here hx rfl (hb hby d3_19) k) ?_
  show own_Go p.tables e below s _ _ _ (T3.setTop (mkF m 21 #[.val (.ref p0), .val (.long (w + (-7046029254386353131 : Int64))), .second] [(.int (30 : Int32)), (.long (w + (-7046029254386353131 : Int64))), (.long (w + (-7046029254386353131 : Int64)))]))
  refine own_by (fun _ k => XS.lushr X3.here hx rfl (hb hby d3_21) rfl k) ?_
  show own_Go p.tables e below s _ _ _ (T3.setTop (mkF m 22 #[.val (.ref p0), .val (.long (w + (-7046029254386353131 : Int64))), .second] [(.long (own_sr (w + (-7046029254386353131 : Int64)) (30 : Int32))), (.long (w + (-7046029254386353131 : Int64)))]))
  refine own_by (fun _ k => XS.lxor X3.here hx rfl (hb hby d3_22) rfl k) ?_
  show own_Go p.tables e below s _ _ _ (T3.setTop (mkF m 23 #[.val (.ref p0), .val (.long (w + (-7046029254386353131 : Int64))), .second] [(.long (own_xs (w + (-7046029254386353131 : Int64)) (30 : Int32)))]))
  refine own_by (fun _ k => X3.ldc2Long hx hown (mvT hZ (hw _ (List.mem_of_getElem? (i := 17) rfl))) (g := (mkF m 23 #[.val (.ref p0), .val (.long (w + (-7046029254386353131 : Int64))), .second] [(.long (own_xs (w + (-7046029254386353131 : Int64)) (30 : Int32)))])) rfl (hb hby d3_23) _ k) ?_
  show own_Go p.tables e below s _ _ _ (T3.setTop (mkF m 26 #[.val (.ref p0), .val (.long (w + (-7046029254386353131 : Int64))), .second] [(.long (-4658895280553007687 : Int64)), (.long (own_xs (w + (-7046029254386353131 : Int64)) (30 : Int32)))]))
  refine own_by (fun _ k => XS.lmul X3.here hx rfl (hb hby d3_26) rfl k) ?_
  show own_Go p.tables e below s _ _ _ (T3.setTop (mkF m 27 #[.val (.ref p0), .val (.long (w + (-7046029254386353131 : Int64))), .second] [(.long ((own_xs (w + (-7046029254386353131 : Int64)) (30 : Int32)) * (-4658895280553007687 : Int64)))]))
  refine own_by (fun _ k => XS.lstoreN X3.here hx rfl (hb hby d3_27) rfl (l' := #[.val (.ref p0), .val (.long ((own_xs (w + (-7046029254386353131 : Int64)) (30 : Int32)) * (-4658895280553007687 : Int64))), .second]) rfl k) ?_
  show own_Go p.tables e below s _ _ _ (T3.setTop (mkF m 28 #[.val (.ref p0), .val (.long ((own_xs (w + (-7046029254386353131 : Int64)) (30 : Int32)) * (-4658895280553007687 : Int64))), .second] []))
  refine own_by (fun _ k => XS.lloadN X3.here hx rfl (hb hby d3_28) rfl k) ?_
  show own_Go p.tables e below s _ _ _ (T3.setTop (mkF m 29 #[.val (.ref p0), .val (.long ((own_xs (w + (-7046029254386353131 : Int64)) (30 : Int32)) * (-4658895280553007687 : Int64))), .second] [(.long ((own_xs (w + (-7046029254386353131 : Int64)) (30 : Int32)) * (-4658895280553007687 : Int64)))]))
  refine own_by (fun _ k => XS.lloadN X3.here hx rfl (hb hby d3_29) rfl k) ?_
  show own_Go p.tables e below s _ _ _ (T3.setTop (mkF m 30 #[.val (.ref p0), .val (.long ((own_xs (w + (-7046029254386353131 : Int64)) (30 : Int32)) * (-4658895280553007687 : Int64))), .second] [(.long ((own_xs (w + (-7046029254386353131 : Int64)) (30 : Int32)) * (-4658895280553007687 : Int64))), (.long ((own_xs (w + (-7046029254386353131 : Int64)) (30 : Int32)) * (-4658895280553007687 : Int64)))]))
  refine own_by (fun _ k => XS.bipush X3.here hx rfl (hb hby d3_30) k) ?_
  show own_Go p.tables e below s _ _ _ (T3.setTop (mkF m 32 #[.val (.ref p0), .val (.long ((own_xs (w + (-7046029254386353131 : Int64)) (30 : Int32)) * (-4658895280553007687 : Int64))), .second] [(.int (27 : Int32)), (.long ((own_xs (w + (-7046029254386353131 : Int64)) (30 : Int32)) * (-4658895280553007687 : Int64))), (.long ((own_xs (w + (-7046029254386353131 : Int64)) (30 : Int32)) * (-4658895280553007687 : Int64)))]))
  refine own_by (fun _ k => XS.lushr X3.here hx rfl (hb hby d3_32) rfl k) ?_
  show own_Go p.tables e below s _ _ _ (T3.setTop (mkF m 33 #[.val (.ref p0), .val (.long ((own_xs (w + (-7046029254386353131 : Int64)) (30 : Int32)) * (-4658895280553007687 : Int64))), .second] [(.long (own_sr ((own_xs (w + (-7046029254386353131 : Int64)) (30 : Int32)) * (-4658895280553007687 : Int64)) (27 : Int32))), (.long ((own_xs (w + (-7046029254386353131 : Int64)) (30 : Int32)) * (-4658895280553007687 : Int64)))]))
  refine own_by (fun _ k => XS.lxor X3.here hx rfl (hb hby d3_33) rfl k) ?_
  show own_Go p.tables e below s _ _ _ (T3.setTop (mkF m 34 #[.val (.ref p0), .val (.long ((own_xs (w + (-7046029254386353131 : Int64)) (30 : Int32)) * (-4658895280553007687 : Int64))), .second] [(.long (own_xs ((own_xs (w + (-7046029254386353131 : Int64)) (30 : Int32)) * (-4658895280553007687 : Int64)) (27 : Int32)))]))
  refine own_by (fun _ k => X3.ldc2Long hx hown (mvT hZ (hw _ (List.mem_of_getElem? (i := 18) rfl))) (g := (mkF m 34 #[.val (.ref p0), .val (.long ((own_xs (w + (-7046029254386353131 : Int64)) (30 : Int32)) * (-4658895280553007687 : Int64))), .second] [(.long (own_xs ((own_xs (w + (-7046029254386353131 : Int64)) (30 : Int32)) * (-4658895280553007687 : Int64)) (27 : Int32)))])) rfl (hb hby d3_34) _ k) ?_
  show own_Go p.tables e below s _ _ _ (T3.setTop (mkF m 37 #[.val (.ref p0), .val (.long ((own_xs (w + (-7046029254386353131 : Int64)) (30 : Int32)) * (-4658895280553007687 : Int64))), .second] [(.long (-7723592293110705685 : Int64)), (.long (own_xs ((own_xs (w + (-7046029254386353131 : Int64)) (30 : Int32)) * (-4658895280553007687 : Int64)) (27 : Int32)))]))
  refine own_by (fun _ k => XS.lmul X3.here hx rfl (hb hby d3_37) rfl k) ?_
  show own_Go p.tables e below s _ _ _ (T3.setTop (mkF m 38 #[.val (.ref p0), .val (.long ((own_xs (w + (-7046029254386353131 : Int64)) (30 : Int32)) * (-4658895280553007687 : Int64))), .second] [(.long ((own_xs ((own_xs (w + (-7046029254386353131 : Int64)) (30 : Int32)) * (-4658895280553007687 : Int64)) (27 : Int32)) * (-7723592293110705685 : Int64)))]))
  refine own_by (fun _ k => XS.lstoreN X3.here hx rfl (hb hby d3_38) rfl (l' := #[.val (.ref p0), .val (.long ((own_xs ((own_xs (w + (-7046029254386353131 : Int64)) (30 : Int32)) * (-4658895280553007687 : Int64)) (27 : Int32)) * (-7723592293110705685 : Int64))), .second]) rfl k) ?_
  show own_Go p.tables e below s _ _ _ (T3.setTop (mkF m 39 #[.val (.ref p0), .val (.long ((own_xs ((own_xs (w + (-7046029254386353131 : Int64)) (30 : Int32)) * (-4658895280553007687 : Int64)) (27 : Int32)) * (-7723592293110705685 : Int64))), .second] []))
  refine own_by (fun _ k => XS.lloadN X3.here hx rfl (hb hby d3_39) rfl k) ?_
  show own_Go p.tables e below s _ _ _ (T3.setTop (mkF m 40 #[.val (.ref p0), .val (.long ((own_xs ((own_xs (w + (-7046029254386353131 : Int64)) (30 : Int32)) * (-4658895280553007687 : Int64)) (27 : Int32)) * (-7723592293110705685 : Int64))), .second] [(.long ((own_xs ((own_xs (w + (-7046029254386353131 : Int64)) (30 : Int32)) * (-4658895280553007687 : Int64)) (27 : Int32)) * (-7723592293110705685 : Int64)))]))
  refine own_by (fun _ k => XS.lloadN X3.here hx rfl (hb hby d3_40) rfl k) ?_
  show own_Go p.tables e below s _ _ _ (T3.setTop (mkF m 41 #[.val (.ref p0), .val (.long ((own_xs ((own_xs (w + (-7046029254386353131 : Int64)) (30 : Int32)) * (-4658895280553007687 : Int64)) (27 : Int32)) * (-7723592293110705685 : Int64))), .second] [(.long ((own_xs ((own_xs (w + (-7046029254386353131 : Int64)) (30 : Int32)) * (-4658895280553007687 : Int64)) (27 : Int32)) * (-7723592293110705685 : Int64))), (.long ((own_xs ((own_xs (w + (-7046029254386353131 : Int64)) (30 : Int32)) * (-4658895280553007687 : Int64)) (27 : Int32)) * (-7723592293110705685 : Int64)))]))
  refine own_by (fun _ k => XS.bipush X3.here hx rfl (hb hby d3_41) k) ?_
  show own_Go p.tables e below s _ _ _ (T3.setTop (mkF m 43 #[.val (.ref p0), .val (.long ((own_xs ((own_xs (w + (-7046029254386353131 : Int64)) (30 : Int32)) * (-4658895280553007687 : Int64)) (27 : Int32)) * (-7723592293110705685 : Int64))), .second] [(.int (31 : Int32)), (.long ((own_xs ((own_xs (w + (-7046029254386353131 : Int64)) (30 : Int32)) * (-4658895280553007687 : Int64)) (27 : Int32)) * (-7723592293110705685 : Int64))), (.long ((own_xs ((own_xs (w + (-7046029254386353131 : Int64)) (30 : Int32)) * (-4658895280553007687 : Int64)) (27 : Int32)) * (-7723592293110705685 : Int64)))]))
  refine own_by (fun _ k => XS.lushr X3.here hx rfl (hb hby d3_43) rfl k) ?_
  show own_Go p.tables e below s _ _ _ (T3.setTop (mkF m 44 #[.val (.ref p0), .val (.long ((own_xs ((own_xs (w + (-7046029254386353131 : Int64)) (30 : Int32)) * (-4658895280553007687 : Int64)) (27 : Int32)) * (-7723592293110705685 : Int64))), .second] [(.long (own_sr ((own_xs ((own_xs (w + (-7046029254386353131 : Int64)) (30 : Int32)) * (-4658895280553007687 : Int64)) (27 : Int32)) * (-7723592293110705685 : Int64)) (31 : Int32))), (.long ((own_xs ((own_xs (w + (-7046029254386353131 : Int64)) (30 : Int32)) * (-4658895280553007687 : Int64)) (27 : Int32)) * (-7723592293110705685 : Int64)))]))
  refine own_by (fun _ k => XS.lxor X3.here hx rfl (hb hby d3_44) rfl k) ?_
  show own_Go p.tables e below s _ _ _ (T3.setTop (mkF m 45 #[.val (.ref p0), .val (.long ((own_xs ((own_xs (w + (-7046029254386353131 : Int64)) (30 : Int32)) * (-4658895280553007687 : Int64)) (27 : Int32)) * (-7723592293110705685 : Int64))), .second] [(.long (own_xs ((own_xs ((own_xs (w + (-7046029254386353131 : Int64)) (30 : Int32)) * (-4658895280553007687 : Int64)) (27 : Int32)) * (-7723592293110705685 : Int64)) (31 : Int32)))]))
  exact own_retJ X3 hx hlk Bd.returns (hb hby d3_45) (by decide) (by decide) ⟨rfl, N2, by rw [e3]; exact K2, by rw [e3]; exact Fs0_h2⟩
theorem d5_0 : decode method_2_code 0 = .ok (.lload_n 0, 1) := by decide +kernel
theorem d5_1 : decode method_2_code 1 = .ok (.lstore_n 2, 1) := by decide +kernel
theorem d5_2 : decode method_2_code 2 = .ok (.lload_n 2, 1) := by decide +kernel
theorem d5_3 : decode method_2_code 3 = .ok (.ldc2_w 7, 3) := by decide +kernel
theorem d5_6 : decode method_2_code 6 = .ok (.lload_n 0, 1) := by decide +kernel
theorem d5_7 : decode method_2_code 7 = .ok (.lload_n 2, 1) := by decide +kernel
theorem d5_8 : decode method_2_code 8 = .ok (.lmul, 1) := by decide +kernel
theorem d5_9 : decode method_2_code 9 = .ok (.lsub, 1) := by decide +kernel
theorem d5_10 : decode method_2_code 10 = .ok (.lmul, 1) := by decide +kernel
theorem d5_11 : decode method_2_code 11 = .ok (.lstore_n 2, 1) := by decide +kernel
theorem d5_12 : decode method_2_code 12 = .ok (.lload_n 2, 1) := by decide +kernel
theorem d5_13 : decode method_2_code 13 = .ok (.ldc2_w 7, 3) := by decide +kernel
theorem d5_16 : decode method_2_code 16 = .ok (.lload_n 0, 1) := by decide +kernel
theorem d5_17 : decode method_2_code 17 = .ok (.lload_n 2, 1) := by decide +kernel
theorem d5_18 : decode method_2_code 18 = .ok (.lmul, 1) := by decide +kernel
theorem d5_19 : decode method_2_code 19 = .ok (.lsub, 1) := by decide +kernel
theorem d5_20 : decode method_2_code 20 = .ok (.lmul, 1) := by decide +kernel
theorem d5_21 : decode method_2_code 21 = .ok (.lstore_n 2, 1) := by decide +kernel
theorem d5_22 : decode method_2_code 22 = .ok (.lload_n 2, 1) := by decide +kernel
theorem d5_23 : decode method_2_code 23 = .ok (.ldc2_w 7, 3) := by decide +kernel
theorem d5_26 : decode method_2_code 26 = .ok (.lload_n 0, 1) := by decide +kernel
theorem d5_27 : decode method_2_code 27 = .ok (.lload_n 2, 1) := by decide +kernel
theorem d5_28 : decode method_2_code 28 = .ok (.lmul, 1) := by decide +kernel
theorem d5_29 : decode method_2_code 29 = .ok (.lsub, 1) := by decide +kernel
theorem d5_30 : decode method_2_code 30 = .ok (.lmul, 1) := by decide +kernel
theorem d5_31 : decode method_2_code 31 = .ok (.lstore_n 2, 1) := by decide +kernel
theorem d5_32 : decode method_2_code 32 = .ok (.lload_n 2, 1) := by decide +kernel
theorem d5_33 : decode method_2_code 33 = .ok (.ldc2_w 7, 3) := by decide +kernel
theorem d5_36 : decode method_2_code 36 = .ok (.lload_n 0, 1) := by decide +kernel
theorem d5_37 : decode method_2_code 37 = .ok (.lload_n 2, 1) := by decide +kernel
theorem d5_38 : decode method_2_code 38 = .ok (.lmul, 1) := by decide +kernel
theorem d5_39 : decode method_2_code 39 = .ok (.lsub, 1) := by decide +kernel
theorem d5_40 : decode method_2_code 40 = .ok (.lmul, 1) := by decide +kernel
theorem d5_41 : decode method_2_code 41 = .ok (.lstore_n 2, 1) := by decide +kernel
theorem d5_42 : decode method_2_code 42 = .ok (.lload_n 2, 1) := by decide +kernel
theorem d5_43 : decode method_2_code 43 = .ok (.ldc2_w 7, 3) := by decide +kernel
theorem d5_46 : decode method_2_code 46 = .ok (.lload_n 0, 1) := by decide +kernel
theorem d5_47 : decode method_2_code 47 = .ok (.lload_n 2, 1) := by decide +kernel
theorem d5_48 : decode method_2_code 48 = .ok (.lmul, 1) := by decide +kernel
theorem d5_49 : decode method_2_code 49 = .ok (.lsub, 1) := by decide +kernel
theorem d5_50 : decode method_2_code 50 = .ok (.lmul, 1) := by decide +kernel
theorem d5_51 : decode method_2_code 51 = .ok (.lstore_n 2, 1) := by decide +kernel
theorem d5_52 : decode method_2_code 52 = .ok (.lload_n 2, 1) := by decide +kernel
theorem d5_53 : decode method_2_code 53 = .ok (.lreturn, 1) := by decide +kernel
theorem pf_5 : plainFor (⟨"com/example/inferlink/inferlink/SplitMix64NextLongPinLaw", "inverse", "(J)J"⟩ : MethodName) = true := by first | exact plainFor_of_name (by first | (simp [plainName, overriddenIn]; done) | decide +kernel) | decide +kernel
theorem pd_5 : parseMethodDescriptor "(J)J" = some ⟨[.long], some .long⟩ := by decide +kernel
theorem ef_5 (m : MethodId) (p1 : Int64) : entryFrame m #[(.long p1)] 4 = mkF m 0 #[.val (.long p1), .second, .unset, .unset] [] := by first | (simp [entryFrame, mkF, argsToLocals, Value.category]; done) | rfl
def Q5 (p1 : Int64) (h0 : Heap) (n0 : Nat) (v : Option Value) (h : Heap) (L : List Loc) : Prop := v = some (.long (own_inv p1)) ∧ Fr n0 L ∧ h = h0
set_option maxRecDepth 65536 in
set_option maxHeartbeats 40000000 in
theorem rm5 (l : Launch) (Z : State) (a0 : Array Value) (hw : ∀ d ∈ tables_1, d.before a0 Z = true) (ws : List Jvm.Cond) (p1 : Int64) (h0 : Heap) (n0 : Nat) (Z0 : n0 ≤ h0.size)  :
    own_Met l Z (⟨"com/example/inferlink/inferlink/SplitMix64NextLongPinLaw", "inverse", "(J)J"⟩ : MethodName) method_2_code 4 (some .long) ws ({ frames := 0, cells := 0, slots := 0, locals := 0 } : Room) #[(.long p1)] h0 (Q5 p1 h0 n0) := by
  refine MetFree.of_bodySF pf_5 hisR ?_
  intro p e s m args below meth c s₁ Bd hml0 hP hK
  obtain ⟨rfl, hZ, hh⟩ := hP
  have hx := Bd.exec
  have hby := Bd.bytes
  have hlk : meth.locks = false := BodyLoose.notSynchronized Bd
  have hml : c.maxLocals = 4 := hml0
  have hown : s.vm.findClass "com/example/inferlink/inferlink/SplitMix64NextLongPinLaw" = some m.cls := findClass_of_methodNamed Bd.named
  have hnm := (name_of_methodNamed Bd.named Bd.method).1
  have X0 : Stand p l e ({ frames := 0, cells := 0, slots := 0, locals := 0 } : Room) s m #[(.long p1)] below meth c s₁ [] 0 0 := Stand.of_body Bd
  have e0 : s₁.heap = h0 := by rw [← hh, Bd.state]; rfl
  have N0 := Fr.nil n0
  show own_Go p.tables e below s (Q5 p1 h0 n0) ({ frames := 0, cells := 0, slots := 0, locals := 0 } : Room).cells ({ frames := 0, cells := 0, slots := 0, locals := 0 } : Room).slots _
  refine own_by (fun _ k => castTop (ef_5 m p1) k) ?_
  show own_Go p.tables e below s _ _ _ (s₁.setTop (mkF m 0 #[.val (.long p1), .second, .unset, .unset] []))
  refine own_by (fun _ k => XS.lloadN X0.here hx rfl (hb hby d5_0) rfl k) ?_
  show own_Go p.tables e below s _ _ _ (s₁.setTop (mkF m 1 #[.val (.long p1), .second, .unset, .unset] [(.long p1)]))
  refine own_by (fun _ k => XS.lstoreN X0.here hx rfl (hb hby d5_1) rfl (l' := #[.val (.long p1), .second, .val (.long p1), .second]) rfl k) ?_
  show own_Go p.tables e below s _ _ _ (s₁.setTop (mkF m 2 #[.val (.long p1), .second, .val (.long p1), .second] []))
  refine own_by (fun _ k => XS.lloadN X0.here hx rfl (hb hby d5_2) rfl k) ?_
  show own_Go p.tables e below s _ _ _ (s₁.setTop (mkF m 3 #[.val (.long p1), .second, .val (.long p1), .second] [(.long p1)]))
  refine own_by (fun _ k => X0.ldc2Long hx hown (mvT hZ (hw _ (List.mem_of_getElem? (i := 27) rfl))) (g := (mkF m 3 #[.val (.long p1), .second, .val (.long p1), .second] [(.long p1)])) rfl (hb hby d5_3) _ k) ?_
  show own_Go p.tables e below s _ _ _ (s₁.setTop (mkF m 6 #[.val (.long p1), .second, .val (.long p1), .second] [(.long (2 : Int64)), (.long p1)]))
  refine own_by (fun _ k => XS.lloadN X0.here hx rfl (hb hby d5_6) rfl k) ?_
  show own_Go p.tables e below s _ _ _ (s₁.setTop (mkF m 7 #[.val (.long p1), .second, .val (.long p1), .second] [(.long p1), (.long (2 : Int64)), (.long p1)]))
  refine own_by (fun _ k => XS.lloadN X0.here hx rfl (hb hby d5_7) rfl k) ?_
  show own_Go p.tables e below s _ _ _ (s₁.setTop (mkF m 8 #[.val (.long p1), .second, .val (.long p1), .second] [(.long p1), (.long p1), (.long (2 : Int64)), (.long p1)]))
  refine own_by (fun _ k => XS.lmul X0.here hx rfl (hb hby d5_8) rfl k) ?_
  show own_Go p.tables e below s _ _ _ (s₁.setTop (mkF m 9 #[.val (.long p1), .second, .val (.long p1), .second] [(.long (p1 * p1)), (.long (2 : Int64)), (.long p1)]))
  refine own_by (fun _ k => XS.lsub X0.here hx rfl (hb hby d5_9) rfl k) ?_
  show own_Go p.tables e below s _ _ _ (s₁.setTop (mkF m 10 #[.val (.long p1), .second, .val (.long p1), .second] [(.long ((2 : Int64) - (p1 * p1))), (.long p1)]))
  refine own_by (fun _ k => XS.lmul X0.here hx rfl (hb hby d5_10) rfl k) ?_
  show own_Go p.tables e below s _ _ _ (s₁.setTop (mkF m 11 #[.val (.long p1), .second, .val (.long p1), .second] [(.long (own_nw p1 p1))]))
  refine own_by (fun _ k => XS.lstoreN X0.here hx rfl (hb hby d5_11) rfl (l' := #[.val (.long p1), .second, .val (.long (own_nw p1 p1)), .second]) rfl k) ?_
  show own_Go p.tables e below s _ _ _ (s₁.setTop (mkF m 12 #[.val (.long p1), .second, .val (.long (own_nw p1 p1)), .second] []))
  refine own_by (fun _ k => XS.lloadN X0.here hx rfl (hb hby d5_12) rfl k) ?_
  show own_Go p.tables e below s _ _ _ (s₁.setTop (mkF m 13 #[.val (.long p1), .second, .val (.long (own_nw p1 p1)), .second] [(.long (own_nw p1 p1))]))
  refine own_by (fun _ k => X0.ldc2Long hx hown (mvT hZ (hw _ (List.mem_of_getElem? (i := 27) rfl))) (g := (mkF m 13 #[.val (.long p1), .second, .val (.long (own_nw p1 p1)), .second] [(.long (own_nw p1 p1))])) rfl (hb hby d5_13) _ k) ?_
  show own_Go p.tables e below s _ _ _ (s₁.setTop (mkF m 16 #[.val (.long p1), .second, .val (.long (own_nw p1 p1)), .second] [(.long (2 : Int64)), (.long (own_nw p1 p1))]))
  refine own_by (fun _ k => XS.lloadN X0.here hx rfl (hb hby d5_16) rfl k) ?_
  show own_Go p.tables e below s _ _ _ (s₁.setTop (mkF m 17 #[.val (.long p1), .second, .val (.long (own_nw p1 p1)), .second] [(.long p1), (.long (2 : Int64)), (.long (own_nw p1 p1))]))
  refine own_by (fun _ k => XS.lloadN X0.here hx rfl (hb hby d5_17) rfl k) ?_
  show own_Go p.tables e below s _ _ _ (s₁.setTop (mkF m 18 #[.val (.long p1), .second, .val (.long (own_nw p1 p1)), .second] [(.long (own_nw p1 p1)), (.long p1), (.long (2 : Int64)), (.long (own_nw p1 p1))]))
  refine own_by (fun _ k => XS.lmul X0.here hx rfl (hb hby d5_18) rfl k) ?_
  show own_Go p.tables e below s _ _ _ (s₁.setTop (mkF m 19 #[.val (.long p1), .second, .val (.long (own_nw p1 p1)), .second] [(.long (p1 * (own_nw p1 p1))), (.long (2 : Int64)), (.long (own_nw p1 p1))]))
  refine own_by (fun _ k => XS.lsub X0.here hx rfl (hb hby d5_19) rfl k) ?_
  show own_Go p.tables e below s _ _ _ (s₁.setTop (mkF m 20 #[.val (.long p1), .second, .val (.long (own_nw p1 p1)), .second] [(.long ((2 : Int64) - (p1 * (own_nw p1 p1)))), (.long (own_nw p1 p1))]))
  refine own_by (fun _ k => XS.lmul X0.here hx rfl (hb hby d5_20) rfl k) ?_
  show own_Go p.tables e below s _ _ _ (s₁.setTop (mkF m 21 #[.val (.long p1), .second, .val (.long (own_nw p1 p1)), .second] [(.long (own_nw p1 (own_nw p1 p1)))]))
  refine own_by (fun _ k => XS.lstoreN X0.here hx rfl (hb hby d5_21) rfl (l' := #[.val (.long p1), .second, .val (.long (own_nw p1 (own_nw p1 p1))), .second]) rfl k) ?_
  show own_Go p.tables e below s _ _ _ (s₁.setTop (mkF m 22 #[.val (.long p1), .second, .val (.long (own_nw p1 (own_nw p1 p1))), .second] []))
  refine own_by (fun _ k => XS.lloadN X0.here hx rfl (hb hby d5_22) rfl k) ?_
  show own_Go p.tables e below s _ _ _ (s₁.setTop (mkF m 23 #[.val (.long p1), .second, .val (.long (own_nw p1 (own_nw p1 p1))), .second] [(.long (own_nw p1 (own_nw p1 p1)))]))
  refine own_by (fun _ k => X0.ldc2Long hx hown (mvT hZ (hw _ (List.mem_of_getElem? (i := 27) rfl))) (g := (mkF m 23 #[.val (.long p1), .second, .val (.long (own_nw p1 (own_nw p1 p1))), .second] [(.long (own_nw p1 (own_nw p1 p1)))])) rfl (hb hby d5_23) _ k) ?_
  show own_Go p.tables e below s _ _ _ (s₁.setTop (mkF m 26 #[.val (.long p1), .second, .val (.long (own_nw p1 (own_nw p1 p1))), .second] [(.long (2 : Int64)), (.long (own_nw p1 (own_nw p1 p1)))]))
  refine own_by (fun _ k => XS.lloadN X0.here hx rfl (hb hby d5_26) rfl k) ?_
  show own_Go p.tables e below s _ _ _ (s₁.setTop (mkF m 27 #[.val (.long p1), .second, .val (.long (own_nw p1 (own_nw p1 p1))), .second] [(.long p1), (.long (2 : Int64)), (.long (own_nw p1 (own_nw p1 p1)))]))
  refine own_by (fun _ k => XS.lloadN X0.here hx rfl (hb hby d5_27) rfl k) ?_
  show own_Go p.tables e below s _ _ _ (s₁.setTop (mkF m 28 #[.val (.long p1), .second, .val (.long (own_nw p1 (own_nw p1 p1))), .second] [(.long (own_nw p1 (own_nw p1 p1))), (.long p1), (.long (2 : Int64)), (.long (own_nw p1 (own_nw p1 p1)))]))
  refine own_by (fun _ k => XS.lmul X0.here hx rfl (hb hby d5_28) rfl k) ?_
  show own_Go p.tables e below s _ _ _ (s₁.setTop (mkF m 29 #[.val (.long p1), .second, .val (.long (own_nw p1 (own_nw p1 p1))), .second] [(.long (p1 * (own_nw p1 (own_nw p1 p1)))), (.long (2 : Int64)), (.long (own_nw p1 (own_nw p1 p1)))]))
  refine own_by (fun _ k => XS.lsub X0.here hx rfl (hb hby d5_29) rfl k) ?_
  show own_Go p.tables e below s _ _ _ (s₁.setTop (mkF m 30 #[.val (.long p1), .second, .val (.long (own_nw p1 (own_nw p1 p1))), .second] [(.long ((2 : Int64) - (p1 * (own_nw p1 (own_nw p1 p1))))), (.long (own_nw p1 (own_nw p1 p1)))]))
  refine own_by (fun _ k => XS.lmul X0.here hx rfl (hb hby d5_30) rfl k) ?_
  show own_Go p.tables e below s _ _ _ (s₁.setTop (mkF m 31 #[.val (.long p1), .second, .val (.long (own_nw p1 (own_nw p1 p1))), .second] [(.long (own_nw p1 (own_nw p1 (own_nw p1 p1))))]))
  refine own_by (fun _ k => XS.lstoreN X0.here hx rfl (hb hby d5_31) rfl (l' := #[.val (.long p1), .second, .val (.long (own_nw p1 (own_nw p1 (own_nw p1 p1)))), .second]) rfl k) ?_
  show own_Go p.tables e below s _ _ _ (s₁.setTop (mkF m 32 #[.val (.long p1), .second, .val (.long (own_nw p1 (own_nw p1 (own_nw p1 p1)))), .second] []))
  refine own_by (fun _ k => XS.lloadN X0.here hx rfl (hb hby d5_32) rfl k) ?_
  show own_Go p.tables e below s _ _ _ (s₁.setTop (mkF m 33 #[.val (.long p1), .second, .val (.long (own_nw p1 (own_nw p1 (own_nw p1 p1)))), .second] [(.long (own_nw p1 (own_nw p1 (own_nw p1 p1))))]))
  refine own_by (fun _ k => X0.ldc2Long hx hown (mvT hZ (hw _ (List.mem_of_getElem? (i := 27) rfl))) (g := (mkF m 33 #[.val (.long p1), .second, .val (.long (own_nw p1 (own_nw p1 (own_nw p1 p1)))), .second] [(.long (own_nw p1 (own_nw p1 (own_nw p1 p1))))])) rfl (hb hby d5_33) _ k) ?_
  show own_Go p.tables e below s _ _ _ (s₁.setTop (mkF m 36 #[.val (.long p1), .second, .val (.long (own_nw p1 (own_nw p1 (own_nw p1 p1)))), .second] [(.long (2 : Int64)), (.long (own_nw p1 (own_nw p1 (own_nw p1 p1))))]))
  refine own_by (fun _ k => XS.lloadN X0.here hx rfl (hb hby d5_36) rfl k) ?_
  show own_Go p.tables e below s _ _ _ (s₁.setTop (mkF m 37 #[.val (.long p1), .second, .val (.long (own_nw p1 (own_nw p1 (own_nw p1 p1)))), .second] [(.long p1), (.long (2 : Int64)), (.long (own_nw p1 (own_nw p1 (own_nw p1 p1))))]))
  refine own_by (fun _ k => XS.lloadN X0.here hx rfl (hb hby d5_37) rfl k) ?_
  show own_Go p.tables e below s _ _ _ (s₁.setTop (mkF m 38 #[.val (.long p1), .second, .val (.long (own_nw p1 (own_nw p1 (own_nw p1 p1)))), .second] [(.long (own_nw p1 (own_nw p1 (own_nw p1 p1)))), (.long p1), (.long (2 : Int64)), (.long (own_nw p1 (own_nw p1 (own_nw p1 p1))))]))
  refine own_by (fun _ k => XS.lmul X0.here hx rfl (hb hby d5_38) rfl k) ?_
  show own_Go p.tables e below s _ _ _ (s₁.setTop (mkF m 39 #[.val (.long p1), .second, .val (.long (own_nw p1 (own_nw p1 (own_nw p1 p1)))), .second] [(.long (p1 * (own_nw p1 (own_nw p1 (own_nw p1 p1))))), (.long (2 : Int64)), (.long (own_nw p1 (own_nw p1 (own_nw p1 p1))))]))
  refine own_by (fun _ k => XS.lsub X0.here hx rfl (hb hby d5_39) rfl k) ?_
  show own_Go p.tables e below s _ _ _ (s₁.setTop (mkF m 40 #[.val (.long p1), .second, .val (.long (own_nw p1 (own_nw p1 (own_nw p1 p1)))), .second] [(.long ((2 : Int64) - (p1 * (own_nw p1 (own_nw p1 (own_nw p1 p1)))))), (.long (own_nw p1 (own_nw p1 (own_nw p1 p1))))]))
  refine own_by (fun _ k => XS.lmul X0.here hx rfl (hb hby d5_40) rfl k) ?_
  show own_Go p.tables e below s _ _ _ (s₁.setTop (mkF m 41 #[.val (.long p1), .second, .val (.long (own_nw p1 (own_nw p1 (own_nw p1 p1)))), .second] [(.long (own_nw p1 (own_nw p1 (own_nw p1 (own_nw p1 p1)))))]))
  refine own_by (fun _ k => XS.lstoreN X0.here hx rfl (hb hby d5_41) rfl (l' := #[.val (.long p1), .second, .val (.long (own_nw p1 (own_nw p1 (own_nw p1 (own_nw p1 p1))))), .second]) rfl k) ?_
  show own_Go p.tables e below s _ _ _ (s₁.setTop (mkF m 42 #[.val (.long p1), .second, .val (.long (own_nw p1 (own_nw p1 (own_nw p1 (own_nw p1 p1))))), .second] []))
  refine own_by (fun _ k => XS.lloadN X0.here hx rfl (hb hby d5_42) rfl k) ?_
  show own_Go p.tables e below s _ _ _ (s₁.setTop (mkF m 43 #[.val (.long p1), .second, .val (.long (own_nw p1 (own_nw p1 (own_nw p1 (own_nw p1 p1))))), .second] [(.long (own_nw p1 (own_nw p1 (own_nw p1 (own_nw p1 p1)))))]))
  refine own_by (fun _ k => X0.ldc2Long hx hown (mvT hZ (hw _ (List.mem_of_getElem? (i := 27) rfl))) (g := (mkF m 43 #[.val (.long p1), .second, .val (.long (own_nw p1 (own_nw p1 (own_nw p1 (own_nw p1 p1))))), .second] [(.long (own_nw p1 (own_nw p1 (own_nw p1 (own_nw p1 p1)))))])) rfl (hb hby d5_43) _ k) ?_
  show own_Go p.tables e below s _ _ _ (s₁.setTop (mkF m 46 #[.val (.long p1), .second, .val (.long (own_nw p1 (own_nw p1 (own_nw p1 (own_nw p1 p1))))), .second] [(.long (2 : Int64)), (.long (own_nw p1 (own_nw p1 (own_nw p1 (own_nw p1 p1)))))]))
  refine own_by (fun _ k => XS.lloadN X0.here hx rfl (hb hby d5_46) rfl k) ?_
  show own_Go p.tables e below s _ _ _ (s₁.setTop (mkF m 47 #[.val (.long p1), .second, .val (.long (own_nw p1 (own_nw p1 (own_nw p1 (own_nw p1 p1))))), .second] [(.long p1), (.long (2 : Int64)), (.long (own_nw p1 (own_nw p1 (own_nw p1 (own_nw p1 p1)))))]))
  refine own_by (fun _ k => XS.lloadN X0.here hx rfl (hb hby d5_47) rfl k) ?_
  show own_Go p.tables e below s _ _ _ (s₁.setTop (mkF m 48 #[.val (.long p1), .second, .val (.long (own_nw p1 (own_nw p1 (own_nw p1 (own_nw p1 p1))))), .second] [(.long (own_nw p1 (own_nw p1 (own_nw p1 (own_nw p1 p1))))), (.long p1), (.long (2 : Int64)), (.long (own_nw p1 (own_nw p1 (own_nw p1 (own_nw p1 p1)))))]))
  refine own_by (fun _ k => XS.lmul X0.here hx rfl (hb hby d5_48) rfl k) ?_
  show own_Go p.tables e below s _ _ _ (s₁.setTop (mkF m 49 #[.val (.long p1), .second, .val (.long (own_nw p1 (own_nw p1 (own_nw p1 (own_nw p1 p1))))), .second] [(.long (p1 * (own_nw p1 (own_nw p1 (own_nw p1 (own_nw p1 p1)))))), (.long (2 : Int64)), (.long (own_nw p1 (own_nw p1 (own_nw p1 (own_nw p1 p1)))))]))
  refine own_by (fun _ k => XS.lsub X0.here hx rfl (hb hby d5_49) rfl k) ?_
  show own_Go p.tables e below s _ _ _ (s₁.setTop (mkF m 50 #[.val (.long p1), .second, .val (.long (own_nw p1 (own_nw p1 (own_nw p1 (own_nw p1 p1))))), .second] [(.long ((2 : Int64) - (p1 * (own_nw p1 (own_nw p1 (own_nw p1 (own_nw p1 p1))))))), (.long (own_nw p1 (own_nw p1 (own_nw p1 (own_nw p1 p1)))))]))
  refine own_by (fun _ k => XS.lmul X0.here hx rfl (hb hby d5_50) rfl k) ?_
  show own_Go p.tables e below s _ _ _ (s₁.setTop (mkF m 51 #[.val (.long p1), .second, .val (.long (own_nw p1 (own_nw p1 (own_nw p1 (own_nw p1 p1))))), .second] [(.long (own_nw p1 (own_nw p1 (own_nw p1 (own_nw p1 (own_nw p1 p1))))))]))
  refine own_by (fun _ k => XS.lstoreN X0.here hx rfl (hb hby d5_51) rfl (l' := #[.val (.long p1), .second, .val (.long (own_nw p1 (own_nw p1 (own_nw p1 (own_nw p1 (own_nw p1 p1)))))), .second]) rfl k) ?_
  show own_Go p.tables e below s _ _ _ (s₁.setTop (mkF m 52 #[.val (.long p1), .second, .val (.long (own_nw p1 (own_nw p1 (own_nw p1 (own_nw p1 (own_nw p1 p1)))))), .second] []))
  refine own_by (fun _ k => XS.lloadN X0.here hx rfl (hb hby d5_52) rfl k) ?_
  show own_Go p.tables e below s _ _ _ (s₁.setTop (mkF m 53 #[.val (.long p1), .second, .val (.long (own_nw p1 (own_nw p1 (own_nw p1 (own_nw p1 (own_nw p1 p1)))))), .second] [(.long (own_nw p1 (own_nw p1 (own_nw p1 (own_nw p1 (own_nw p1 p1))))))]))
  exact own_retJ X0 hx hlk Bd.returns (hb hby d5_53) (by decide) (by decide) ⟨rfl, N0, e0⟩
theorem d4_0 : decode method_3_code 0 = .ok (.lload_n 0, 1) := by decide +kernel
theorem d4_1 : decode method_3_code 1 = .ok (.lload_n 0, 1) := by decide +kernel
theorem d4_2 : decode method_3_code 2 = .ok (.bipush 31, 2) := by decide +kernel
theorem d4_4 : decode method_3_code 4 = .ok (.lushr, 1) := by decide +kernel
theorem d4_5 : decode method_3_code 5 = .ok (.lxor, 1) := by decide +kernel
theorem d4_6 : decode method_3_code 6 = .ok (.lload_n 0, 1) := by decide +kernel
theorem d4_7 : decode method_3_code 7 = .ok (.bipush 62, 2) := by decide +kernel
theorem d4_9 : decode method_3_code 9 = .ok (.lushr, 1) := by decide +kernel
theorem d4_10 : decode method_3_code 10 = .ok (.lxor, 1) := by decide +kernel
theorem d4_11 : decode method_3_code 11 = .ok (.lstore_n 2, 1) := by decide +kernel
theorem d4_12 : decode method_3_code 12 = .ok (.lload_n 2, 1) := by decide +kernel
theorem d4_13 : decode method_3_code 13 = .ok (.ldc2_w 11, 3) := by decide +kernel
theorem d4_16 : decode method_3_code 16 = .ok (.invokestatic 13, 3) := by decide +kernel
theorem d4_19 : decode method_3_code 19 = .ok (.lmul, 1) := by decide +kernel
theorem d4_20 : decode method_3_code 20 = .ok (.lstore 4, 2) := by decide +kernel
theorem d4_22 : decode method_3_code 22 = .ok (.lload 4, 2) := by decide +kernel
theorem d4_24 : decode method_3_code 24 = .ok (.lload 4, 2) := by decide +kernel
theorem d4_26 : decode method_3_code 26 = .ok (.bipush 27, 2) := by decide +kernel
theorem d4_28 : decode method_3_code 28 = .ok (.lushr, 1) := by decide +kernel
theorem d4_29 : decode method_3_code 29 = .ok (.lxor, 1) := by decide +kernel
theorem d4_30 : decode method_3_code 30 = .ok (.lload 4, 2) := by decide +kernel
theorem d4_32 : decode method_3_code 32 = .ok (.bipush 54, 2) := by decide +kernel
theorem d4_34 : decode method_3_code 34 = .ok (.lushr, 1) := by decide +kernel
theorem d4_35 : decode method_3_code 35 = .ok (.lxor, 1) := by decide +kernel
theorem d4_36 : decode method_3_code 36 = .ok (.lstore 6, 2) := by decide +kernel
theorem d4_38 : decode method_3_code 38 = .ok (.lload 6, 2) := by decide +kernel
theorem d4_40 : decode method_3_code 40 = .ok (.ldc2_w 17, 3) := by decide +kernel
theorem d4_43 : decode method_3_code 43 = .ok (.invokestatic 13, 3) := by decide +kernel
theorem d4_46 : decode method_3_code 46 = .ok (.lmul, 1) := by decide +kernel
theorem d4_47 : decode method_3_code 47 = .ok (.lstore 8, 2) := by decide +kernel
theorem d4_49 : decode method_3_code 49 = .ok (.lload 8, 2) := by decide +kernel
theorem d4_51 : decode method_3_code 51 = .ok (.lload 8, 2) := by decide +kernel
theorem d4_53 : decode method_3_code 53 = .ok (.bipush 30, 2) := by decide +kernel
theorem d4_55 : decode method_3_code 55 = .ok (.lushr, 1) := by decide +kernel
theorem d4_56 : decode method_3_code 56 = .ok (.lxor, 1) := by decide +kernel
theorem d4_57 : decode method_3_code 57 = .ok (.lload 8, 2) := by decide +kernel
theorem d4_59 : decode method_3_code 59 = .ok (.bipush 60, 2) := by decide +kernel
theorem d4_61 : decode method_3_code 61 = .ok (.lushr, 1) := by decide +kernel
theorem d4_62 : decode method_3_code 62 = .ok (.lxor, 1) := by decide +kernel
theorem d4_63 : decode method_3_code 63 = .ok (.lreturn, 1) := by decide +kernel
theorem pf_4 : plainFor (⟨"com/example/inferlink/inferlink/SplitMix64NextLongPinLaw", "unmix", "(J)J"⟩ : MethodName) = true := by first | exact plainFor_of_name (by first | (simp [plainName, overriddenIn]; done) | decide +kernel) | decide +kernel
theorem pd_4 : parseMethodDescriptor "(J)J" = some ⟨[.long], some .long⟩ := by decide +kernel
theorem ef_4 (m : MethodId) (p1 : Int64) : entryFrame m #[(.long p1)] 10 = mkF m 0 #[.val (.long p1), .second, .unset, .unset, .unset, .unset, .unset, .unset, .unset, .unset] [] := by first | (simp [entryFrame, mkF, argsToLocals, Value.category]; done) | rfl
def Q4 (p1 : Int64) (h0 : Heap) (n0 : Nat) (v : Option Value) (h : Heap) (L : List Loc) : Prop := v = some (.long (own_unmix p1)) ∧ Fr n0 L ∧ h = h0
set_option maxRecDepth 65536 in
set_option maxHeartbeats 40000000 in
theorem rm4 (l : Launch) (Z : State) (a0 : Array Value) (hw : ∀ d ∈ tables_1, d.before a0 Z = true) (ws : List Jvm.Cond) (p1 : Int64) (h0 : Heap) (n0 : Nat) (Z0 : n0 ≤ h0.size)  :
    own_Met l Z (⟨"com/example/inferlink/inferlink/SplitMix64NextLongPinLaw", "unmix", "(J)J"⟩ : MethodName) method_3_code 10 (some .long) ws ({ frames := 1, cells := 0, slots := 0, locals := 17 } : Room) #[(.long p1)] h0 (Q4 p1 h0 n0) := by
  refine MetFree.of_bodySF pf_4 hisR ?_
  intro p e s m args below meth c s₁ Bd hml0 hP hK
  obtain ⟨rfl, hZ, hh⟩ := hP
  have hx := Bd.exec
  have hby := Bd.bytes
  have hlk : meth.locks = false := BodyLoose.notSynchronized Bd
  have hml : c.maxLocals = 10 := hml0
  have hown : s.vm.findClass "com/example/inferlink/inferlink/SplitMix64NextLongPinLaw" = some m.cls := findClass_of_methodNamed Bd.named
  have hnm := (name_of_methodNamed Bd.named Bd.method).1
  have X0 : Stand p l e ({ frames := 1, cells := 0, slots := 0, locals := 17 } : Room) s m #[(.long p1)] below meth c s₁ [] 0 0 := Stand.of_body Bd
  have e0 : s₁.heap = h0 := by rw [← hh, Bd.state]; rfl
  have N0 := Fr.nil n0
  show own_Go p.tables e below s (Q4 p1 h0 n0) ({ frames := 1, cells := 0, slots := 0, locals := 17 } : Room).cells ({ frames := 1, cells := 0, slots := 0, locals := 17 } : Room).slots _
  refine own_by (fun _ k => castTop (ef_4 m p1) k) ?_
  show own_Go p.tables e below s _ _ _ (s₁.setTop (mkF m 0 #[.val (.long p1), .second, .unset, .unset, .unset, .unset, .unset, .unset, .unset, .unset] []))
  refine own_by (fun _ k => XS.lloadN X0.here hx rfl (hb hby d4_0) rfl k) ?_
  show own_Go p.tables e below s _ _ _ (s₁.setTop (mkF m 1 #[.val (.long p1), .second, .unset, .unset, .unset, .unset, .unset, .unset, .unset, .unset] [(.long p1)]))
  refine own_by (fun _ k => XS.lloadN X0.here hx rfl (hb hby d4_1) rfl k) ?_
  show own_Go p.tables e below s _ _ _ (s₁.setTop (mkF m 2 #[.val (.long p1), .second, .unset, .unset, .unset, .unset, .unset, .unset, .unset, .unset] [(.long p1), (.long p1)]))
  refine own_by (fun _ k => XS.bipush X0.here hx rfl (hb hby d4_2) k) ?_
  show own_Go p.tables e below s _ _ _ (s₁.setTop (mkF m 4 #[.val (.long p1), .second, .unset, .unset, .unset, .unset, .unset, .unset, .unset, .unset] [(.int (31 : Int32)), (.long p1), (.long p1)]))
  refine own_by (fun _ k => XS.lushr X0.here hx rfl (hb hby d4_4) rfl k) ?_
  show own_Go p.tables e below s _ _ _ (s₁.setTop (mkF m 5 #[.val (.long p1), .second, .unset, .unset, .unset, .unset, .unset, .unset, .unset, .unset] [(.long (own_sr p1 (31 : Int32))), (.long p1)]))
  refine own_by (fun _ k => XS.lxor X0.here hx rfl (hb hby d4_5) rfl k) ?_
  show own_Go p.tables e below s _ _ _ (s₁.setTop (mkF m 6 #[.val (.long p1), .second, .unset, .unset, .unset, .unset, .unset, .unset, .unset, .unset] [(.long (own_xs p1 (31 : Int32)))]))
  refine own_by (fun _ k => XS.lloadN X0.here hx rfl (hb hby d4_6) rfl k) ?_
  show own_Go p.tables e below s _ _ _ (s₁.setTop (mkF m 7 #[.val (.long p1), .second, .unset, .unset, .unset, .unset, .unset, .unset, .unset, .unset] [(.long p1), (.long (own_xs p1 (31 : Int32)))]))
  refine own_by (fun _ k => XS.bipush X0.here hx rfl (hb hby d4_7) k) ?_
  show own_Go p.tables e below s _ _ _ (s₁.setTop (mkF m 9 #[.val (.long p1), .second, .unset, .unset, .unset, .unset, .unset, .unset, .unset, .unset] [(.int (62 : Int32)), (.long p1), (.long (own_xs p1 (31 : Int32)))]))
  refine own_by (fun _ k => XS.lushr X0.here hx rfl (hb hby d4_9) rfl k) ?_
  show own_Go p.tables e below s _ _ _ (s₁.setTop (mkF m 10 #[.val (.long p1), .second, .unset, .unset, .unset, .unset, .unset, .unset, .unset, .unset] [(.long (own_sr p1 (62 : Int32))), (.long (own_xs p1 (31 : Int32)))]))
  refine own_by (fun _ k => XS.lxor X0.here hx rfl (hb hby d4_10) rfl k) ?_
  show own_Go p.tables e below s _ _ _ (s₁.setTop (mkF m 11 #[.val (.long p1), .second, .unset, .unset, .unset, .unset, .unset, .unset, .unset, .unset] [(.long (own_ux p1 (31 : Int32) (62 : Int32)))]))
  refine own_by (fun _ k => XS.lstoreN X0.here hx rfl (hb hby d4_11) rfl (l' := #[.val (.long p1), .second, .val (.long (own_ux p1 (31 : Int32) (62 : Int32))), .second, .unset, .unset, .unset, .unset, .unset, .unset]) rfl k) ?_
  show own_Go p.tables e below s _ _ _ (s₁.setTop (mkF m 12 #[.val (.long p1), .second, .val (.long (own_ux p1 (31 : Int32) (62 : Int32))), .second, .unset, .unset, .unset, .unset, .unset, .unset] []))
  refine own_by (fun _ k => XS.lloadN X0.here hx rfl (hb hby d4_12) rfl k) ?_
  show own_Go p.tables e below s _ _ _ (s₁.setTop (mkF m 13 #[.val (.long p1), .second, .val (.long (own_ux p1 (31 : Int32) (62 : Int32))), .second, .unset, .unset, .unset, .unset, .unset, .unset] [(.long (own_ux p1 (31 : Int32) (62 : Int32)))]))
  refine own_by (fun _ k => X0.ldc2Long hx hown (mvT hZ (hw _ (List.mem_of_getElem? (i := 23) rfl))) (g := (mkF m 13 #[.val (.long p1), .second, .val (.long (own_ux p1 (31 : Int32) (62 : Int32))), .second, .unset, .unset, .unset, .unset, .unset, .unset] [(.long (own_ux p1 (31 : Int32) (62 : Int32)))])) rfl (hb hby d4_13) _ k) ?_
  show own_Go p.tables e below s _ _ _ (s₁.setTop (mkF m 16 #[.val (.long p1), .second, .val (.long (own_ux p1 (31 : Int32) (62 : Int32))), .second, .unset, .unset, .unset, .unset, .unset, .unset] [(.long (-7723592293110705685 : Int64)), (.long (own_ux p1 (31 : Int32) (62 : Int32)))]))
  obtain ⟨v1, T1, L1, X1, q1, st1⟩ := own_callS X0 hx hZ hown (hw _ (List.mem_of_getElem? (i := 24) rfl)) (hw _ (List.mem_of_getElem? (i := 25) rfl)) (hw _ (List.mem_of_getElem? (i := 21) rfl)) (hw _ (List.mem_of_getElem? (i := 26) rfl)) (by decide) (rm5 l Z a0 hw [] (-7723592293110705685 : Int64) h0 n0 Z0) (W := 2) (by decide) (by decide) e0 (g := (mkF m 16 #[.val (.long p1), .second, .val (.long (own_ux p1 (31 : Int32) (62 : Int32))), .second, .unset, .unset, .unset, .unset, .unset, .unset] [(.long (-7723592293110705685 : Int64)), (.long (own_ux p1 (31 : Int32) (62 : Int32)))])) rfl (by rw [hml]; rfl) (argsL := [(.long (-7723592293110705685 : Int64))]) (rest := [(.long (own_ux p1 (31 : Int32) (62 : Int32)))]) (lenOf pd_5 rfl) rfl rfl (by show 2 * 0 + _ ≤ _; exact Nat.le_of_eq rfl) (hb hby d4_16) (by decide) (by decide)
  obtain ⟨rfl, Nq1, hh1⟩ := q1
  have N1 := Fr.app N0 Nq1
  refine own_by st1 ?_
  show own_Go p.tables e below s _ _ _ (T1.setTop (mkF m 19 #[.val (.long p1), .second, .val (.long (own_ux p1 (31 : Int32) (62 : Int32))), .second, .unset, .unset, .unset, .unset, .unset, .unset] [(.long (own_inv (-7723592293110705685 : Int64))), (.long (own_ux p1 (31 : Int32) (62 : Int32)))]))
  refine own_by (fun _ k => XS.lmul X1.here hx rfl (hb hby d4_19) rfl k) ?_
  show own_Go p.tables e below s _ _ _ (T1.setTop (mkF m 20 #[.val (.long p1), .second, .val (.long (own_ux p1 (31 : Int32) (62 : Int32))), .second, .unset, .unset, .unset, .unset, .unset, .unset] [(.long ((own_ux p1 (31 : Int32) (62 : Int32)) * (own_inv (-7723592293110705685 : Int64))))]))
  refine own_by (fun _ k => XS.lstore X1.here hx rfl (hb hby d4_20) rfl (l' := #[.val (.long p1), .second, .val (.long (own_ux p1 (31 : Int32) (62 : Int32))), .second, .val (.long ((own_ux p1 (31 : Int32) (62 : Int32)) * (own_inv (-7723592293110705685 : Int64)))), .second, .unset, .unset, .unset, .unset]) rfl k) ?_
  show own_Go p.tables e below s _ _ _ (T1.setTop (mkF m 22 #[.val (.long p1), .second, .val (.long (own_ux p1 (31 : Int32) (62 : Int32))), .second, .val (.long ((own_ux p1 (31 : Int32) (62 : Int32)) * (own_inv (-7723592293110705685 : Int64)))), .second, .unset, .unset, .unset, .unset] []))
  refine own_by (fun _ k => XS.lload X1.here hx rfl (hb hby d4_22) rfl k) ?_
  show own_Go p.tables e below s _ _ _ (T1.setTop (mkF m 24 #[.val (.long p1), .second, .val (.long (own_ux p1 (31 : Int32) (62 : Int32))), .second, .val (.long ((own_ux p1 (31 : Int32) (62 : Int32)) * (own_inv (-7723592293110705685 : Int64)))), .second, .unset, .unset, .unset, .unset] [(.long ((own_ux p1 (31 : Int32) (62 : Int32)) * (own_inv (-7723592293110705685 : Int64))))]))
  refine own_by (fun _ k => XS.lload X1.here hx rfl (hb hby d4_24) rfl k) ?_
  show own_Go p.tables e below s _ _ _ (T1.setTop (mkF m 26 #[.val (.long p1), .second, .val (.long (own_ux p1 (31 : Int32) (62 : Int32))), .second, .val (.long ((own_ux p1 (31 : Int32) (62 : Int32)) * (own_inv (-7723592293110705685 : Int64)))), .second, .unset, .unset, .unset, .unset] [(.long ((own_ux p1 (31 : Int32) (62 : Int32)) * (own_inv (-7723592293110705685 : Int64)))), (.long ((own_ux p1 (31 : Int32) (62 : Int32)) * (own_inv (-7723592293110705685 : Int64))))]))
  refine own_by (fun _ k => XS.bipush X1.here hx rfl (hb hby d4_26) k) ?_
  show own_Go p.tables e below s _ _ _ (T1.setTop (mkF m 28 #[.val (.long p1), .second, .val (.long (own_ux p1 (31 : Int32) (62 : Int32))), .second, .val (.long ((own_ux p1 (31 : Int32) (62 : Int32)) * (own_inv (-7723592293110705685 : Int64)))), .second, .unset, .unset, .unset, .unset] [(.int (27 : Int32)), (.long ((own_ux p1 (31 : Int32) (62 : Int32)) * (own_inv (-7723592293110705685 : Int64)))), (.long ((own_ux p1 (31 : Int32) (62 : Int32)) * (own_inv (-7723592293110705685 : Int64))))]))
  refine own_by (fun _ k => XS.lushr X1.here hx rfl (hb hby d4_28) rfl k) ?_
  show own_Go p.tables e below s _ _ _ (T1.setTop (mkF m 29 #[.val (.long p1), .second, .val (.long (own_ux p1 (31 : Int32) (62 : Int32))), .second, .val (.long ((own_ux p1 (31 : Int32) (62 : Int32)) * (own_inv (-7723592293110705685 : Int64)))), .second, .unset, .unset, .unset, .unset] [(.long (own_sr ((own_ux p1 (31 : Int32) (62 : Int32)) * (own_inv (-7723592293110705685 : Int64))) (27 : Int32))), (.long ((own_ux p1 (31 : Int32) (62 : Int32)) * (own_inv (-7723592293110705685 : Int64))))]))
  refine own_by (fun _ k => XS.lxor X1.here hx rfl (hb hby d4_29) rfl k) ?_
  show own_Go p.tables e below s _ _ _ (T1.setTop (mkF m 30 #[.val (.long p1), .second, .val (.long (own_ux p1 (31 : Int32) (62 : Int32))), .second, .val (.long ((own_ux p1 (31 : Int32) (62 : Int32)) * (own_inv (-7723592293110705685 : Int64)))), .second, .unset, .unset, .unset, .unset] [(.long (own_xs ((own_ux p1 (31 : Int32) (62 : Int32)) * (own_inv (-7723592293110705685 : Int64))) (27 : Int32)))]))
  refine own_by (fun _ k => XS.lload X1.here hx rfl (hb hby d4_30) rfl k) ?_
  show own_Go p.tables e below s _ _ _ (T1.setTop (mkF m 32 #[.val (.long p1), .second, .val (.long (own_ux p1 (31 : Int32) (62 : Int32))), .second, .val (.long ((own_ux p1 (31 : Int32) (62 : Int32)) * (own_inv (-7723592293110705685 : Int64)))), .second, .unset, .unset, .unset, .unset] [(.long ((own_ux p1 (31 : Int32) (62 : Int32)) * (own_inv (-7723592293110705685 : Int64)))), (.long (own_xs ((own_ux p1 (31 : Int32) (62 : Int32)) * (own_inv (-7723592293110705685 : Int64))) (27 : Int32)))]))
  refine own_by (fun _ k => XS.bipush X1.here hx rfl (hb hby d4_32) k) ?_
  show own_Go p.tables e below s _ _ _ (T1.setTop (mkF m 34 #[.val (.long p1), .second, .val (.long (own_ux p1 (31 : Int32) (62 : Int32))), .second, .val (.long ((own_ux p1 (31 : Int32) (62 : Int32)) * (own_inv (-7723592293110705685 : Int64)))), .second, .unset, .unset, .unset, .unset] [(.int (54 : Int32)), (.long ((own_ux p1 (31 : Int32) (62 : Int32)) * (own_inv (-7723592293110705685 : Int64)))), (.long (own_xs ((own_ux p1 (31 : Int32) (62 : Int32)) * (own_inv (-7723592293110705685 : Int64))) (27 : Int32)))]))
  refine own_by (fun _ k => XS.lushr X1.here hx rfl (hb hby d4_34) rfl k) ?_
  show own_Go p.tables e below s _ _ _ (T1.setTop (mkF m 35 #[.val (.long p1), .second, .val (.long (own_ux p1 (31 : Int32) (62 : Int32))), .second, .val (.long ((own_ux p1 (31 : Int32) (62 : Int32)) * (own_inv (-7723592293110705685 : Int64)))), .second, .unset, .unset, .unset, .unset] [(.long (own_sr ((own_ux p1 (31 : Int32) (62 : Int32)) * (own_inv (-7723592293110705685 : Int64))) (54 : Int32))), (.long (own_xs ((own_ux p1 (31 : Int32) (62 : Int32)) * (own_inv (-7723592293110705685 : Int64))) (27 : Int32)))]))
  refine own_by (fun _ k => XS.lxor X1.here hx rfl (hb hby d4_35) rfl k) ?_
  show own_Go p.tables e below s _ _ _ (T1.setTop (mkF m 36 #[.val (.long p1), .second, .val (.long (own_ux p1 (31 : Int32) (62 : Int32))), .second, .val (.long ((own_ux p1 (31 : Int32) (62 : Int32)) * (own_inv (-7723592293110705685 : Int64)))), .second, .unset, .unset, .unset, .unset] [(.long (own_ux ((own_ux p1 (31 : Int32) (62 : Int32)) * (own_inv (-7723592293110705685 : Int64))) (27 : Int32) (54 : Int32)))]))
  refine own_by (fun _ k => XS.lstore X1.here hx rfl (hb hby d4_36) rfl (l' := #[.val (.long p1), .second, .val (.long (own_ux p1 (31 : Int32) (62 : Int32))), .second, .val (.long ((own_ux p1 (31 : Int32) (62 : Int32)) * (own_inv (-7723592293110705685 : Int64)))), .second, .val (.long (own_ux ((own_ux p1 (31 : Int32) (62 : Int32)) * (own_inv (-7723592293110705685 : Int64))) (27 : Int32) (54 : Int32))), .second, .unset, .unset]) rfl k) ?_
  show own_Go p.tables e below s _ _ _ (T1.setTop (mkF m 38 #[.val (.long p1), .second, .val (.long (own_ux p1 (31 : Int32) (62 : Int32))), .second, .val (.long ((own_ux p1 (31 : Int32) (62 : Int32)) * (own_inv (-7723592293110705685 : Int64)))), .second, .val (.long (own_ux ((own_ux p1 (31 : Int32) (62 : Int32)) * (own_inv (-7723592293110705685 : Int64))) (27 : Int32) (54 : Int32))), .second, .unset, .unset] []))
  refine own_by (fun _ k => XS.lload X1.here hx rfl (hb hby d4_38) rfl k) ?_
  show own_Go p.tables e below s _ _ _ (T1.setTop (mkF m 40 #[.val (.long p1), .second, .val (.long (own_ux p1 (31 : Int32) (62 : Int32))), .second, .val (.long ((own_ux p1 (31 : Int32) (62 : Int32)) * (own_inv (-7723592293110705685 : Int64)))), .second, .val (.long (own_ux ((own_ux p1 (31 : Int32) (62 : Int32)) * (own_inv (-7723592293110705685 : Int64))) (27 : Int32) (54 : Int32))), .second, .unset, .unset] [(.long (own_ux ((own_ux p1 (31 : Int32) (62 : Int32)) * (own_inv (-7723592293110705685 : Int64))) (27 : Int32) (54 : Int32)))]))
  refine own_by (fun _ k => X1.ldc2Long hx hown (mvT hZ (hw _ (List.mem_of_getElem? (i := 28) rfl))) (g := (mkF m 40 #[.val (.long p1), .second, .val (.long (own_ux p1 (31 : Int32) (62 : Int32))), .second, .val (.long ((own_ux p1 (31 : Int32) (62 : Int32)) * (own_inv (-7723592293110705685 : Int64)))), .second, .val (.long (own_ux ((own_ux p1 (31 : Int32) (62 : Int32)) * (own_inv (-7723592293110705685 : Int64))) (27 : Int32) (54 : Int32))), .second, .unset, .unset] [(.long (own_ux ((own_ux p1 (31 : Int32) (62 : Int32)) * (own_inv (-7723592293110705685 : Int64))) (27 : Int32) (54 : Int32)))])) rfl (hb hby d4_40) _ k) ?_
  show own_Go p.tables e below s _ _ _ (T1.setTop (mkF m 43 #[.val (.long p1), .second, .val (.long (own_ux p1 (31 : Int32) (62 : Int32))), .second, .val (.long ((own_ux p1 (31 : Int32) (62 : Int32)) * (own_inv (-7723592293110705685 : Int64)))), .second, .val (.long (own_ux ((own_ux p1 (31 : Int32) (62 : Int32)) * (own_inv (-7723592293110705685 : Int64))) (27 : Int32) (54 : Int32))), .second, .unset, .unset] [(.long (-4658895280553007687 : Int64)), (.long (own_ux ((own_ux p1 (31 : Int32) (62 : Int32)) * (own_inv (-7723592293110705685 : Int64))) (27 : Int32) (54 : Int32)))]))
  obtain ⟨v2, T2, L2, X2, q2, st2⟩ := own_callS X1 hx hZ hown (hw _ (List.mem_of_getElem? (i := 24) rfl)) (hw _ (List.mem_of_getElem? (i := 25) rfl)) (hw _ (List.mem_of_getElem? (i := 21) rfl)) (hw _ (List.mem_of_getElem? (i := 26) rfl)) (by decide) (rm5 l Z a0 hw [] (-4658895280553007687 : Int64) h0 n0 Z0) (W := 2) (by decide) (by decide) hh1 (g := (mkF m 43 #[.val (.long p1), .second, .val (.long (own_ux p1 (31 : Int32) (62 : Int32))), .second, .val (.long ((own_ux p1 (31 : Int32) (62 : Int32)) * (own_inv (-7723592293110705685 : Int64)))), .second, .val (.long (own_ux ((own_ux p1 (31 : Int32) (62 : Int32)) * (own_inv (-7723592293110705685 : Int64))) (27 : Int32) (54 : Int32))), .second, .unset, .unset] [(.long (-4658895280553007687 : Int64)), (.long (own_ux ((own_ux p1 (31 : Int32) (62 : Int32)) * (own_inv (-7723592293110705685 : Int64))) (27 : Int32) (54 : Int32)))])) rfl (by rw [hml]; rfl) (argsL := [(.long (-4658895280553007687 : Int64))]) (rest := [(.long (own_ux ((own_ux p1 (31 : Int32) (62 : Int32)) * (own_inv (-7723592293110705685 : Int64))) (27 : Int32) (54 : Int32)))]) (lenOf pd_5 rfl) rfl rfl (by show 2 * 0 + _ ≤ _; exact Nat.le_of_eq rfl) (hb hby d4_43) (by decide) (by decide)
  obtain ⟨rfl, Nq2, hh2⟩ := q2
  have N2 := Fr.app N1 Nq2
  refine own_by st2 ?_
  show own_Go p.tables e below s _ _ _ (T2.setTop (mkF m 46 #[.val (.long p1), .second, .val (.long (own_ux p1 (31 : Int32) (62 : Int32))), .second, .val (.long ((own_ux p1 (31 : Int32) (62 : Int32)) * (own_inv (-7723592293110705685 : Int64)))), .second, .val (.long (own_ux ((own_ux p1 (31 : Int32) (62 : Int32)) * (own_inv (-7723592293110705685 : Int64))) (27 : Int32) (54 : Int32))), .second, .unset, .unset] [(.long (own_inv (-4658895280553007687 : Int64))), (.long (own_ux ((own_ux p1 (31 : Int32) (62 : Int32)) * (own_inv (-7723592293110705685 : Int64))) (27 : Int32) (54 : Int32)))]))
  refine own_by (fun _ k => XS.lmul X2.here hx rfl (hb hby d4_46) rfl k) ?_
  show own_Go p.tables e below s _ _ _ (T2.setTop (mkF m 47 #[.val (.long p1), .second, .val (.long (own_ux p1 (31 : Int32) (62 : Int32))), .second, .val (.long ((own_ux p1 (31 : Int32) (62 : Int32)) * (own_inv (-7723592293110705685 : Int64)))), .second, .val (.long (own_ux ((own_ux p1 (31 : Int32) (62 : Int32)) * (own_inv (-7723592293110705685 : Int64))) (27 : Int32) (54 : Int32))), .second, .unset, .unset] [(.long ((own_ux ((own_ux p1 (31 : Int32) (62 : Int32)) * (own_inv (-7723592293110705685 : Int64))) (27 : Int32) (54 : Int32)) * (own_inv (-4658895280553007687 : Int64))))]))
  refine own_by (fun _ k => XS.lstore X2.here hx rfl (hb hby d4_47) rfl (l' := #[.val (.long p1), .second, .val (.long (own_ux p1 (31 : Int32) (62 : Int32))), .second, .val (.long ((own_ux p1 (31 : Int32) (62 : Int32)) * (own_inv (-7723592293110705685 : Int64)))), .second, .val (.long (own_ux ((own_ux p1 (31 : Int32) (62 : Int32)) * (own_inv (-7723592293110705685 : Int64))) (27 : Int32) (54 : Int32))), .second, .val (.long ((own_ux ((own_ux p1 (31 : Int32) (62 : Int32)) * (own_inv (-7723592293110705685 : Int64))) (27 : Int32) (54 : Int32)) * (own_inv (-4658895280553007687 : Int64)))), .second]) rfl k) ?_
  show own_Go p.tables e below s _ _ _ (T2.setTop (mkF m 49 #[.val (.long p1), .second, .val (.long (own_ux p1 (31 : Int32) (62 : Int32))), .second, .val (.long ((own_ux p1 (31 : Int32) (62 : Int32)) * (own_inv (-7723592293110705685 : Int64)))), .second, .val (.long (own_ux ((own_ux p1 (31 : Int32) (62 : Int32)) * (own_inv (-7723592293110705685 : Int64))) (27 : Int32) (54 : Int32))), .second, .val (.long ((own_ux ((own_ux p1 (31 : Int32) (62 : Int32)) * (own_inv (-7723592293110705685 : Int64))) (27 : Int32) (54 : Int32)) * (own_inv (-4658895280553007687 : Int64)))), .second] []))
  refine own_by (fun _ k => XS.lload X2.here hx rfl (hb hby d4_49) rfl k) ?_
  show own_Go p.tables e below s _ _ _ (T2.setTop (mkF m 51 #[.val (.long p1), .second, .val (.long (own_ux p1 (31 : Int32) (62 : Int32))), .second, .val (.long ((own_ux p1 (31 : Int32) (62 : Int32)) * (own_inv (-7723592293110705685 : Int64)))), .second, .val (.long (own_ux ((own_ux p1 (31 : Int32) (62 : Int32)) * (own_inv (-7723592293110705685 : Int64))) (27 : Int32) (54 : Int32))), .second, .val (.long ((own_ux ((own_ux p1 (31 : Int32) (62 : Int32)) * (own_inv (-7723592293110705685 : Int64))) (27 : Int32) (54 : Int32)) * (own_inv (-4658895280553007687 : Int64)))), .second] [(.long ((own_ux ((own_ux p1 (31 : Int32) (62 : Int32)) * (own_inv (-7723592293110705685 : Int64))) (27 : Int32) (54 : Int32)) * (own_inv (-4658895280553007687 : Int64))))]))
  refine own_by (fun _ k => XS.lload X2.here hx rfl (hb hby d4_51) rfl k) ?_
  show own_Go p.tables e below s _ _ _ (T2.setTop (mkF m 53 #[.val (.long p1), .second, .val (.long (own_ux p1 (31 : Int32) (62 : Int32))), .second, .val (.long ((own_ux p1 (31 : Int32) (62 : Int32)) * (own_inv (-7723592293110705685 : Int64)))), .second, .val (.long (own_ux ((own_ux p1 (31 : Int32) (62 : Int32)) * (own_inv (-7723592293110705685 : Int64))) (27 : Int32) (54 : Int32))), .second, .val (.long ((own_ux ((own_ux p1 (31 : Int32) (62 : Int32)) * (own_inv (-7723592293110705685 : Int64))) (27 : Int32) (54 : Int32)) * (own_inv (-4658895280553007687 : Int64)))), .second] [(.long ((own_ux ((own_ux p1 (31 : Int32) (62 : Int32)) * (own_inv (-7723592293110705685 : Int64))) (27 : Int32) (54 : Int32)) * (own_inv (-4658895280553007687 : Int64)))), (.long ((own_ux ((own_ux p1 (31 : Int32) (62 : Int32)) * (own_inv (-7723592293110705685 : Int64))) (27 : Int32) (54 : Int32)) * (own_inv (-4658895280553007687 : Int64))))]))
  refine own_by (fun _ k => XS.bipush X2.here hx rfl (hb hby d4_53) k) ?_
  show own_Go p.tables e below s _ _ _ (T2.setTop (mkF m 55 #[.val (.long p1), .second, .val (.long (own_ux p1 (31 : Int32) (62 : Int32))), .second, .val (.long ((own_ux p1 (31 : Int32) (62 : Int32)) * (own_inv (-7723592293110705685 : Int64)))), .second, .val (.long (own_ux ((own_ux p1 (31 : Int32) (62 : Int32)) * (own_inv (-7723592293110705685 : Int64))) (27 : Int32) (54 : Int32))), .second, .val (.long ((own_ux ((own_ux p1 (31 : Int32) (62 : Int32)) * (own_inv (-7723592293110705685 : Int64))) (27 : Int32) (54 : Int32)) * (own_inv (-4658895280553007687 : Int64)))), .second] [(.int (30 : Int32)), (.long ((own_ux ((own_ux p1 (31 : Int32) (62 : Int32)) * (own_inv (-7723592293110705685 : Int64))) (27 : Int32) (54 : Int32)) * (own_inv (-4658895280553007687 : Int64)))), (.long ((own_ux ((own_ux p1 (31 : Int32) (62 : Int32)) * (own_inv (-7723592293110705685 : Int64))) (27 : Int32) (54 : Int32)) * (own_inv (-4658895280553007687 : Int64))))]))
  refine own_by (fun _ k => XS.lushr X2.here hx rfl (hb hby d4_55) rfl k) ?_
  show own_Go p.tables e below s _ _ _ (T2.setTop (mkF m 56 #[.val (.long p1), .second, .val (.long (own_ux p1 (31 : Int32) (62 : Int32))), .second, .val (.long ((own_ux p1 (31 : Int32) (62 : Int32)) * (own_inv (-7723592293110705685 : Int64)))), .second, .val (.long (own_ux ((own_ux p1 (31 : Int32) (62 : Int32)) * (own_inv (-7723592293110705685 : Int64))) (27 : Int32) (54 : Int32))), .second, .val (.long ((own_ux ((own_ux p1 (31 : Int32) (62 : Int32)) * (own_inv (-7723592293110705685 : Int64))) (27 : Int32) (54 : Int32)) * (own_inv (-4658895280553007687 : Int64)))), .second] [(.long (own_sr ((own_ux ((own_ux p1 (31 : Int32) (62 : Int32)) * (own_inv (-7723592293110705685 : Int64))) (27 : Int32) (54 : Int32)) * (own_inv (-4658895280553007687 : Int64))) (30 : Int32))), (.long ((own_ux ((own_ux p1 (31 : Int32) (62 : Int32)) * (own_inv (-7723592293110705685 : Int64))) (27 : Int32) (54 : Int32)) * (own_inv (-4658895280553007687 : Int64))))]))
  refine own_by (fun _ k => XS.lxor X2.here hx rfl (hb hby d4_56) rfl k) ?_
  show own_Go p.tables e below s _ _ _ (T2.setTop (mkF m 57 #[.val (.long p1), .second, .val (.long (own_ux p1 (31 : Int32) (62 : Int32))), .second, .val (.long ((own_ux p1 (31 : Int32) (62 : Int32)) * (own_inv (-7723592293110705685 : Int64)))), .second, .val (.long (own_ux ((own_ux p1 (31 : Int32) (62 : Int32)) * (own_inv (-7723592293110705685 : Int64))) (27 : Int32) (54 : Int32))), .second, .val (.long ((own_ux ((own_ux p1 (31 : Int32) (62 : Int32)) * (own_inv (-7723592293110705685 : Int64))) (27 : Int32) (54 : Int32)) * (own_inv (-4658895280553007687 : Int64)))), .second] [(.long (own_xs ((own_ux ((own_ux p1 (31 : Int32) (62 : Int32)) * (own_inv (-7723592293110705685 : Int64))) (27 : Int32) (54 : Int32)) * (own_inv (-4658895280553007687 : Int64))) (30 : Int32)))]))
  refine own_by (fun _ k => XS.lload X2.here hx rfl (hb hby d4_57) rfl k) ?_
  show own_Go p.tables e below s _ _ _ (T2.setTop (mkF m 59 #[.val (.long p1), .second, .val (.long (own_ux p1 (31 : Int32) (62 : Int32))), .second, .val (.long ((own_ux p1 (31 : Int32) (62 : Int32)) * (own_inv (-7723592293110705685 : Int64)))), .second, .val (.long (own_ux ((own_ux p1 (31 : Int32) (62 : Int32)) * (own_inv (-7723592293110705685 : Int64))) (27 : Int32) (54 : Int32))), .second, .val (.long ((own_ux ((own_ux p1 (31 : Int32) (62 : Int32)) * (own_inv (-7723592293110705685 : Int64))) (27 : Int32) (54 : Int32)) * (own_inv (-4658895280553007687 : Int64)))), .second] [(.long ((own_ux ((own_ux p1 (31 : Int32) (62 : Int32)) * (own_inv (-7723592293110705685 : Int64))) (27 : Int32) (54 : Int32)) * (own_inv (-4658895280553007687 : Int64)))), (.long (own_xs ((own_ux ((own_ux p1 (31 : Int32) (62 : Int32)) * (own_inv (-7723592293110705685 : Int64))) (27 : Int32) (54 : Int32)) * (own_inv (-4658895280553007687 : Int64))) (30 : Int32)))]))
  refine own_by (fun _ k => XS.bipush X2.here hx rfl (hb hby d4_59) k) ?_
  show own_Go p.tables e below s _ _ _ (T2.setTop (mkF m 61 #[.val (.long p1), .second, .val (.long (own_ux p1 (31 : Int32) (62 : Int32))), .second, .val (.long ((own_ux p1 (31 : Int32) (62 : Int32)) * (own_inv (-7723592293110705685 : Int64)))), .second, .val (.long (own_ux ((own_ux p1 (31 : Int32) (62 : Int32)) * (own_inv (-7723592293110705685 : Int64))) (27 : Int32) (54 : Int32))), .second, .val (.long ((own_ux ((own_ux p1 (31 : Int32) (62 : Int32)) * (own_inv (-7723592293110705685 : Int64))) (27 : Int32) (54 : Int32)) * (own_inv (-4658895280553007687 : Int64)))), .second] [(.int (60 : Int32)), (.long ((own_ux ((own_ux p1 (31 : Int32) (62 : Int32)) * (own_inv (-7723592293110705685 : Int64))) (27 : Int32) (54 : Int32)) * (own_inv (-4658895280553007687 : Int64)))), (.long (own_xs ((own_ux ((own_ux p1 (31 : Int32) (62 : Int32)) * (own_inv (-7723592293110705685 : Int64))) (27 : Int32) (54 : Int32)) * (own_inv (-4658895280553007687 : Int64))) (30 : Int32)))]))
  refine own_by (fun _ k => XS.lushr X2.here hx rfl (hb hby d4_61) rfl k) ?_
  show own_Go p.tables e below s _ _ _ (T2.setTop (mkF m 62 #[.val (.long p1), .second, .val (.long (own_ux p1 (31 : Int32) (62 : Int32))), .second, .val (.long ((own_ux p1 (31 : Int32) (62 : Int32)) * (own_inv (-7723592293110705685 : Int64)))), .second, .val (.long (own_ux ((own_ux p1 (31 : Int32) (62 : Int32)) * (own_inv (-7723592293110705685 : Int64))) (27 : Int32) (54 : Int32))), .second, .val (.long ((own_ux ((own_ux p1 (31 : Int32) (62 : Int32)) * (own_inv (-7723592293110705685 : Int64))) (27 : Int32) (54 : Int32)) * (own_inv (-4658895280553007687 : Int64)))), .second] [(.long (own_sr ((own_ux ((own_ux p1 (31 : Int32) (62 : Int32)) * (own_inv (-7723592293110705685 : Int64))) (27 : Int32) (54 : Int32)) * (own_inv (-4658895280553007687 : Int64))) (60 : Int32))), (.long (own_xs ((own_ux ((own_ux p1 (31 : Int32) (62 : Int32)) * (own_inv (-7723592293110705685 : Int64))) (27 : Int32) (54 : Int32)) * (own_inv (-4658895280553007687 : Int64))) (30 : Int32)))]))
  refine own_by (fun _ k => XS.lxor X2.here hx rfl (hb hby d4_62) rfl k) ?_
  show own_Go p.tables e below s _ _ _ (T2.setTop (mkF m 63 #[.val (.long p1), .second, .val (.long (own_ux p1 (31 : Int32) (62 : Int32))), .second, .val (.long ((own_ux p1 (31 : Int32) (62 : Int32)) * (own_inv (-7723592293110705685 : Int64)))), .second, .val (.long (own_ux ((own_ux p1 (31 : Int32) (62 : Int32)) * (own_inv (-7723592293110705685 : Int64))) (27 : Int32) (54 : Int32))), .second, .val (.long ((own_ux ((own_ux p1 (31 : Int32) (62 : Int32)) * (own_inv (-7723592293110705685 : Int64))) (27 : Int32) (54 : Int32)) * (own_inv (-4658895280553007687 : Int64)))), .second] [(.long (own_ux ((own_ux ((own_ux p1 (31 : Int32) (62 : Int32)) * (own_inv (-7723592293110705685 : Int64))) (27 : Int32) (54 : Int32)) * (own_inv (-4658895280553007687 : Int64))) (30 : Int32) (60 : Int32)))]))
  exact own_retJ X2 hx hlk Bd.returns (hb hby d4_63) (by decide) (by decide) ⟨rfl, N2, hh2⟩

theorem pf_0 : plainFor x = true := by first | exact plainFor_of_name (by first | (simp [plainName, overriddenIn]; done) | decide +kernel) | decide +kernel
theorem pd_0 : parseMethodDescriptor "(J)Z" = some ⟨[.long], some .boolean⟩ := by decide +kernel
theorem ef_0 (m : MethodId) (p1 : Int64) : entryFrame m #[(.long p1)] maxLocals = mkF m 0 #[.val (.long p1), .second, .unset, .unset, .unset, .unset, .unset, .unset, .unset] [] := by first | (simp [entryFrame, mkF, argsToLocals, Value.category, maxLocals]; done) | rfl
def Q0 (p1 : Int64) (h0 : Heap) (n0 : Nat) (v : Option Value) (h : Heap) (L : List Loc) : Prop := v = some (.int 1) ∧ Fr n0 L
set_option maxRecDepth 65536 in
set_option maxHeartbeats 40000000 in
theorem rm0 (l : Launch) (Z : State) (a0 : Array Value) (hw : ∀ d ∈ tables_1, d.before a0 Z = true) (ws : List Jvm.Cond) (p1 : Int64) (h0 : Heap) (n0 : Nat) (Z0 : n0 ≤ h0.size)  :
    own_Met l Z x code maxLocals ret ws room_1 #[(.long p1)] h0 (Q0 p1 h0 n0) := by
  refine MetFree.of_bodySF pf_0 hisR ?_
  intro p e s m args below meth c s₁ Bd hml0 hP hK
  obtain ⟨rfl, hZ, hh⟩ := hP
  have hx := Bd.exec
  have hby := Bd.bytes
  have hlk : meth.locks = false := BodyLoose.notSynchronized Bd
  have hml : c.maxLocals = 9 := hml0
  have hown : s.vm.findClass "com/example/inferlink/inferlink/SplitMix64NextLongPinLaw" = some m.cls := findClass_of_methodNamed Bd.named
  have hnm := (name_of_methodNamed Bd.named Bd.method).1
  have X0 : Stand p l e room_1 s m #[(.long p1)] below meth c s₁ [] 0 0 := Stand.of_body Bd
  have e0 : s₁.heap = h0 := by rw [← hh, Bd.state]; rfl
  have N0 := Fr.nil n0
  show own_Go p.tables e below s (Q0 p1 h0 n0) room_1.cells room_1.slots _
  refine own_by (fun _ k => castTop (ef_0 m p1) k) ?_
  show own_Go p.tables e below s _ _ _ (s₁.setTop (mkF m 0 #[.val (.long p1), .second, .unset, .unset, .unset, .unset, .unset, .unset, .unset] []))
  obtain ⟨T1, h1, X1, e1, E1, A1, D1, -, st1⟩ := newO X0 hx hZ hown (hw _ (List.mem_of_getElem? (i := 0) rfl)) (hw _ (List.mem_of_getElem? (i := 1) rfl)) (hw _ (List.mem_of_getElem? (i := 2) rfl)) e0 (g := (mkF m 0 #[.val (.long p1), .second, .unset, .unset, .unset, .unset, .unset, .unset, .unset] [])) rfl (hb hby at_0) (by decide) (by decide)
  obtain ⟨b1, g1⟩ : ∃ z, z = h0.size := ⟨_, rfl⟩
  rw [← g1] at A1 D1 st1
  have ge_b1 : n0 ≤ b1 := Nat.le_trans Z0 (Nat.le_of_eq g1.symm)
  have Z1 : n0 ≤ h1.size := Nat.le_trans Z0 E1.1
  have F1_state : Fld Z h1 b1 "com/example/inferlink/inferlink/SplitMix64" "state" "J" (.long (0 : Int64)) := D1 (Or.inl (hw _ (List.mem_of_getElem? (i := 10) rfl))) (ty := .long) (by decide)
  refine own_by st1 ?_
  show own_Go p.tables e below s _ _ _ (T1.setTop (mkF m 3 #[.val (.long p1), .second, .unset, .unset, .unset, .unset, .unset, .unset, .unset] [(.ref b1)]))
  refine own_by (fun _ k => XS.dup X1.here hx rfl (hb hby at_3) rfl rfl k) ?_
  show own_Go p.tables e below s _ _ _ (T1.setTop (mkF m 4 #[.val (.long p1), .second, .unset, .unset, .unset, .unset, .unset, .unset, .unset] [(.ref b1), (.ref b1)]))
  refine own_by (fun _ k => XS.lloadN X1.here hx rfl (hb hby at_4) rfl k) ?_
  show own_Go p.tables e below s _ _ _ (T1.setTop (mkF m 5 #[.val (.long p1), .second, .unset, .unset, .unset, .unset, .unset, .unset, .unset] [(.long p1), (.ref b1), (.ref b1)]))
  obtain ⟨v2, T2, L2, X2, q2, st2⟩ := own_callI X1 hx hZ rfl hown (hw _ (List.mem_of_getElem? (i := 3) rfl)) (hw _ (List.mem_of_getElem? (i := 4) rfl)) (hw _ (List.mem_of_getElem? (i := 2) rfl)) (hw _ (List.mem_of_getElem? (i := 5) rfl)) (by decide) (rm1 l Z a0 hw [] b1 p1 h1 n0 Z1 (0 : Int64) A1 F1_state ge_b1) (W := 1) (by decide) (by decide) e1 (g := (mkF m 5 #[.val (.long p1), .second, .unset, .unset, .unset, .unset, .unset, .unset, .unset] [(.long p1), (.ref b1), (.ref b1)])) rfl (by rw [hml]; rfl) (a := b1) (argsL := [(.long p1)]) (rest := [(.ref b1)]) (lenOf pd_1 rfl) rfl rfl (by show 2 * 0 + _ ≤ _; exact Nat.le_of_eq rfl) (hb hby at_5) (by decide) (by decide)
  obtain ⟨rfl, Nq2, Kq2, Fq2⟩ := q2
  have N2 := Fr.app N0 Nq2
  have Z2 : n0 ≤ T2.heap.size := Nat.le_trans Z1 Kq2.1
  have A1_h2 := A1.keep Kq2
  refine own_by st2 ?_
  show own_Go p.tables e below s _ _ _ (T2.setTop (mkF m 8 #[.val (.long p1), .second, .unset, .unset, .unset, .unset, .unset, .unset, .unset] [(.ref b1)]))
  refine own_by (fun _ k => XS.astoreN X2.here hx rfl (hb hby at_8) rfl rfl (l' := #[.val (.long p1), .second, .val (.ref b1), .unset, .unset, .unset, .unset, .unset, .unset]) rfl k) ?_
  show own_Go p.tables e below s _ _ _ (T2.setTop (mkF m 9 #[.val (.long p1), .second, .val (.ref b1), .unset, .unset, .unset, .unset, .unset, .unset] []))
  refine own_by (fun _ k => XS.aloadN X2.here hx rfl (hb hby at_9) rfl rfl k) ?_
  show own_Go p.tables e below s _ _ _ (T2.setTop (mkF m 10 #[.val (.long p1), .second, .val (.ref b1), .unset, .unset, .unset, .unset, .unset, .unset] [(.ref b1)]))
  obtain ⟨v3, T3, L3, X3, q3, st3⟩ := own_callV X2 hx hZ hown (hw _ (List.mem_of_getElem? (i := 11) rfl)) (hw _ (List.mem_of_getElem? (i := 12) rfl)) (hw _ (List.mem_of_getElem? (i := 14) rfl)) (hw _ (List.mem_of_getElem? (i := 13) rfl)) (hw _ (List.mem_of_getElem? (i := 2) rfl)) (hw _ (List.mem_of_getElem? (i := 15) rfl)) (by decide) (rm3 l Z a0 hw [] b1 T2.heap n0 Z2 p1 A1_h2 Fq2 ge_b1) (W := 0) (by decide) (by decide) rfl A1_h2 (g := (mkF m 10 #[.val (.long p1), .second, .val (.ref b1), .unset, .unset, .unset, .unset, .unset, .unset] [(.ref b1)])) rfl (by rw [hml]; rfl) (argsL := []) (rest := []) (lenOf pd_3 rfl) rfl rfl (by show 2 * 0 + _ ≤ _; exact Nat.le_of_eq rfl) (hb hby at_10) (by decide) (by decide)
  obtain ⟨rfl, Nq3, Kq3, Fq3⟩ := q3
  have N3 := Fr.app N2 Nq3
  have Z3 : n0 ≤ T3.heap.size := Nat.le_trans Z2 Kq3.1
  have A1_h3 := A1_h2.keep Kq3
  refine own_by st3 ?_
  show own_Go p.tables e below s _ _ _ (T3.setTop (mkF m 13 #[.val (.long p1), .second, .val (.ref b1), .unset, .unset, .unset, .unset, .unset, .unset] [(.long (own_mix (p1 + (-7046029254386353131 : Int64))))]))
  refine own_by (fun _ k => XS.lstoreN X3.here hx rfl (hb hby at_13) rfl (l' := #[.val (.long p1), .second, .val (.ref b1), .val (.long (own_mix (p1 + (-7046029254386353131 : Int64)))), .second, .unset, .unset, .unset, .unset]) rfl k) ?_
  show own_Go p.tables e below s _ _ _ (T3.setTop (mkF m 14 #[.val (.long p1), .second, .val (.ref b1), .val (.long (own_mix (p1 + (-7046029254386353131 : Int64)))), .second, .unset, .unset, .unset, .unset] []))
  refine own_by (fun _ k => XS.aloadN X3.here hx rfl (hb hby at_14) rfl rfl k) ?_
  show own_Go p.tables e below s _ _ _ (T3.setTop (mkF m 15 #[.val (.long p1), .second, .val (.ref b1), .val (.long (own_mix (p1 + (-7046029254386353131 : Int64)))), .second, .unset, .unset, .unset, .unset] [(.ref b1)]))
  obtain ⟨v4, T4, L4, X4, q4, st4⟩ := own_callV X3 hx hZ hown (hw _ (List.mem_of_getElem? (i := 11) rfl)) (hw _ (List.mem_of_getElem? (i := 12) rfl)) (hw _ (List.mem_of_getElem? (i := 14) rfl)) (hw _ (List.mem_of_getElem? (i := 13) rfl)) (hw _ (List.mem_of_getElem? (i := 2) rfl)) (hw _ (List.mem_of_getElem? (i := 15) rfl)) (by decide) (rm3 l Z a0 hw [] b1 T3.heap n0 Z3 (p1 + (-7046029254386353131 : Int64)) A1_h3 Fq3 ge_b1) (W := 0) (by decide) (by decide) rfl A1_h3 (g := (mkF m 15 #[.val (.long p1), .second, .val (.ref b1), .val (.long (own_mix (p1 + (-7046029254386353131 : Int64)))), .second, .unset, .unset, .unset, .unset] [(.ref b1)])) rfl (by rw [hml]; rfl) (argsL := []) (rest := []) (lenOf pd_3 rfl) rfl rfl (by show 2 * 0 + _ ≤ _; exact Nat.le_of_eq rfl) (hb hby at_15) (by decide) (by decide)
  obtain ⟨rfl, Nq4, Kq4, Fq4⟩ := q4
  have N4 := Fr.app N3 Nq4
  have Z4 : n0 ≤ T4.heap.size := Nat.le_trans Z3 Kq4.1
  have A1_h4 := A1_h3.keep Kq4
  refine own_by st4 ?_
  show own_Go p.tables e below s _ _ _ (T4.setTop (mkF m 18 #[.val (.long p1), .second, .val (.ref b1), .val (.long (own_mix (p1 + (-7046029254386353131 : Int64)))), .second, .unset, .unset, .unset, .unset] [(.long (own_mix ((p1 + (-7046029254386353131 : Int64)) + (-7046029254386353131 : Int64))))]))
  refine own_by (fun _ k => XS.lstore X4.here hx rfl (hb hby at_18) rfl (l' := #[.val (.long p1), .second, .val (.ref b1), .val (.long (own_mix (p1 + (-7046029254386353131 : Int64)))), .second, .val (.long (own_mix ((p1 + (-7046029254386353131 : Int64)) + (-7046029254386353131 : Int64)))), .second, .unset, .unset]) rfl k) ?_
  show own_Go p.tables e below s _ _ _ (T4.setTop (mkF m 20 #[.val (.long p1), .second, .val (.ref b1), .val (.long (own_mix (p1 + (-7046029254386353131 : Int64)))), .second, .val (.long (own_mix ((p1 + (-7046029254386353131 : Int64)) + (-7046029254386353131 : Int64)))), .second, .unset, .unset] []))
  refine own_by (fun _ k => XS.lloadN X4.here hx rfl (hb hby at_20) rfl k) ?_
  show own_Go p.tables e below s _ _ _ (T4.setTop (mkF m 21 #[.val (.long p1), .second, .val (.ref b1), .val (.long (own_mix (p1 + (-7046029254386353131 : Int64)))), .second, .val (.long (own_mix ((p1 + (-7046029254386353131 : Int64)) + (-7046029254386353131 : Int64)))), .second, .unset, .unset] [(.long (own_mix (p1 + (-7046029254386353131 : Int64))))]))
  obtain ⟨v5, T5, L5, X5, q5, st5⟩ := own_callS X4 hx hZ hown (hw _ (List.mem_of_getElem? (i := 19) rfl)) (hw _ (List.mem_of_getElem? (i := 20) rfl)) (hw _ (List.mem_of_getElem? (i := 21) rfl)) (hw _ (List.mem_of_getElem? (i := 22) rfl)) (by decide) (rm4 l Z a0 hw [] (own_mix (p1 + (-7046029254386353131 : Int64))) T4.heap n0 Z4) (W := 0) (by decide) (by decide) rfl (g := (mkF m 21 #[.val (.long p1), .second, .val (.ref b1), .val (.long (own_mix (p1 + (-7046029254386353131 : Int64)))), .second, .val (.long (own_mix ((p1 + (-7046029254386353131 : Int64)) + (-7046029254386353131 : Int64)))), .second, .unset, .unset] [(.long (own_mix (p1 + (-7046029254386353131 : Int64))))])) rfl (by rw [hml]; rfl) (argsL := [(.long (own_mix (p1 + (-7046029254386353131 : Int64))))]) (rest := []) (lenOf pd_4 rfl) rfl rfl (by show 2 * 0 + _ ≤ _; exact Nat.le_of_eq rfl) (hb hby at_21) (by decide) (by decide)
  obtain ⟨rfl, Nq5, hh5⟩ := q5
  have N5 := Fr.app N4 Nq5
  refine own_by st5 ?_
  show own_Go p.tables e below s _ _ _ (T5.setTop (mkF m 24 #[.val (.long p1), .second, .val (.ref b1), .val (.long (own_mix (p1 + (-7046029254386353131 : Int64)))), .second, .val (.long (own_mix ((p1 + (-7046029254386353131 : Int64)) + (-7046029254386353131 : Int64)))), .second, .unset, .unset] [(.long (own_unmix (own_mix (p1 + (-7046029254386353131 : Int64)))))]))
  refine own_by (fun _ k => XS.lloadN X5.here hx rfl (hb hby at_24) rfl k) ?_
  show own_Go p.tables e below s _ _ _ (T5.setTop (mkF m 25 #[.val (.long p1), .second, .val (.ref b1), .val (.long (own_mix (p1 + (-7046029254386353131 : Int64)))), .second, .val (.long (own_mix ((p1 + (-7046029254386353131 : Int64)) + (-7046029254386353131 : Int64)))), .second, .unset, .unset] [(.long p1), (.long (own_unmix (own_mix (p1 + (-7046029254386353131 : Int64)))))]))
  refine own_by (fun _ k => X5.ldc2Long hx hown (mvT hZ (hw _ (List.mem_of_getElem? (i := 29) rfl))) (g := (mkF m 25 #[.val (.long p1), .second, .val (.ref b1), .val (.long (own_mix (p1 + (-7046029254386353131 : Int64)))), .second, .val (.long (own_mix ((p1 + (-7046029254386353131 : Int64)) + (-7046029254386353131 : Int64)))), .second, .unset, .unset] [(.long p1), (.long (own_unmix (own_mix (p1 + (-7046029254386353131 : Int64)))))])) rfl (hb hby at_25) _ k) ?_
  show own_Go p.tables e below s _ _ _ (T5.setTop (mkF m 28 #[.val (.long p1), .second, .val (.ref b1), .val (.long (own_mix (p1 + (-7046029254386353131 : Int64)))), .second, .val (.long (own_mix ((p1 + (-7046029254386353131 : Int64)) + (-7046029254386353131 : Int64)))), .second, .unset, .unset] [(.long (-7046029254386353131 : Int64)), (.long p1), (.long (own_unmix (own_mix (p1 + (-7046029254386353131 : Int64)))))]))
  refine own_by (fun _ k => XS.ladd X5.here hx rfl (hb hby at_28) rfl k) ?_
  show own_Go p.tables e below s _ _ _ (T5.setTop (mkF m 29 #[.val (.long p1), .second, .val (.ref b1), .val (.long (own_mix (p1 + (-7046029254386353131 : Int64)))), .second, .val (.long (own_mix ((p1 + (-7046029254386353131 : Int64)) + (-7046029254386353131 : Int64)))), .second, .unset, .unset] [(.long (p1 + (-7046029254386353131 : Int64))), (.long (own_unmix (own_mix (p1 + (-7046029254386353131 : Int64)))))]))
  refine own_by (fun _ k => XS.lcmp X5.here hx rfl (hb hby at_29) rfl k) ?_
  show own_Go p.tables e below s _ _ _ (T5.setTop (mkF m 30 #[.val (.long p1), .second, .val (.ref b1), .val (.long (own_mix (p1 + (-7046029254386353131 : Int64)))), .second, .val (.long (own_mix ((p1 + (-7046029254386353131 : Int64)) + (-7046029254386353131 : Int64)))), .second, .unset, .unset] [(.int (lcmpW (own_unmix (own_mix (p1 + (-7046029254386353131 : Int64)))) (p1 + (-7046029254386353131 : Int64))))]))
  refine own_by (fun _ k => XS.ifNo X5.here hx rfl (hb hby at_30) rfl ((if0 _ _).trans (teq (show (lcmpW (own_unmix (own_mix (p1 + (-7046029254386353131 : Int64)))) (p1 + (-7046029254386353131 : Int64))) = (0 : Int32) from (lw_eq _ _).mpr (own_back _))).2) k) ?_
  show own_Go p.tables e below s _ _ _ (T5.setTop (mkF m 33 #[.val (.long p1), .second, .val (.ref b1), .val (.long (own_mix (p1 + (-7046029254386353131 : Int64)))), .second, .val (.long (own_mix ((p1 + (-7046029254386353131 : Int64)) + (-7046029254386353131 : Int64)))), .second, .unset, .unset] []))
  refine own_by (fun _ k => XS.iconst X5.here hx rfl (hb hby at_33) k) ?_
  show own_Go p.tables e below s _ _ _ (T5.setTop (mkF m 34 #[.val (.long p1), .second, .val (.ref b1), .val (.long (own_mix (p1 + (-7046029254386353131 : Int64)))), .second, .val (.long (own_mix ((p1 + (-7046029254386353131 : Int64)) + (-7046029254386353131 : Int64)))), .second, .unset, .unset] [(.int (1 : Int32))]))
  refine own_by (fun _ k => XS.goto X5.here hx rfl (pc0 := 34) (pc' := 38) rfl (hb hby at_34) (by decide) (by decide) k) ?_
  show own_Go p.tables e below s _ _ _ (T5.setTop (mkF m 38 #[.val (.long p1), .second, .val (.ref b1), .val (.long (own_mix (p1 + (-7046029254386353131 : Int64)))), .second, .val (.long (own_mix ((p1 + (-7046029254386353131 : Int64)) + (-7046029254386353131 : Int64)))), .second, .unset, .unset] [(.int (1 : Int32))]))
  refine own_by (fun _ k => XS.istore X5.here hx rfl (hb hby at_38) rfl (l' := #[.val (.long p1), .second, .val (.ref b1), .val (.long (own_mix (p1 + (-7046029254386353131 : Int64)))), .second, .val (.long (own_mix ((p1 + (-7046029254386353131 : Int64)) + (-7046029254386353131 : Int64)))), .second, .val (.int (1 : Int32)), .unset]) rfl k) ?_
  show own_Go p.tables e below s _ _ _ (T5.setTop (mkF m 40 #[.val (.long p1), .second, .val (.ref b1), .val (.long (own_mix (p1 + (-7046029254386353131 : Int64)))), .second, .val (.long (own_mix ((p1 + (-7046029254386353131 : Int64)) + (-7046029254386353131 : Int64)))), .second, .val (.int (1 : Int32)), .unset] []))
  refine own_by (fun _ k => XS.lload X5.here hx rfl (hb hby at_40) rfl k) ?_
  show own_Go p.tables e below s _ _ _ (T5.setTop (mkF m 42 #[.val (.long p1), .second, .val (.ref b1), .val (.long (own_mix (p1 + (-7046029254386353131 : Int64)))), .second, .val (.long (own_mix ((p1 + (-7046029254386353131 : Int64)) + (-7046029254386353131 : Int64)))), .second, .val (.int (1 : Int32)), .unset] [(.long (own_mix ((p1 + (-7046029254386353131 : Int64)) + (-7046029254386353131 : Int64))))]))
  obtain ⟨v6, T6, L6, X6, q6, st6⟩ := own_callS X5 hx hZ hown (hw _ (List.mem_of_getElem? (i := 19) rfl)) (hw _ (List.mem_of_getElem? (i := 20) rfl)) (hw _ (List.mem_of_getElem? (i := 21) rfl)) (hw _ (List.mem_of_getElem? (i := 22) rfl)) (by decide) (rm4 l Z a0 hw [] (own_mix ((p1 + (-7046029254386353131 : Int64)) + (-7046029254386353131 : Int64))) T4.heap n0 Z4) (W := 0) (by decide) (by decide) hh5 (g := (mkF m 42 #[.val (.long p1), .second, .val (.ref b1), .val (.long (own_mix (p1 + (-7046029254386353131 : Int64)))), .second, .val (.long (own_mix ((p1 + (-7046029254386353131 : Int64)) + (-7046029254386353131 : Int64)))), .second, .val (.int (1 : Int32)), .unset] [(.long (own_mix ((p1 + (-7046029254386353131 : Int64)) + (-7046029254386353131 : Int64))))])) rfl (by rw [hml]; rfl) (argsL := [(.long (own_mix ((p1 + (-7046029254386353131 : Int64)) + (-7046029254386353131 : Int64))))]) (rest := []) (lenOf pd_4 rfl) rfl rfl (by show 2 * 0 + _ ≤ _; exact Nat.le_of_eq rfl) (hb hby at_42) (by decide) (by decide)
  obtain ⟨rfl, Nq6, hh6⟩ := q6
  have N6 := Fr.app N5 Nq6
  refine own_by st6 ?_
  show own_Go p.tables e below s _ _ _ (T6.setTop (mkF m 45 #[.val (.long p1), .second, .val (.ref b1), .val (.long (own_mix (p1 + (-7046029254386353131 : Int64)))), .second, .val (.long (own_mix ((p1 + (-7046029254386353131 : Int64)) + (-7046029254386353131 : Int64)))), .second, .val (.int (1 : Int32)), .unset] [(.long (own_unmix (own_mix ((p1 + (-7046029254386353131 : Int64)) + (-7046029254386353131 : Int64)))))]))
  refine own_by (fun _ k => XS.lloadN X6.here hx rfl (hb hby at_45) rfl k) ?_
  show own_Go p.tables e below s _ _ _ (T6.setTop (mkF m 46 #[.val (.long p1), .second, .val (.ref b1), .val (.long (own_mix (p1 + (-7046029254386353131 : Int64)))), .second, .val (.long (own_mix ((p1 + (-7046029254386353131 : Int64)) + (-7046029254386353131 : Int64)))), .second, .val (.int (1 : Int32)), .unset] [(.long p1), (.long (own_unmix (own_mix ((p1 + (-7046029254386353131 : Int64)) + (-7046029254386353131 : Int64)))))]))
  refine own_by (fun _ k => X6.ldc2Long hx hown (mvT hZ (hw _ (List.mem_of_getElem? (i := 29) rfl))) (g := (mkF m 46 #[.val (.long p1), .second, .val (.ref b1), .val (.long (own_mix (p1 + (-7046029254386353131 : Int64)))), .second, .val (.long (own_mix ((p1 + (-7046029254386353131 : Int64)) + (-7046029254386353131 : Int64)))), .second, .val (.int (1 : Int32)), .unset] [(.long p1), (.long (own_unmix (own_mix ((p1 + (-7046029254386353131 : Int64)) + (-7046029254386353131 : Int64)))))])) rfl (hb hby at_46) _ k) ?_
  show own_Go p.tables e below s _ _ _ (T6.setTop (mkF m 49 #[.val (.long p1), .second, .val (.ref b1), .val (.long (own_mix (p1 + (-7046029254386353131 : Int64)))), .second, .val (.long (own_mix ((p1 + (-7046029254386353131 : Int64)) + (-7046029254386353131 : Int64)))), .second, .val (.int (1 : Int32)), .unset] [(.long (-7046029254386353131 : Int64)), (.long p1), (.long (own_unmix (own_mix ((p1 + (-7046029254386353131 : Int64)) + (-7046029254386353131 : Int64)))))]))
  refine own_by (fun _ k => XS.ladd X6.here hx rfl (hb hby at_49) rfl k) ?_
  show own_Go p.tables e below s _ _ _ (T6.setTop (mkF m 50 #[.val (.long p1), .second, .val (.ref b1), .val (.long (own_mix (p1 + (-7046029254386353131 : Int64)))), .second, .val (.long (own_mix ((p1 + (-7046029254386353131 : Int64)) + (-7046029254386353131 : Int64)))), .second, .val (.int (1 : Int32)), .unset] [(.long (p1 + (-7046029254386353131 : Int64))), (.long (own_unmix (own_mix ((p1 + (-7046029254386353131 : Int64)) + (-7046029254386353131 : Int64)))))]))
  refine own_by (fun _ k => X6.ldc2Long hx hown (mvT hZ (hw _ (List.mem_of_getElem? (i := 29) rfl))) (g := (mkF m 50 #[.val (.long p1), .second, .val (.ref b1), .val (.long (own_mix (p1 + (-7046029254386353131 : Int64)))), .second, .val (.long (own_mix ((p1 + (-7046029254386353131 : Int64)) + (-7046029254386353131 : Int64)))), .second, .val (.int (1 : Int32)), .unset] [(.long (p1 + (-7046029254386353131 : Int64))), (.long (own_unmix (own_mix ((p1 + (-7046029254386353131 : Int64)) + (-7046029254386353131 : Int64)))))])) rfl (hb hby at_50) _ k) ?_
  show own_Go p.tables e below s _ _ _ (T6.setTop (mkF m 53 #[.val (.long p1), .second, .val (.ref b1), .val (.long (own_mix (p1 + (-7046029254386353131 : Int64)))), .second, .val (.long (own_mix ((p1 + (-7046029254386353131 : Int64)) + (-7046029254386353131 : Int64)))), .second, .val (.int (1 : Int32)), .unset] [(.long (-7046029254386353131 : Int64)), (.long (p1 + (-7046029254386353131 : Int64))), (.long (own_unmix (own_mix ((p1 + (-7046029254386353131 : Int64)) + (-7046029254386353131 : Int64)))))]))
  refine own_by (fun _ k => XS.ladd X6.here hx rfl (hb hby at_53) rfl k) ?_
  show own_Go p.tables e below s _ _ _ (T6.setTop (mkF m 54 #[.val (.long p1), .second, .val (.ref b1), .val (.long (own_mix (p1 + (-7046029254386353131 : Int64)))), .second, .val (.long (own_mix ((p1 + (-7046029254386353131 : Int64)) + (-7046029254386353131 : Int64)))), .second, .val (.int (1 : Int32)), .unset] [(.long ((p1 + (-7046029254386353131 : Int64)) + (-7046029254386353131 : Int64))), (.long (own_unmix (own_mix ((p1 + (-7046029254386353131 : Int64)) + (-7046029254386353131 : Int64)))))]))
  refine own_by (fun _ k => XS.lcmp X6.here hx rfl (hb hby at_54) rfl k) ?_
  show own_Go p.tables e below s _ _ _ (T6.setTop (mkF m 55 #[.val (.long p1), .second, .val (.ref b1), .val (.long (own_mix (p1 + (-7046029254386353131 : Int64)))), .second, .val (.long (own_mix ((p1 + (-7046029254386353131 : Int64)) + (-7046029254386353131 : Int64)))), .second, .val (.int (1 : Int32)), .unset] [(.int (lcmpW (own_unmix (own_mix ((p1 + (-7046029254386353131 : Int64)) + (-7046029254386353131 : Int64)))) ((p1 + (-7046029254386353131 : Int64)) + (-7046029254386353131 : Int64))))]))
  refine own_by (fun _ k => XS.ifNo X6.here hx rfl (hb hby at_55) rfl ((if0 _ _).trans (teq (show (lcmpW (own_unmix (own_mix ((p1 + (-7046029254386353131 : Int64)) + (-7046029254386353131 : Int64)))) ((p1 + (-7046029254386353131 : Int64)) + (-7046029254386353131 : Int64))) = (0 : Int32) from (lw_eq _ _).mpr (own_back _))).2) k) ?_
  show own_Go p.tables e below s _ _ _ (T6.setTop (mkF m 58 #[.val (.long p1), .second, .val (.ref b1), .val (.long (own_mix (p1 + (-7046029254386353131 : Int64)))), .second, .val (.long (own_mix ((p1 + (-7046029254386353131 : Int64)) + (-7046029254386353131 : Int64)))), .second, .val (.int (1 : Int32)), .unset] []))
  refine own_by (fun _ k => XS.iconst X6.here hx rfl (hb hby at_58) k) ?_
  show own_Go p.tables e below s _ _ _ (T6.setTop (mkF m 59 #[.val (.long p1), .second, .val (.ref b1), .val (.long (own_mix (p1 + (-7046029254386353131 : Int64)))), .second, .val (.long (own_mix ((p1 + (-7046029254386353131 : Int64)) + (-7046029254386353131 : Int64)))), .second, .val (.int (1 : Int32)), .unset] [(.int (1 : Int32))]))
  refine own_by (fun _ k => XS.goto X6.here hx rfl (pc0 := 59) (pc' := 63) rfl (hb hby at_59) (by decide) (by decide) k) ?_
  show own_Go p.tables e below s _ _ _ (T6.setTop (mkF m 63 #[.val (.long p1), .second, .val (.ref b1), .val (.long (own_mix (p1 + (-7046029254386353131 : Int64)))), .second, .val (.long (own_mix ((p1 + (-7046029254386353131 : Int64)) + (-7046029254386353131 : Int64)))), .second, .val (.int (1 : Int32)), .unset] [(.int (1 : Int32))]))
  refine own_by (fun _ k => XS.istore X6.here hx rfl (hb hby at_63) rfl (l' := #[.val (.long p1), .second, .val (.ref b1), .val (.long (own_mix (p1 + (-7046029254386353131 : Int64)))), .second, .val (.long (own_mix ((p1 + (-7046029254386353131 : Int64)) + (-7046029254386353131 : Int64)))), .second, .val (.int (1 : Int32)), .val (.int (1 : Int32))]) rfl k) ?_
  show own_Go p.tables e below s _ _ _ (T6.setTop (mkF m 65 #[.val (.long p1), .second, .val (.ref b1), .val (.long (own_mix (p1 + (-7046029254386353131 : Int64)))), .second, .val (.long (own_mix ((p1 + (-7046029254386353131 : Int64)) + (-7046029254386353131 : Int64)))), .second, .val (.int (1 : Int32)), .val (.int (1 : Int32))] []))
  refine own_by (fun _ k => XS.iload X6.here hx rfl (hb hby at_65) rfl k) ?_
  show own_Go p.tables e below s _ _ _ (T6.setTop (mkF m 67 #[.val (.long p1), .second, .val (.ref b1), .val (.long (own_mix (p1 + (-7046029254386353131 : Int64)))), .second, .val (.long (own_mix ((p1 + (-7046029254386353131 : Int64)) + (-7046029254386353131 : Int64)))), .second, .val (.int (1 : Int32)), .val (.int (1 : Int32))] [(.int (1 : Int32))]))
  refine own_by (fun _ k => XS.ifNo X6.here hx rfl (hb hby at_67) rfl ((if0 _ _).trans (feq (by decide : ¬ ((1 : Int32) = (0 : Int32)))).1) k) ?_
  show own_Go p.tables e below s _ _ _ (T6.setTop (mkF m 70 #[.val (.long p1), .second, .val (.ref b1), .val (.long (own_mix (p1 + (-7046029254386353131 : Int64)))), .second, .val (.long (own_mix ((p1 + (-7046029254386353131 : Int64)) + (-7046029254386353131 : Int64)))), .second, .val (.int (1 : Int32)), .val (.int (1 : Int32))] []))
  refine own_by (fun _ k => XS.iload X6.here hx rfl (hb hby at_70) rfl k) ?_
  show own_Go p.tables e below s _ _ _ (T6.setTop (mkF m 72 #[.val (.long p1), .second, .val (.ref b1), .val (.long (own_mix (p1 + (-7046029254386353131 : Int64)))), .second, .val (.long (own_mix ((p1 + (-7046029254386353131 : Int64)) + (-7046029254386353131 : Int64)))), .second, .val (.int (1 : Int32)), .val (.int (1 : Int32))] [(.int (1 : Int32))]))
  refine own_by (fun _ k => XS.ifNo X6.here hx rfl (hb hby at_72) rfl ((if0 _ _).trans (feq (by decide : ¬ ((1 : Int32) = (0 : Int32)))).1) k) ?_
  show own_Go p.tables e below s _ _ _ (T6.setTop (mkF m 75 #[.val (.long p1), .second, .val (.ref b1), .val (.long (own_mix (p1 + (-7046029254386353131 : Int64)))), .second, .val (.long (own_mix ((p1 + (-7046029254386353131 : Int64)) + (-7046029254386353131 : Int64)))), .second, .val (.int (1 : Int32)), .val (.int (1 : Int32))] []))
  refine own_by (fun _ k => XS.iconst X6.here hx rfl (hb hby at_75) k) ?_
  show own_Go p.tables e below s _ _ _ (T6.setTop (mkF m 76 #[.val (.long p1), .second, .val (.ref b1), .val (.long (own_mix (p1 + (-7046029254386353131 : Int64)))), .second, .val (.long (own_mix ((p1 + (-7046029254386353131 : Int64)) + (-7046029254386353131 : Int64)))), .second, .val (.int (1 : Int32)), .val (.int (1 : Int32))] [(.int (1 : Int32))]))
  refine own_by (fun _ k => XS.goto X6.here hx rfl (pc0 := 76) (pc' := 80) rfl (hb hby at_76) (by decide) (by decide) k) ?_
  show own_Go p.tables e below s _ _ _ (T6.setTop (mkF m 80 #[.val (.long p1), .second, .val (.ref b1), .val (.long (own_mix (p1 + (-7046029254386353131 : Int64)))), .second, .val (.long (own_mix ((p1 + (-7046029254386353131 : Int64)) + (-7046029254386353131 : Int64)))), .second, .val (.int (1 : Int32)), .val (.int (1 : Int32))] [(.int (1 : Int32))]))
  exact own_retZ X6 hx hlk Bd.returns (hb hby at_80) (by decide) (by decide) ⟨rfl, N6⟩
set_option maxRecDepth 65536 in
set_option maxHeartbeats 40000000 in
theorem comes_1 {Post : Tables → Env → Array Value → State → Outcome → State → Prop} (hpost : ∀ tb e args s v u, (limb_1_1.after args s (.returned v) u = true ∧ limb_1_2.after args s (.returned v) u = true ∧ True) → FrameEnd s (.returned v) u (Jvm.fieldLocs frame_1_writes args s ++ Jvm.arrayLocs frame_1_arrays args s ++ Jvm.staticLocs frame_1_statics s) 16 128 → Post tb e args s (.returned v) u) :
    ArmFor flags0 classFile x code maxLocals ret World_1 tables_1 room_1 Calls_1 rest_1 Pre_1 Post := by
  intro l hfl _ _ p e ha hc hk s m args below hf hA hF happ hP
  obtain ⟨hcalls, hrest, hpre⟩ := hP
  obtain ⟨-, -, -, hnamed, -, -, -, hat⟩ := (Spec.applies_iff hf).mp happ
  obtain ⟨hg, hn⟩ := and_e (Cond.before_iff.mp (show (Jvm.Cond.and given_1 narrow_1).before args s = true from hpre))
  obtain ⟨hcount, hr0⟩ := and_e hg
  obtain ⟨w0, rfl⟩ : ∃ w0 : Value, args = #[w0] := by
    have hs : args.size = 1 := by simpa [Cond.value, given_1] using hcount
    obtain ⟨L⟩ := args
    match L, hs with
    | [w0], _ => exact ⟨w0, rfl⟩
  have hw := fun d (hd : d ∈ tables_1) => atoms_spec (ws := Jvm.Cond.code x code maxLocals ret :: tables_1) hat d (List.mem_cons_of_mem _ hd)
  obtain ⟨i0, ev0⟩ := isL_v hr0
  obtain rfl : w0 = (.long i0) := Option.some.inj ev0
  obtain ⟨n, o, h1, h2, h3, _, L, rfl, ⟨rfl, N⟩, hq⟩ := rm0 l s _ hw tables_1 i0 s.heap s.heap.size (Nat.le_refl _) p e ha hc hk s m _ below hf ((Spec.applies_iff_loose hf).mp happ).1 ⟨rfl, State.Warmed39.refl s, rfl⟩ trivial
  refine ⟨n, _, h1, h2, h3, hpost _ _ _ _ _ _ ⟨Cond.after_iff.mpr rfl, Cond.after_iff.mpr (eq_i res_at (Term.int_eval (1)) rfl), trivial⟩ ⟨hq.1, hq.2.1, (hq.2.2.sift fun y hy => Or.inr (N y hy)).mono (by decide) (by decide)⟩⟩
theorem main_1_1 : Claimed_1_1 := comes_1 fun _ _ _ _ _ _ h hF => ⟨h.1, hF⟩
theorem main_1_2 : Claimed_1_2 := comes_1 fun _ _ _ _ _ _ h hF => ⟨h.2.1, hF⟩
end Jvm.Pilot.@@N@@
namespace Jvm.Pilot.@@N@@
open Jvm Jvm.ClassFile Sem Op Lib Jvm.Free Jvm.Stand Jvm.Pilot.@@N@@.Jvm.D
/-! MADE BY PROGRAM (witnessworld.py) out of the Statement's table words and the real class files: 9 classes; the members and pool entries that the words name. The judged class is class 1, her method 3. -/
namespace start1
open Jvm.ClassFile
def u (s : String) : CpInfo := .utf8 (stringToUtf16 s)
/-- a pool by its gaps: so many unusable entries, then the entry; so many at the end -/
def gap : Nat → List CpInfo → List CpInfo
  | 0, r => r
  | n + 1, r => .unusable :: gap n r
def poolList (es : List (Nat × CpInfo)) (last : Nat) : List CpInfo := es.foldr (fun e r => gap e.1 (e.2 :: r)) (gap last [])
def pool (es : List (Nat × CpInfo)) (last : Nat) : Array CpInfo := ⟨poolList es last⟩
def fileOf (pool : Array CpInfo) (this : Nat) (attrs : Array Attribute := #[]) (ms : Array MethodInfo := #[]) (fl : Nat := 33) (sup : Nat := 0) (ifs : Array Nat := #[]) (fds : Array FieldInfo := #[]) : ClassFile where
  minorVersion := 0
  majorVersion := 65
  constantPool := pool
  accessFlags := fl
  thisClass := this
  superClass := sup
  interfaces := ifs
  fields := fds
  methods := ms
  attributes := attrs
def plain (name : String) (sup : Option ClassId) : Class where
  name := name
  kind := .ordinary
  loader := none
  accessFlags := 33
  super := sup
  interfaces := #[]
  cf := none
  fields := #[]
  methods := #[]
  instanceTypes := #[]
  staticTypes := #[]
  resolved := #[]
  callSites := []
  init := .initialized
  statics := none
  mirror := none

def pool0 : Array CpInfo := pool [(5, u "<init>"), (0, u "()V"), (1, .class_ 10), (1, u "java/lang/Object")] 113

def k0c0 : Code := { maxStack := 0, maxLocals := 1, code := object_method_1_code, exceptionTable := #[], attributes := #[] }
def k0m0 : Method := { name := "<init>", desc := "()V", sig := { parameters := [], returnType := none }, accessFlags := 1, code := some k0c0 }
/-- java/lang/Object -/
def k0 : Class := { plain "java/lang/Object" none with
  accessFlags := 33
  interfaces := #[]
  cf := some (fileOf pool0 8 #[] #[{ accessFlags := 1, nameIndex := 5, descriptorIndex := 6, attributes := #[] }] 33 0 #[] #[])
  fields := #[]
  methods := #[k0m0]
  instanceTypes := #[]
  staticTypes := #[]
  resolved := Array.replicate 124 none
  statics := none }

def pool1 : Array CpInfo := pool [(2, .class_ 4), (1, u "java/lang/Object"), (0, u "<init>"), (0, u "()V"), (0, .long 2), (1, .class_ 10), (0, u "com/example/inferlink/inferlink/SplitMix64NextLongPinLaw"), (0, .long 10723151780598845931), (1, .methodref 9 14), (0, .nameAndType 15 16), (0, u "inverse"), (0, u "(J)J"), (0, .long 13787848793156543929), (1, .class_ 20), (0, u "com/example/inferlink/inferlink/SplitMix64"), (0, .methodref 19 22), (0, .nameAndType 5 23), (0, u "(J)V"), (0, .methodref 19 25), (0, .nameAndType 26 27), (0, u "nextLong"), (0, u "()J"), (0, .methodref 9 29), (0, .nameAndType 30 16), (0, u "unmix"), (0, .long 11400714819323198485), (1, u "STEP"), (0, u "J"), (1, u "C1"), (0, u "C2"), (2, u "law"), (0, u "(J)Z")] 3

def k1m0 : Method := { name := "<init>", desc := "()V", sig := { parameters := [], returnType := none }, accessFlags := 2, code := none }
def k1c1 : Code := { maxStack := 8, maxLocals := 4, code := method_2_code, exceptionTable := #[], attributes := #[] }
def k1m1 : Method := { name := "inverse", desc := "(J)J", sig := { parameters := [.long], returnType := some .long }, accessFlags := 10, code := some k1c1 }
def k1c2 : Code := { maxStack := 5, maxLocals := 10, code := method_3_code, exceptionTable := #[], attributes := #[] }
def k1m2 : Method := { name := "unmix", desc := "(J)J", sig := { parameters := [.long], returnType := some .long }, accessFlags := 10, code := some k1c2 }
def k1c3 : Code := { maxStack := 6, maxLocals := 9, code := code, exceptionTable := #[], attributes := #[] }
def k1m3 : Method := { name := "law", desc := "(J)Z", sig := { parameters := [.long], returnType := some .boolean }, accessFlags := 9, code := some k1c3 }
/-- com/example/inferlink/inferlink/SplitMix64NextLongPinLaw -/
def k1 : Class := { plain "com/example/inferlink/inferlink/SplitMix64NextLongPinLaw" (some 0) with
  accessFlags := 49
  interfaces := #[]
  cf := some (fileOf pool1 9 #[] #[{ accessFlags := 2, nameIndex := 5, descriptorIndex := 6, attributes := #[] }, { accessFlags := 10, nameIndex := 15, descriptorIndex := 16, attributes := #[] }, { accessFlags := 10, nameIndex := 30, descriptorIndex := 16, attributes := #[] }, { accessFlags := 9, nameIndex := 40, descriptorIndex := 41, attributes := #[] }] 49 2 #[] #[{ accessFlags := 26, nameIndex := 33, descriptorIndex := 34, attributes := #[] }, { accessFlags := 26, nameIndex := 36, descriptorIndex := 34, attributes := #[] }, { accessFlags := 26, nameIndex := 37, descriptorIndex := 34, attributes := #[] }])
  fields := #[{ name := "STEP", type := .long, accessFlags := 26, slot := 0, constantValue := 0 }, { name := "C1", type := .long, accessFlags := 26, slot := 1, constantValue := 0 }, { name := "C2", type := .long, accessFlags := 26, slot := 2, constantValue := 0 }]
  methods := #[k1m0, k1m1, k1m2, k1m3]
  instanceTypes := #[]
  staticTypes := #[.long, .long, .long]
  resolved := Array.replicate 45 none
  statics := none }

def pool2 : Array CpInfo := pool [(1, .methodref 2 3), (0, .class_ 4), (0, .nameAndType 5 6), (0, u "java/lang/Object"), (0, u "<init>"), (0, u "()V"), (0, .fieldref 8 9), (0, .class_ 10), (0, .nameAndType 11 12), (0, u "com/example/inferlink/inferlink/SplitMix64"), (0, u "state"), (0, u "J"), (0, .long 11400714819323198485), (1, .long 13787848793156543929), (1, .long 10723151780598845931), (3, u "nextLong"), (0, u "()J"), (2, u "STEP"), (1, u "UNIT"), (0, u "D"), (0, u "(J)V")] 6

def k2c0 : Code := { maxStack := 3, maxLocals := 3, code := prog_28_method_1_code, exceptionTable := #[], attributes := #[] }
def k2m0 : Method := { name := "<init>", desc := "(J)V", sig := { parameters := [.long], returnType := none }, accessFlags := 0, code := some k2c0 }
def k2c1 : Code := { maxStack := 5, maxLocals := 3, code := prog_28_method_2_code, exceptionTable := #[], attributes := #[] }
def k2m1 : Method := { name := "nextLong", desc := "()J", sig := { parameters := [], returnType := some .long }, accessFlags := 0, code := some k2c1 }
/-- com/example/inferlink/inferlink/SplitMix64 -/
def k2 : Class := { plain "com/example/inferlink/inferlink/SplitMix64" (some 0) with
  accessFlags := 48
  interfaces := #[]
  cf := some (fileOf pool2 8 #[] #[{ accessFlags := 0, nameIndex := 5, descriptorIndex := 29, attributes := #[] }, { accessFlags := 0, nameIndex := 21, descriptorIndex := 22, attributes := #[] }] 48 2 #[] #[{ accessFlags := 26, nameIndex := 25, descriptorIndex := 12, attributes := #[] }, { accessFlags := 26, nameIndex := 27, descriptorIndex := 28, attributes := #[] }, { accessFlags := 2, nameIndex := 11, descriptorIndex := 12, attributes := #[] }])
  fields := #[{ name := "STEP", type := .long, accessFlags := 26, slot := 0, constantValue := 0 }, { name := "UNIT", type := .double, accessFlags := 26, slot := 1, constantValue := 0 }, { name := "state", type := .long, accessFlags := 2, slot := 0, constantValue := 0 }]
  methods := #[k2m0, k2m1]
  instanceTypes := #[.long]
  staticTypes := #[.long, .double]
  resolved := Array.replicate 36 none
  statics := none }

def pool3 : Array CpInfo := pool [(1, u "java/lang/Cloneable"), (0, .class_ 1), (0, u "java/lang/Object"), (0, .class_ 3)] 3

/-- java/lang/Cloneable -/
def k3 : Class := { plain "java/lang/Cloneable" (some 0) with
  accessFlags := 1537
  interfaces := #[]
  cf := some (fileOf pool3 2 #[] #[] 1537 4 #[] #[])
  fields := #[]
  methods := #[]
  instanceTypes := #[]
  staticTypes := #[]
  resolved := Array.replicate 8 none
  statics := none }

def pool4 : Array CpInfo := pool [(1, u "java/io/Serializable"), (0, .class_ 1), (0, u "java/lang/Object"), (0, .class_ 3)] 3

/-- java/io/Serializable -/
def k4 : Class := { plain "java/io/Serializable" (some 0) with
  accessFlags := 1537
  interfaces := #[]
  cf := some (fileOf pool4 2 #[] #[] 1537 4 #[] #[])
  fields := #[]
  methods := #[]
  instanceTypes := #[]
  staticTypes := #[]
  resolved := Array.replicate 8 none
  statics := none }

/-- the primitive byte -/
def k5 : Class := { plain "byte" none with kind := .primitive 'B', accessFlags := 0x411 }
/-- [B -/
def k6 : Class := { plain "[B" (some 0) with kind := .array 5 .byte, interfaces := #[3, 4], accessFlags := 1041 }

/-- the primitive int -/
def k7 : Class := { plain "int" none with kind := .primitive 'I', accessFlags := 0x411 }
/-- [I -/
def k8 : Class := { plain "[I" (some 0) with kind := .array 7 .int, interfaces := #[3, 4], accessFlags := 1041 }

def heap : Heap := #[]
def classes : Array Class := #[k0, k1, k2, k3, k4, k5, k6, k7, k8]
def interned : List (Array UInt16 × Addr) := []
def slotsUsed : Nat := 0
def theMethod : MethodId := ⟨1, 3⟩
def args0 : Array Value := #[.long 5]
def aboutOver (below : List Frame) : State where
  vm := { classes := classes, interned := interned.toArray }
  heap := heap
  slotsUsed := slotsUsed
  threads := #[{ frames := .invoking theMethod args0 :: below }]
def below0 : List Frame := [.native { method := ⟨0, 0⟩, args := #[] }]
def about1 : State := aboutOver below0
def p0 : Program := .bare "" "" ""
def e0 : Env := launch0.env 0 0 0
theorem w_frames : about1.frames = Frame.invoking theMethod args0 :: below0 := rfl
set_option maxRecDepth 65536 in
theorem w_args : argsFit about1.vm theMethod args0 = true := by decide +kernel
set_option maxRecDepth 65536 in
theorem w_heap : heapFits about1 = true := by decide +kernel
set_option maxRecDepth 65536 in
theorem w_runnable : about1.curStatus? = some .runnable := by decide +kernel
set_option maxRecDepth 65536 in
theorem w_alone : about1.alone = true := by decide +kernel
set_option maxRecDepth 65536 in
theorem w_named : about1.methodNamed? x = some theMethod := by decide +kernel
set_option maxRecDepth 65536 in
theorem w_hears : about1.hears theMethod below0 = true := by decide +kernel
set_option maxRecDepth 65536 in
theorem w_ripe : about1.ripe theMethod args0 below0 = true := by decide +kernel
theorem w_running : about1.status = .running := rfl
set_option maxRecDepth 65536 in
theorem w_room : about1.hasRoom e0.platform room_1 = true :=
  launch0.hasRoom_least _ room_1 (by decide +kernel) (by decide +kernel) (by decide +kernel) (by decide +kernel) (by decide +kernel) (by decide +kernel)
theorem allAtoms_all (ts : List Jvm.Cond) (a : Array Jvm.Value) (st : Jvm.State) : (allAtoms ts).before a st = ts.all (fun c => c.before a st) := by
  induction ts with
  | nil => rfl
  | cons c t ih =>
    show (Jvm.Cond.and c (allAtoms t)).before a st = _
    rw [Jvm.Cond.before_and, ih, List.all_cons]
def words1 : List Jvm.Cond := Jvm.Cond.code x code maxLocals ret :: tables_1
/-- a 'code' word, met by the world's own term for the bytes: nothing is compared byte by byte -/
theorem code_word {y : MethodName} {bytes : ByteArray} {mx : Nat} {rt : Option FieldType} {a : Array Value} {s : State} {m : MethodId} {meth : Method} {c : Code} (h1 : s.methodNamed? y = some m) (h2 : s.vm.method? m = some meth) (h3 : meth.code = some c) (h4 : c.code = bytes)
    (h5 : (c.maxLocals == mx && c.exceptionTable.isEmpty && decide (c.maxStack ≤ mostOperands) && decide (meth.sig.returnType = rt) && !meth.locks && decide (parseMethodDescriptor y.desc = some meth.sig)) = true) : (Jvm.Cond.code y bytes mx rt).before a s = true := by
  simp only [Bool.and_eq_true, beq_iff_eq, Bool.not_eq_true', decide_eq_true_eq] at h5
  obtain ⟨⟨⟨⟨⟨g1, g2⟩, g3⟩, g4⟩, g5⟩, g6⟩ := h5
  simp [Cond.before, Cond.holds, Cond.value, h1, h2, h3, h4, g1, g2, g3, g4, g5, g6]
def isCode : Jvm.Cond → Bool
  | .code _ _ _ _ => true
  | _ => false
theorem all_split {L : List Jvm.Cond} {P : Jvm.Cond → Bool} (h1 : L.all (fun c => isCode c || P c) = true) (h2 : ∀ c ∈ L.filter isCode, P c = true) : L.all P = true := by
  refine List.all_eq_true.mpr fun c hc => ?_
  have h := List.all_eq_true.mp h1 c hc
  rcases Bool.eq_false_or_eq_true (isCode c) with hi | hi
  · exact h2 c (List.mem_filter.mpr ⟨hc, hi⟩)
  · simpa [hi] using h
set_option maxRecDepth 65536 in
theorem w_c0 : (Jvm.Cond.code x code maxLocals ret).before args0 about1 = true := code_word (m := ⟨1, 3⟩) (meth := k1m3) (c := k1c3) (by decide +kernel) rfl rfl rfl (by decide +kernel)
set_option maxRecDepth 65536 in
theorem w_c1 : (Jvm.Cond.code ({ cls := "com/example/inferlink/inferlink/SplitMix64", name := "<init>", desc := "(J)V" } : Jvm.MethodName) prog_28_method_1_code (3 : Nat) (Option.none : Option Jvm.ClassFile.FieldType)).before args0 about1 = true := code_word (m := ⟨2, 0⟩) (meth := k2m0) (c := k2c0) (by decide +kernel) rfl rfl rfl (by decide +kernel)
set_option maxRecDepth 65536 in
theorem w_c2 : (Jvm.Cond.code ({ cls := "java/lang/Object", name := "<init>", desc := "()V" } : Jvm.MethodName) object_method_1_code (1 : Nat) (Option.none : Option Jvm.ClassFile.FieldType)).before args0 about1 = true := code_word (m := ⟨0, 0⟩) (meth := k0m0) (c := k0c0) (by decide +kernel) rfl rfl rfl (by decide +kernel)
set_option maxRecDepth 65536 in
theorem w_c3 : (Jvm.Cond.code ({ cls := "com/example/inferlink/inferlink/SplitMix64", name := "nextLong", desc := "()J" } : Jvm.MethodName) prog_28_method_2_code (3 : Nat) (Option.some Jvm.ClassFile.FieldType.long)).before args0 about1 = true := code_word (m := ⟨2, 1⟩) (meth := k2m1) (c := k2c1) (by decide +kernel) rfl rfl rfl (by decide +kernel)
set_option maxRecDepth 65536 in
theorem w_c4 : (Jvm.Cond.code ({ cls := "com/example/inferlink/inferlink/SplitMix64NextLongPinLaw", name := "unmix", desc := "(J)J" } : Jvm.MethodName) method_3_code (10 : Nat) (Option.some Jvm.ClassFile.FieldType.long)).before args0 about1 = true := code_word (m := ⟨1, 2⟩) (meth := k1m2) (c := k1c2) (by decide +kernel) rfl rfl rfl (by decide +kernel)
set_option maxRecDepth 65536 in
theorem w_c5 : (Jvm.Cond.code ({ cls := "com/example/inferlink/inferlink/SplitMix64NextLongPinLaw", name := "inverse", desc := "(J)J" } : Jvm.MethodName) method_2_code (4 : Nat) (Option.some Jvm.ClassFile.FieldType.long)).before args0 about1 = true := code_word (m := ⟨1, 1⟩) (meth := k1m1) (c := k1c1) (by decide +kernel) rfl rfl rfl (by decide +kernel)
def codes1 : List Jvm.Cond := [Jvm.Cond.code x code maxLocals ret, Jvm.Cond.code ({ cls := "com/example/inferlink/inferlink/SplitMix64", name := "<init>", desc := "(J)V" } : Jvm.MethodName) prog_28_method_1_code (3 : Nat) (Option.none : Option Jvm.ClassFile.FieldType), Jvm.Cond.code ({ cls := "java/lang/Object", name := "<init>", desc := "()V" } : Jvm.MethodName) object_method_1_code (1 : Nat) (Option.none : Option Jvm.ClassFile.FieldType), Jvm.Cond.code ({ cls := "com/example/inferlink/inferlink/SplitMix64", name := "nextLong", desc := "()J" } : Jvm.MethodName) prog_28_method_2_code (3 : Nat) (Option.some Jvm.ClassFile.FieldType.long), Jvm.Cond.code ({ cls := "com/example/inferlink/inferlink/SplitMix64NextLongPinLaw", name := "unmix", desc := "(J)J" } : Jvm.MethodName) method_3_code (10 : Nat) (Option.some Jvm.ClassFile.FieldType.long), Jvm.Cond.code ({ cls := "com/example/inferlink/inferlink/SplitMix64NextLongPinLaw", name := "inverse", desc := "(J)J" } : Jvm.MethodName) method_2_code (4 : Nat) (Option.some Jvm.ClassFile.FieldType.long)]
set_option maxRecDepth 65536 in
theorem codes_eq : words1.filter isCode = codes1 := rfl
theorem w_codes : ∀ c ∈ words1.filter isCode, c.before args0 about1 = true := by
  rw [codes_eq]
  intro c hc
  simp only [codes1, List.mem_cons, List.not_mem_nil, or_false] at hc
  rcases hc with rfl | rfl | rfl | rfl | rfl | rfl
  · exact w_c0
  · exact w_c1
  · exact w_c2
  · exact w_c3
  · exact w_c4
  · exact w_c5
set_option maxRecDepth 65536 in
theorem w_t1 : (words1.take 24).all (fun c => isCode c || c.before args0 about1) = true := by decide +kernel
set_option maxRecDepth 65536 in
theorem w_t2 : (words1.drop 24).all (fun c => isCode c || c.before args0 about1) = true := by decide +kernel
theorem w_tables : (allAtoms (Jvm.Cond.code x code maxLocals ret :: tables_1)).before args0 about1 = true := by
  rw [allAtoms_all]
  show words1.all (fun c => c.before args0 about1) = true
  refine all_split ?_ w_codes
  rw [← List.take_append_drop 24 words1, List.all_append, w_t1, w_t2]
  rfl
set_option maxRecDepth 65536 in
theorem w_case : (Jvm.Cond.and given_1 narrow_1).before args0 about1 = true := by decide +kernel
theorem w_applies : (headSpec (Jvm.Cond.code x code maxLocals ret :: tables_1) room_1).applies x e0.platform about1 = true :=
  (Spec.applies_iff w_frames).mpr ⟨w_running, w_runnable, w_alone, w_named, w_hears, w_ripe, w_room, w_tables⟩
theorem atStart : AtStart classFile x code maxLocals ret World_1 tables_1 room_1 Calls_1 rest_1 Pre_1 launch0 p0 e0 about1 theMethod args0 below0 :=
  ⟨lists_1, trivial, launch0.admits_env _ _ _, launch0.least_env, fairChoices_fair.cas, fairChoices_fair.clock, w_frames, w_args, w_heap, w_applies, trivial, trivial, w_case⟩
end start1
theorem witness_1 : WitnessClaimed_1 := ⟨start1.p0, start1.e0, start1.about1, start1.theMethod, start1.args0, start1.below0, start1.atStart⟩
end Jvm.Pilot.@@N@@
