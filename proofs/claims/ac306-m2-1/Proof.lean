import JvmDerived
import JvmDerived.Pilot.@@N@@Statement
import JvmDerived.Pilot.@@N@@Code
set_option linter.unusedVariables false
set_option linter.unusedSimpArgs false
namespace Jvm.Pilot.@@N@@
open Jvm Jvm.ClassFile Sem Op Lib Jvm.Free Jvm.Stand Jvm.LawKit Jvm.RoadKit Bundle Jvm.Pilot.@@N@@.Jvm.D
/-- Java's >>> on longs and on ints -/
def own_sr (x : Int64) (k : Int32) : Int64 := ((x.toUInt64 >>> (k &&& 0x3f).toInt64.toUInt64).toInt64)
def own_sri (x : Int32) (k : Int32) : Int32 := ((x.toUInt32 >>> (k &&& 31).toUInt32).toInt32)
section Own
variable {p : Program} {l : Launch} {e : Env} {R : Room} {s : State} {m : MethodId} {args : Array Value} {below : List Frame} {meth : Method} {c : Code} {T : State} {locs : List Loc} {cells slots : Nat} {Z : State} {a0 : Array Value} {h : Heap} {Q : Option Value → Heap → List Loc → Prop} {kc kn : Nat}
/-- from the state A the body comes to an end that answers Q -/
def own_Go (tb : Tables) (e : Env) (below : List Frame) (s : State) (Q : Option Value → Heap → List Loc → Prop) (kc kn : Nat) (A : State) : Prop :=
  ∃ s₂ o, Steps tb e below A s₂ ∧ s₂.status = .running ∧ Ended s₂ below o ∧ ∃ v L, o = .returned v ∧ Q v s₂.heap L ∧ FrameEnd s o s₂ L kc kn
theorem own_by {tb : Tables} {A B : State} (g : ∀ t, Steps tb e below B t → Steps tb e below A t) (k : own_Go tb e below s Q kc kn B) : own_Go tb e below s Q kc kn A := by
  obtain ⟨s₂, o, h1, r⟩ := k
  exact ⟨s₂, o, g s₂ h1, r⟩
theorem own_end (X : Stand p l e R s m args below meth c T locs cells slots) {v : Option Value} (hv : meth.sig.returnType = none → v = none) (hlocks : meth.locks = false) {A : State}
    (hA : ∀ fs : List Frame, (∀ (f : JFrame) (acts : List Action), f.method = m → f.locked = none → f.entered = [] → (doReturn e (T.setTop f) acts v).1 = T.setFrames fs) → Steps p.tables e below A (T.setFrames fs)) (hk : cells ≤ kc) (hn : slots ≤ kn) (hQ : Q v T.heap locs) : own_Go p.tables e below s Q kc kn A := by
  obtain ⟨fs, hr, hrun, hended, hW, hsame⟩ := X.leave hv hlocks
  exact ⟨_, _, hA fs hr, hrun, hended, _, _, rfl, hQ, ⟨_, rfl⟩, hW, hsame.mono hk hn⟩
theorem own_retZ (X : Stand p l e R s m args below meth c T locs cells slots) (hx : p.tables.exec = Jvm.exec) (hlocks : meth.locks = false) (hret : meth.sig.returnType = some .boolean) {pc : Nat} {Ls : Array Slot} {z : Int32} {rest : List Value} (hd : decode c.code pc = .ok (.ireturn, 1)) (hk : cells ≤ kc) (hn : slots ≤ kn) (hQ : Q (some (.int (z &&& 1))) T.heap locs) : own_Go p.tables e below s Q kc kn (T.setTop (mkF m pc Ls (.int z :: rest))) :=
  own_end X (v := some (.int (z &&& 1))) (fun q => by rw [hret] at q; cases q) hlocks (fun fs hr => retN X hx (t := .boolean) hret (by simp) hd hr) hk hn hQ
theorem own_retI (X : Stand p l e R s m args below meth c T locs cells slots) (hx : p.tables.exec = Jvm.exec) (hlocks : meth.locks = false) (hret : meth.sig.returnType = some .int) {pc : Nat} {Ls : Array Slot} {z : Int32} {rest : List Value} (hd : decode c.code pc = .ok (.ireturn, 1)) (hk : cells ≤ kc) (hn : slots ≤ kn) (hQ : Q (some (.int z)) T.heap locs) : own_Go p.tables e below s Q kc kn (T.setTop (mkF m pc Ls (.int z :: rest))) :=
  own_end X (v := some (.int z)) (fun q => by rw [hret] at q; cases q) hlocks (fun fs hr => retOut X hx hret rfl (Or.inl ⟨rfl, Or.inl rfl, z, rfl⟩) hd hr) hk hn hQ
theorem own_retJ (X : Stand p l e R s m args below meth c T locs cells slots) (hx : p.tables.exec = Jvm.exec) (hlocks : meth.locks = false) (hret : meth.sig.returnType = some .long) {pc : Nat} {Ls : Array Slot} {z : Int64} {rest : List Value} (hd : decode c.code pc = .ok (.lreturn, 1)) (hk : cells ≤ kc) (hn : slots ≤ kn) (hQ : Q (some (.long z)) T.heap locs) : own_Go p.tables e below s Q kc kn (T.setTop (mkF m pc Ls (.long z :: rest))) :=
  own_end X (v := some (.long z)) (fun q => by rw [hret] at q; cases q) hlocks (fun fs hr => retOut X hx hret rfl (Or.inr (Or.inl ⟨rfl, rfl, z, rfl⟩)) hd hr) hk hn hQ
theorem own_retA (X : Stand p l e R s m args below meth c T locs cells slots) (hx : p.tables.exec = Jvm.exec) (hlocks : meth.locks = false) {t : FieldType} (hret : meth.sig.returnType = some t) (ht : t.isReference = true) {pc : Nat} {Ls : Array Slot} {a : Addr} {rest : List Value} (hd : decode c.code pc = .ok (.areturn, 1)) (hk : cells ≤ kc) (hn : slots ≤ kn) (hQ : Q (some (.ref a)) T.heap locs) : own_Go p.tables e below s Q kc kn (T.setTop (mkF m pc Ls (.ref a :: rest))) :=
  own_end X (v := some (.ref a)) (fun q => by rw [hret] at q; cases q) hlocks (fun fs hr => retOut X hx hret (by cases t <;> first | rfl | cases ht) (Or.inr (Or.inr (Or.inr (Or.inr ⟨rfl, ht, rfl⟩)))) hd hr) hk hn hQ
theorem own_retD (X : Stand p l e R s m args below meth c T locs cells slots) (hx : p.tables.exec = Jvm.exec) (hlocks : meth.locks = false) (hret : meth.sig.returnType = some .double) {pc : Nat} {Ls : Array Slot} {z : UInt64} {rest : List Value} (hd : decode c.code pc = .ok (.dreturn, 1)) (hk : cells ≤ kc) (hn : slots ≤ kn) (hQ : Q (some (.double z)) T.heap locs) : own_Go p.tables e below s Q kc kn (T.setTop (mkF m pc Ls (.double z :: rest))) :=
  own_end X (v := some (.double z)) (fun q => by rw [hret] at q; cases q) hlocks (fun fs hr => retOut X hx hret rfl (Or.inr (Or.inr (Or.inl ⟨rfl, rfl, z, rfl⟩))) hd hr) hk hn hQ
theorem own_retV (X : Stand p l e R s m args below meth c T locs cells slots) (hx : p.tables.exec = Jvm.exec) (hlocks : meth.locks = false) (hret : meth.sig.returnType = none) {pc : Nat} {Ls : Array Slot} (hd : decode c.code pc = .ok (.return_, 1)) (hk : cells ≤ kc) (hn : slots ≤ kn) (hQ : Q none T.heap locs) : own_Go p.tables e below s Q kc kn (T.setTop (mkF m pc Ls [])) :=
  own_end X (v := none) (fun _ => rfl) hlocks (fun fs hr => X.returnOut hx hret hd hr) hk hn hQ
/-- what a body of this text answers: from these arguments, at this heap -/
abbrev own_Met (l : Launch) (Z : State) (y : MethodName) (bytes : ByteArray) (maxL : Nat) (ret : Option FieldType) (ws : List Jvm.Cond) (rm : Room) (as' : Array Value) (h0 : Heap) (Q : Option Value → Heap → List Loc → Prop) : Prop :=
  MetFree l y (head1 (Jvm.Cond.code y bytes maxL ret :: ws) rm) (fun a U => a = as' ∧ Z.Warmed39 U.vm ∧ U.heap = h0) (fun _ _ _ _ _ => True) (fun _ U o U' => ∃ v L, o = .returned v ∧ Q v U'.heap L ∧ FrameEnd U o U' L rm.cells rm.slots)
theorem own_callS (X : Stand p l e R s m args below meth c T locs cells slots) (hx : p.tables.exec = Jvm.exec) (hZ : Z.Warmed39 s.vm) {own : String} {index : Nat} {y : MethodName} {bytes : ByteArray} {maxL : Nat} {ret : Option FieldType} {rm : Room} {as' : Array Value}
    (hown : s.vm.findClass own = some m.cls) (w1 : (Jvm.Cond.methodLink own index y).before a0 Z = true) (w2 : (Jvm.Cond.static y).before a0 Z = true) (w3 : (Jvm.Cond.initialized y.cls).before a0 Z = true) (w4 : (Jvm.Cond.code y bytes maxL ret).before a0 Z = true)
    (hy : y.cls ≠ "java/lang/invoke/MethodHandle" ∧ y.cls ≠ "java/lang/invoke/VarHandle") (hM : own_Met l Z y bytes maxL ret [] rm as' h Q) {W : Nat} (hf : rm.frames + 1 ≤ R.frames) (hl : W + (maxL + 11) + rm.locals ≤ R.locals) (eT : T.heap = h)
    {g : JFrame} (hg : g.method = m) (hsize : g.locals.size = c.maxLocals) {argsL rest : List Value} (hlen : ∀ sig, parseMethodDescriptor y.desc = some sig → argsL.length = sig.parameters.length) (hstack : g.stack = argsL.reverse ++ rest) (has : argsL.toArray = as')
    (hW : 2 * g.monitorRoom + (rest.map fun v => v.category).sum ≤ W) (hdg : decode c.code g.pc = .ok (.invokestatic index, 3)) (hc : cells + rm.cells ≤ R.cells) (hn : slots + rm.slots ≤ R.slots) :
    ∃ (v : Option Value) (T' : State) (L : List Loc), Stand p l e R s m args below meth c T' (locs ++ L) (cells + rm.cells) (slots + rm.slots) ∧ Q v T'.heap L ∧ ∀ t, Steps p.tables e below (T'.setTop { g with pc := g.pc + 3, stack := v.toList ++ rest }) t → Steps p.tables e below (T.setTop g) t := by
  subst eT
  obtain ⟨v, vm₁, ⟨T', L', k', n'⟩, -, X', ⟨Lc, hQ, l1, y1, z1⟩, st⟩ := Jvm.LawKit.callS X hx (y := y) hown (mvT hZ w1) (mvT hZ w2) (mvT hZ w3) (mvT hZ w4) hy (backOf (W := W) hM hZ w4 w3 hf hl) hg hsize (argsL := argsL) (rest := rest) hlen hstack hW hdg (fun _ _ => ⟨has, rfl, hc, hn⟩)
  dsimp only [Pt.U, Pt.locs, Pt.cells, Pt.slots] at X' l1 y1 z1 st hQ
  subst l1 y1 z1
  exact ⟨v, T', Lc, X', hQ, st⟩
theorem own_callI (X : Stand p l e R s m args below meth c T locs cells slots) (hx : p.tables.exec = Jvm.exec) (hZ : Z.Warmed39 s.vm) {own : String} {index : Nat} {y : MethodName} {bytes : ByteArray} {maxL : Nat} {rm : Room} {as' : Array Value} (hy1 : y.name = "<init>")
    (hown : s.vm.findClass own = some m.cls) (w1 : (Jvm.Cond.methodLink own index y).before a0 Z = true) (w2 : (Jvm.Cond.instanceMethod y).before a0 Z = true) (w3 : (Jvm.Cond.initialized y.cls).before a0 Z = true) (w4 : (Jvm.Cond.code y bytes maxL none).before a0 Z = true)
    (hy : y.cls ≠ "java/lang/invoke/MethodHandle" ∧ y.cls ≠ "java/lang/invoke/VarHandle") (hM : own_Met l Z y bytes maxL none [] rm as' h Q) {W : Nat} (hf : rm.frames + 1 ≤ R.frames) (hl : W + (maxL + 11) + rm.locals ≤ R.locals) (eT : T.heap = h)
    {g : JFrame} (hg : g.method = m) (hsize : g.locals.size = c.maxLocals) {a : Addr} {argsL rest : List Value} (hlen : ∀ sig, parseMethodDescriptor y.desc = some sig → argsL.length = sig.parameters.length) (hstack : g.stack = argsL.reverse ++ .ref a :: rest) (has : (Value.ref a :: argsL).toArray = as')
    (hW : 2 * g.monitorRoom + (rest.map fun v => v.category).sum ≤ W) (hdg : decode c.code g.pc = .ok (.invokespecial index, 3)) (hc : cells + rm.cells ≤ R.cells) (hn : slots + rm.slots ≤ R.slots) :
    ∃ (v : Option Value) (T' : State) (L : List Loc), Stand p l e R s m args below meth c T' (locs ++ L) (cells + rm.cells) (slots + rm.slots) ∧ Q v T'.heap L ∧ ∀ t, Steps p.tables e below (T'.setTop { g with pc := g.pc + 3, stack := v.toList ++ rest }) t → Steps p.tables e below (T.setTop g) t := by
  subst eT
  obtain ⟨v, vm₁, ⟨T', L', k', n'⟩, -, X', ⟨Lc, hQ, l1, y1, z1⟩, st⟩ := X.specialBack hx (y := y) hy1 hown (mvT hZ w1) (mvT hZ w2) (mvT hZ w4) hy (backOf (W := W) hM hZ w4 w3 hf hl) hg hsize (Steps.refl _) (a := a) (argsL := argsL) (rest := rest) hlen hstack hW hdg (fun _ _ => ⟨has, rfl, hc, hn⟩)
  dsimp only [Pt.U, Pt.locs, Pt.cells, Pt.slots] at X' l1 y1 z1 st hQ
  subst l1 y1 z1
  exact ⟨v, T', Lc, X', hQ, fun t k => st.trans k⟩
theorem own_callV (X : Stand p l e R s m args below meth c T locs cells slots) (hx : p.tables.exec = Jvm.exec) (hZ : Z.Warmed39 s.vm) {own : String} {index : Nat} {y : MethodName} {bytes : ByteArray} {maxL : Nat} {ret : Option FieldType} {rm : Room} {as' : Array Value}
    (hown : s.vm.findClass own = some m.cls) (w1 : (Jvm.Cond.methodLink own index y).before a0 Z = true) (w5 : (Jvm.Cond.declares y).before a0 Z = true) (w6 : (Jvm.Cond.selects y.cls y y).before a0 Z = true) (w2 : (Jvm.Cond.instanceMethod y).before a0 Z = true) (w3 : (Jvm.Cond.initialized y.cls).before a0 Z = true) (w4 : (Jvm.Cond.code y bytes maxL ret).before a0 Z = true)
    (hy : y.cls ≠ "java/lang/invoke/MethodHandle" ∧ y.cls ≠ "java/lang/invoke/VarHandle") (hM : own_Met l Z y bytes maxL ret [] rm as' h Q) {W : Nat} (hf : rm.frames + 1 ≤ R.frames) (hl : W + (maxL + 11) + rm.locals ≤ R.locals) (eT : T.heap = h) {a : Addr} (E : Exa Z h a y.cls)
    {g : JFrame} (hg : g.method = m) (hsize : g.locals.size = c.maxLocals) {argsL rest : List Value} (hlen : ∀ sig, parseMethodDescriptor y.desc = some sig → argsL.length = sig.parameters.length) (hstack : g.stack = argsL.reverse ++ .ref a :: rest) (has : (Value.ref a :: argsL).toArray = as')
    (hW : 2 * g.monitorRoom + (rest.map fun v => v.category).sum ≤ W) (hdg : decode c.code g.pc = .ok (.invokevirtual index, 3)) (hc : cells + rm.cells ≤ R.cells) (hn : slots + rm.slots ≤ R.slots) :
    ∃ (v : Option Value) (T' : State) (L : List Loc), Stand p l e R s m args below meth c T' (locs ++ L) (cells + rm.cells) (slots + rm.slots) ∧ Q v T'.heap L ∧ ∀ t, Steps p.tables e below (T'.setTop { g with pc := g.pc + 3, stack := v.toList ++ rest }) t → Steps p.tables e below (T.setTop g) t := by
  subst eT
  obtain ⟨cq, kq, qa, qb, qc⟩ := isOf hZ rfl E
  obtain ⟨v, vm₁, ⟨T', L', k', n'⟩, -, X', ⟨Lc, hQ, l1, y1, z1⟩, st⟩ := X.virtualBack hx (y := y) (z := y) hown (mvT hZ w1) (mvT hZ w5) (notFace_of_selects (args := #[]) (mvT hZ w6)) (mvT hZ w6) (mvT hZ w2) hy (backOf (W := W) hM hZ w4 w3 hf hl) qa qc hg hsize (Steps.refl _) (argsL := argsL) (rest := rest) hlen hstack hW hdg (fun _ _ => ⟨has, rfl, hc, hn⟩)
  dsimp only [Pt.U, Pt.locs, Pt.cells, Pt.slots] at X' l1 y1 z1 st hQ
  subst l1 y1 z1
  exact ⟨v, T', Lc, X', hQ, fun t k => st.trans k⟩
end Own

/-! ## doubles that are whole numbers times a power of two -/
section OwnDy
open Jvm.FP Jvm.FP.Core Jvm.Free.Fl
/-- c * 2^q and n * 2^e are one number -/
def own_R (c : Nat) (q : Int) (n : Nat) (e : Int) : Prop := c * 2 ^ (q - e).toNat = n * 2 ^ (e - q).toNat
theorem own_R_scale {c : Nat} {q : Int} {n : Nat} {e : Int} (B : Nat) (hq : -(B : Int) ≤ q) (he : -(B : Int) ≤ e) : own_R c q n e ↔ c * 2 ^ (q + B).toNat = n * 2 ^ (e + B).toNat := by
  unfold own_R
  rcases Int.le_total e q with h | h
  · have h1 : (e - q).toNat = 0 := by omega
    have h2 : (q + B).toNat = (q - e).toNat + (e + B).toNat := by omega
    rw [h1, h2, Nat.pow_add, ← Nat.mul_assoc, Nat.pow_zero, Nat.mul_one]
    exact (Nat.mul_left_inj (Nat.ne_of_gt (Nat.two_pow_pos _))).symm
  · have h1 : (q - e).toNat = 0 := by omega
    have h2 : (e + B).toNat = (e - q).toNat + (q + B).toNat := by omega
    rw [h1, h2, Nat.pow_add, ← Nat.mul_assoc, Nat.pow_zero, Nat.mul_one]
    exact (Nat.mul_left_inj (Nat.ne_of_gt (Nat.two_pow_pos _))).symm
theorem own_R.refl (c : Nat) (q : Int) : own_R c q c q := rfl
theorem own_R.symm {c : Nat} {q : Int} {n : Nat} {e : Int} (h : own_R c q n e) : own_R n e c q := Eq.symm h
theorem own_R.trans {c : Nat} {q : Int} {n : Nat} {e : Int} {m : Nat} {f : Int} (h : own_R c q n e) (g : own_R n e m f) : own_R c q m f := by
  have B : ∃ B : Nat, -(B : Int) ≤ q ∧ -(B : Int) ≤ e ∧ -(B : Int) ≤ f := ⟨q.natAbs + e.natAbs + f.natAbs, by omega, by omega, by omega⟩
  obtain ⟨B, b1, b2, b3⟩ := B
  exact (own_R_scale B b1 b3).mpr (((own_R_scale B b1 b2).mp h).trans ((own_R_scale B b2 b3).mp g))
theorem own_R.mul {c d n m : Nat} {q r e f : Int} (h : own_R c q n e) (g : own_R d r m f) : own_R (c * d) (q + r) (n * m) (e + f) := by
  have B : ∃ B : Nat, -(B : Int) ≤ q ∧ -(B : Int) ≤ e ∧ -(B : Int) ≤ r ∧ -(B : Int) ≤ f := ⟨q.natAbs + e.natAbs + r.natAbs + f.natAbs, by omega, by omega, by omega, by omega⟩
  obtain ⟨B, b1, b2, b3, b4⟩ := B
  have h' := (own_R_scale B b1 b2).mp h
  have g' := (own_R_scale B b3 b4).mp g
  refine (own_R_scale (B + B) (by omega) (by omega)).mpr ?_
  have e1 : (q + r + ((B + B : Nat) : Int)).toNat = (q + B).toNat + (r + B).toNat := by omega
  have e2 : (e + f + ((B + B : Nat) : Int)).toNat = (e + B).toNat + (f + B).toNat := by omega
  rw [e1, e2, Nat.pow_add, Nat.pow_add, Nat.mul_mul_mul_comm, h', g', Nat.mul_mul_mul_comm]
/-- the difference of the exponents alone counts -/
theorem own_R.shift {c n : Nat} {q e q' e' : Int} (h : own_R c q n e) (k : q' - e' = q - e) : own_R c q' n e' := by
  unfold own_R at *
  have : e' - q' = e - q := by omega
  rw [k, this]; exact h
theorem own_R.add {c d n m : Nat} {q e : Int} (h : own_R c q n e) (g : own_R d q m e) : own_R (c + d) q (n + m) e := by
  unfold own_R at *
  rw [Nat.add_mul, Nat.add_mul, h, g]
theorem own_R.up (n k : Nat) (e : Int) : own_R n e (n * 2 ^ k) (e - k) := by
  unfold own_R
  have h1 : (e - (e - (k : Int))).toNat = k := by omega
  have h2 : (e - (k : Int) - e).toNat = 0 := by omega
  rw [h1, h2, Nat.pow_zero, Nat.mul_one]
theorem own_R.zero {q : Int} {n : Nat} {e : Int} (h : own_R 0 q n e) : n = 0 := by
  unfold own_R at h
  rw [Nat.zero_mul] at h
  rcases Nat.mul_eq_zero.mp h.symm with h | h
  · exact h
  · exact absurd h (Nat.ne_of_gt (Nat.two_pow_pos _))
/-- a number of at most 53 digits is one of the format's -/
theorem own_can {n : Nat} {e : Int} (s : Bool) (hn : n < 2 ^ 53) (he : -1022 ≤ e) (he2 : e ≤ 900) : ∃ c q, roundRatio b64 s n 1 e = .fin s c q ∧ own_R c q n e := by
  by_cases h0 : n = 0
  · subst h0
    exact ⟨0, b64.qmin, by unfold roundRatio; rw [if_pos rfl], by unfold own_R; rw [Nat.zero_mul, Nat.zero_mul]⟩
  · have l1 := Nat.log2_self_le h0
    have l2 : n < 2 ^ (n.log2 + 1) := Nat.lt_log2_self
    have l3 : n.log2 ≤ 52 := by
      have := (Nat.log2_lt h0).mpr hn
      omega
    obtain ⟨k, hk⟩ : ∃ k, n.log2 + k = 52 := ⟨52 - n.log2, by omega⟩
    have r := own_R.up n k e
    refine ⟨n * 2 ^ k, e - k, ?_, r.symm⟩
    have f1 : n * 2 ^ k < 2 ^ 53 := by
      have : n * 2 ^ k < 2 ^ (n.log2 + 1) * 2 ^ k := Nat.mul_lt_mul_of_pos_right l2 (Nat.two_pow_pos _)
      rw [← Nat.pow_add] at this
      have e2 : n.log2 + 1 + k = 53 := by omega
      rw [e2] at this; exact this
    have f2 : 2 ^ 52 ≤ n * 2 ^ k := by
      have : 2 ^ n.log2 * 2 ^ k ≤ n * 2 ^ k := Nat.mul_le_mul_right _ l1
      rw [← Nat.pow_add, hk] at this; exact this
    refine roundRatio_exact good_b64 (by decide) (show Jvm.FP.Core.fits b64 (Datum.fin s (n * 2 ^ k) (e - k)) from ⟨f1, ?_, ?_, Or.inr f2⟩) ?_
    · have : b64.qmin = -1074 := by decide
      omega
    · have : b64.qmax = 971 := by decide
      omega
    · rw [Nat.mul_one]; exact r
/-- the double a is n * 2^e -/
def own_Dy (a : UInt64) (n : Nat) (e : Int) : Prop := ∃ c q, val64 a = .fin false c q ∧ own_R c q n e
theorem own_round_R {s : Bool} {c n : Nat} {q e : Int} (h : own_R c q n e) : roundRatio b64 s c 1 q = roundRatio b64 s n 1 e :=
  roundRatio_congr (by decide) (by decide) (by rw [Nat.mul_one, Nat.mul_one]; exact h)
theorem own_Dy.val {a : UInt64} {n : Nat} {e : Int} (h : own_Dy a n e) : val64 a = roundRatio b64 false n 1 e := by
  obtain ⟨c, q, h1, h2⟩ := h
  rw [← own_round_R h2, h1]
  have := round_of_fits good_b64 (val64_fits a)
  rw [h1] at this
  exact this.symm
theorem own_Dy.nn {a : UInt64} {n : Nat} {e : Int} (h : own_Dy a n e) : NoNaN64 a := by
  obtain ⟨c, q, h1, h2⟩ := h
  exact val64_no.mpr (by rw [h1]; exact Datum.noConfusion)
theorem own_Dy.eq {a b : UInt64} {n : Nat} {e : Int} (h : own_Dy a n e) (g : own_Dy b n e) : a = b := val64_inj (val64_no.mp h.nn) (h.val.trans g.val.symm)
theorem own_Dy.re {a : UInt64} {n m : Nat} {e f : Int} (h : own_Dy a n e) (r : own_R n e m f) : own_Dy a m f := by
  obtain ⟨c, q, h1, h2⟩ := h
  exact ⟨c, q, h1, h2.trans r⟩
theorem own_Dy.of {a : UInt64} {n : Nat} {e : Int} (hn : n < 2 ^ 53) (he : -1022 ≤ e) (he2 : e ≤ 900) (h : val64 a = roundRatio b64 false n 1 e) : own_Dy a n e := by
  obtain ⟨c, q, h1, h2⟩ := own_can false hn he he2
  exact ⟨c, q, h.trans h1, h2⟩
theorem own_Dy.l2d {v : Int64} (h0 : 0 ≤ v.toInt) (h1 : v.toInt < 2 ^ 53) : own_Dy (FP.l2d v) v.toInt.toNat 0 := by
  refine own_Dy.of (by omega) (by omega) (by omega) ?_
  rw [show FP.l2d v = Core.l2d v from rfl, val64_l2d]
  unfold ofInt
  rw [show decide (v.toInt < 0) = false from decide_eq_false (by omega), show v.toInt.natAbs = v.toInt.toNat by omega]
  rfl
theorem own_Dy.mul {a b : UInt64} {n m : Nat} {e f : Int} (ha : own_Dy a n e) (hb : own_Dy b m f) (hn : n * m < 2 ^ 53) (he : -1022 ≤ e + f) (he2 : e + f ≤ 900) : own_Dy (FP.dmul a b) (n * m) (e + f) := by
  obtain ⟨c, q, h1, h2⟩ := ha
  obtain ⟨d, r, g1, g2⟩ := hb
  refine own_Dy.of hn he he2 ?_
  rw [show FP.dmul a b = Core.dmul a b from rfl, val64_dmul, h1, g1]
  exact own_round_R (h2.mul g2)
theorem own_Dy.add {a b : UInt64} {n m : Nat} {e : Int} (ha : own_Dy a n e) (hb : own_Dy b m e) (hn : n + m < 2 ^ 53) (he : -1022 ≤ e) (he2 : e ≤ 900) : own_Dy (FP.dadd a b) (n + m) e := by
  obtain ⟨c, q, h1, h2⟩ := ha
  obtain ⟨d, r, g1, g2⟩ := hb
  refine own_Dy.of hn he he2 ?_
  rw [show FP.dadd a b = Core.dadd a b from rfl, val64_dadd, h1, g1]
  have hs : sumUnits false c q false d r (min q r) = ((inUnits c q (min q r) + inUnits d r (min q r) : Nat) : Int) := by
    unfold sumUnits signed; simp
  have hz : sumSign false false (sumUnits false c q false d r (min q r)) = false := by
    rw [hs]; unfold sumSign
    split
    · rfl
    · exact decide_eq_false (by omega)
  simp only [exactSum]
  rw [hz, hs]
  refine own_round_R ?_
  have i1 : own_R (inUnits c q (min q r)) (min q r) c q := by
    unfold own_R inUnits
    have : (min q r - q).toNat = 0 := by omega
    rw [this, Nat.pow_zero, Nat.mul_one]
  have i2 : own_R (inUnits d r (min q r)) (min q r) d r := by
    unfold own_R inUnits
    have : (min q r - r).toNat = 0 := by omega
    rw [this, Nat.pow_zero, Nat.mul_one]
  exact (i1.trans h2).add (i2.trans g2)
theorem own_cmp {a b : UInt64} {n m : Nat} {e : Int} (ha : own_Dy a n e) (hb : own_Dy b m e) : FP.dcmp a b = some (compare (n : Int) (m : Int)) := by
  obtain ⟨c, q, h1, h2⟩ := ha
  obtain ⟨d, r, g1, g2⟩ := hb
  show order (val64 a) (val64 b) = _
  rw [h1, g1]
  simp only [order, signed, Bool.false_eq_true, if_false]
  have i1 : own_R (inUnits c q (min q r)) (min q r) c q := by
    unfold own_R inUnits
    have : (min q r - q).toNat = 0 := by omega
    rw [this, Nat.pow_zero, Nat.mul_one]
  have i2 : own_R (inUnits d r (min q r)) (min q r) d r := by
    unfold own_R inUnits
    have : (min q r - r).toNat = 0 := by omega
    rw [this, Nat.pow_zero, Nat.mul_one]
  have j1 := i1.trans h2
  have j2 := i2.trans g2
  unfold own_R at j1 j2
  generalize inUnits c q (min q r) = x at *
  generalize inUnits d r (min q r) = y at *
  generalize (min q r - e).toNat = u at *
  generalize (e - min q r).toNat = w at *
  have pu := Nat.two_pow_pos u
  have pw := Nat.two_pow_pos w
  have lt : x < y ↔ n < m := by
    rw [← Nat.mul_lt_mul_right pu, j1, j2, Nat.mul_lt_mul_right pw]
  have eq : x = y ↔ n = m := by
    constructor
    · intro h; rw [h, j2] at j1; exact (Nat.eq_of_mul_eq_mul_right pw j1).symm
    · intro h; rw [h, ← j2] at j1; exact Nat.eq_of_mul_eq_mul_right pu j1
  congr 1
  simp only [compare, compareOfLessAndEq, Int.ofNat_lt, Int.ofNat_inj]
  by_cases hl : x < y
  · rw [if_pos hl, if_pos (lt.mp hl)]
  · rw [if_neg hl, if_neg (fun q => hl (lt.mpr q))]
    by_cases hq : x = y
    · rw [if_pos hq, if_pos (eq.mp hq)]
    · rw [if_neg hq, if_neg (fun q => hq (eq.mpr q))]
end OwnDy

/-! the plain law -/
def own_xs (x : Int64) (k : Int32) : Int64 := x ^^^ own_sr x k
def own_mix (x : Int64) : Int64 := own_xs ((own_xs ((own_xs x 30) * (-4658895280553007687 : Int64)) 27) * (-7723592293110705685 : Int64)) 31
def own_d (v : Int64) : UInt64 := FP.dmul (FP.l2d v) (4368491638549381120 : UInt64)
section OwnLaw
open Jvm.FP Jvm.Free.Fl
theorem own_top (x : Int64) : 0 ≤ (own_sr x (11 : Int32)).toInt ∧ (own_sr x (11 : Int32)).toInt < 2 ^ 53 := by
  have h : (own_sr x (11 : Int32)).toInt = (x.toInt % 18446744073709551616) / (2 ^ 11 : Nat) := c_lushr x 11 11 (by decide) (by decide)
  omega
theorem own_dy_unit : own_Dy (4368491638549381120 : UInt64) 1 (-53) := ⟨2 ^ 52, -105, by decide +kernel, by unfold own_R; decide +kernel⟩
theorem own_dy_p53 : own_Dy (4845873199050653696 : UInt64) 1 53 := ⟨2 ^ 52, 1, by decide +kernel, by unfold own_R; decide +kernel⟩
theorem own_dy_0 (e : Int) : own_Dy FP.dconst0 0 e := ⟨0, -1074, by decide +kernel, by unfold own_R; rw [Nat.zero_mul, Nat.zero_mul]⟩
theorem own_dy_1 : own_Dy FP.dconst1 (2 ^ 53) (-53) := ⟨2 ^ 52, -52, by decide +kernel, by unfold own_R; decide +kernel⟩
theorem own_dy_d {v : Int64} (h : 0 ≤ v.toInt ∧ v.toInt < 2 ^ 53) : own_Dy (own_d v) v.toInt.toNat (-53) := by
  have q := (own_Dy.l2d h.1 h.2).mul own_dy_unit (by omega) (by omega) (by omega)
  rw [Nat.mul_one, Int.zero_add] at q
  exact q
theorem own_d_nn (x : Int64) : NoNaN64 (FP.dmul (FP.l2d (own_sr x (11 : Int32))) (4368491638549381120 : UInt64)) := (own_dy_d (own_top x)).nn
theorem own_dy_s {v : Int64} (h : 0 ≤ v.toInt ∧ v.toInt < 2 ^ 53) : own_Dy (FP.dmul (own_d v) (4845873199050653696 : UInt64)) v.toInt.toNat 0 := by
  have q := (own_dy_d h).mul own_dy_p53 (by omega) (by omega) (by omega)
  rw [Nat.mul_one] at q
  exact q
theorem own_s_nn (x : Int64) : NoNaN64 (FP.dmul (own_d (own_sr x (11 : Int32))) (4845873199050653696 : UInt64)) := (own_dy_s (own_top x)).nn
theorem own_scaled (x : Int64) : FP.dmul (own_d (own_sr x (11 : Int32))) (4845873199050653696 : UInt64) = FP.l2d (own_sr x (11 : Int32)) := (own_dy_s (own_top x)).eq (own_Dy.l2d (own_top x).1 (own_top x).2)
theorem own_d2l (x : Int64) : FP.d2l (FP.l2d (own_sr x (11 : Int32))) = own_sr x (11 : Int32) := d2l_w ⟨by have := own_top x; omega, by have := own_top x; omega⟩
theorem own_self (x : Int64) (o : CmpOp) : cmpValue (FP.dcmp (FP.l2d (own_sr x (11 : Int32))) (FP.l2d (own_sr x (11 : Int32)))) o = 0 := dcmpV_self (nn_w rfl) o
theorem own_ge0 (x : Int64) : ¬ cmpValue (FP.dcmp (own_d (own_sr x (11 : Int32))) FP.dconst0) .l < (0 : Int32) := by
  rw [own_cmp (own_dy_d (own_top x)) (own_dy_0 (-53))]
  generalize (own_sr x (11 : Int32)).toInt.toNat = n
  cases n with
  | zero => decide
  | succ n =>
    have : compare ((n + 1 : Nat) : Int) ((0 : Nat) : Int) = .gt := by
      simp only [compare, compareOfLessAndEq]
      rw [if_neg (by omega), if_neg (by omega)]
    rw [this]; decide
theorem own_lt1 (x : Int64) : cmpValue (FP.dcmp (own_d (own_sr x (11 : Int32))) FP.dconst1) .g < (0 : Int32) := by
  rw [own_cmp (own_dy_d (own_top x)) own_dy_1]
  have h := own_top x
  have : compare (((own_sr x (11 : Int32)).toInt.toNat : Nat) : Int) ((2 ^ 53 : Nat) : Int) = .lt := by
    simp only [compare, compareOfLessAndEq]
    rw [if_pos (by omega)]
  rw [this]; decide
end OwnLaw

theorem d1_0 : decode prog_28_method_1_code 0 = .ok (.aload_n 0, 1) := by decide +kernel
theorem d1_1 : decode prog_28_method_1_code 1 = .ok (.invokespecial 1, 3) := by decide +kernel
theorem d1_4 : decode prog_28_method_1_code 4 = .ok (.aload_n 0, 1) := by decide +kernel
theorem d1_5 : decode prog_28_method_1_code 5 = .ok (.lload_n 1, 1) := by decide +kernel
theorem d1_6 : decode prog_28_method_1_code 6 = .ok (.putfield 7, 3) := by decide +kernel
theorem d1_9 : decode prog_28_method_1_code 9 = .ok (.return_, 1) := by decide +kernel
theorem pf_1 : plainFor (⟨"com/example/inferlink/inferlink/SplitMix64", "<init>", "(J)V"⟩ : MethodName) = true := by first | exact plainFor_of_name (by first | (simp [plainName, overriddenIn]; done) | decide +kernel) | decide +kernel
theorem pd_1 : parseMethodDescriptor "(J)V" = some ⟨[.long], none⟩ := by decide +kernel
theorem ef_1 (m : MethodId) (p0 : Addr) (p1 : Int64) : entryFrame m #[(.ref p0), (.long p1)] 3 = mkF m 0 #[.val (.ref p0), .val (.long p1), .second] [] := by first | (simp [entryFrame, mkF, argsToLocals, Value.category]; done) | rfl
def Q1 (Z : State) (p0 : Addr) (p1 : Int64) (h0 : Heap) (n0 : Nat) (v : Option Value) (h : Heap) (L : List Loc) : Prop := v = none ∧ Fr n0 L ∧ Keep h0 h [p0] ∧ Fld Z h p0 "com/example/inferlink/inferlink/SplitMix64" "state" "J" (.long p1)
set_option maxRecDepth 65536 in
set_option maxHeartbeats 40000000 in
theorem rm1 (l : Launch) (Z : State) (a0 : Array Value) (hw : ∀ d ∈ tables_1, d.before a0 Z = true) (ws : List Jvm.Cond) (p0 : Addr) (p1 : Int64) (h0 : Heap) (n0 : Nat) (Z0 : n0 ≤ h0.size) (w : Int64) (Ex0 : Exa Z h0 p0 "com/example/inferlink/inferlink/SplitMix64") (Fs0 : Fld Z h0 p0 "com/example/inferlink/inferlink/SplitMix64" "state" "J" (.long w)) (ge0 : n0 ≤ p0) :
    own_Met l Z (⟨"com/example/inferlink/inferlink/SplitMix64", "<init>", "(J)V"⟩ : MethodName) prog_28_method_1_code 3 none ws ({ frames := 1, cells := 0, slots := 0, locals := 12 } : Room) #[(.ref p0), (.long p1)] h0 (Q1 Z p0 p1 h0 n0) := by
  refine MetFree.of_bodySF pf_1 hisR ?_
  intro p e s m args below meth c s₁ Bd hml0 hP hK
  obtain ⟨rfl, hZ, hh⟩ := hP
  have hx := Bd.exec
  have hby := Bd.bytes
  have hlk : meth.locks = false := BodyLoose.notSynchronized Bd
  have hml : c.maxLocals = 3 := hml0
  have hown : s.vm.findClass "com/example/inferlink/inferlink/SplitMix64" = some m.cls := findClass_of_methodNamed Bd.named
  have hnm := (name_of_methodNamed Bd.named Bd.method).1
  have X0 : Stand p l e ({ frames := 1, cells := 0, slots := 0, locals := 12 } : Room) s m #[(.ref p0), (.long p1)] below meth c s₁ [] 0 0 := Stand.of_body Bd
  have e0 : s₁.heap = h0 := by rw [← hh, Bd.state]; rfl
  have N0 := Fr.nil n0
  have K0 := Keep.refl h0 [p0]
  show own_Go p.tables e below s (Q1 Z p0 p1 h0 n0) ({ frames := 1, cells := 0, slots := 0, locals := 12 } : Room).cells ({ frames := 1, cells := 0, slots := 0, locals := 12 } : Room).slots _
  refine own_by (fun _ k => castTop (ef_1 m p0 p1) k) ?_
  show own_Go p.tables e below s _ _ _ (s₁.setTop (mkF m 0 #[.val (.ref p0), .val (.long p1), .second] []))
  refine own_by (fun _ kz => XS.aloadN X0.here hx rfl (hb hby d1_0) rfl rfl kz) ?_
  show own_Go p.tables e below s _ _ _ (s₁.setTop (mkF m 1 #[.val (.ref p0), .val (.long p1), .second] [(.ref p0)]))
  obtain ⟨T1, X1, e1, st1⟩ := initO X0 hx hZ hown (hw _ (List.mem_of_getElem? (i := 6) rfl)) (hw _ (List.mem_of_getElem? (i := 7) rfl)) (hw _ (List.mem_of_getElem? (i := 8) rfl)) e0 (g := (mkF m 1 #[.val (.ref p0), .val (.long p1), .second] [(.ref p0)])) rfl (by rw [hml]; rfl) rfl (hb hby d1_1) (by decide) (W := 0) (by show 2 * 0 + _ ≤ _; exact Nat.le_of_eq rfl) (by decide)
  refine own_by st1 ?_
  show own_Go p.tables e below s _ _ _ (T1.setTop (mkF m 4 #[.val (.ref p0), .val (.long p1), .second] []))
  refine own_by (fun _ kz => XS.aloadN X1.here hx rfl (hb hby d1_4) rfl rfl kz) ?_
  show own_Go p.tables e below s _ _ _ (T1.setTop (mkF m 5 #[.val (.ref p0), .val (.long p1), .second] [(.ref p0)]))
  refine own_by (fun _ kz => XS.lloadN X1.here hx rfl (hb hby d1_5) rfl kz) ?_
  show own_Go p.tables e below s _ _ _ (T1.setTop (mkF m 6 #[.val (.ref p0), .val (.long p1), .second] [(.long p1), (.ref p0)]))
  obtain ⟨T2, h2, X2, e2, W2, st2⟩ := putF X1 hx hZ hown (host := "") (Or.inl (hw _ (List.mem_of_getElem? (i := 9) rfl))) Via.refl e1 Fs0 Ex0 (Or.inl (hw _ (List.mem_of_getElem? (i := 10) rfl))) (hw _ (List.mem_of_getElem? (i := 1) rfl)) (ty := .long) (by decide) rfl rfl (g := (mkF m 6 #[.val (.ref p0), .val (.long p1), .second] [(.long p1), (.ref p0)])) rfl rfl (hb hby d1_6)
  have N2 := Fr.snoc X2 N0 ge0
  have Z2 : n0 ≤ h2.size := by rw [W2.size]; exact Z0
  have K2 := K0.wr W2 (Or.inl (List.mem_of_getElem? (i := 0) rfl))
  have Ex0_h2 := Ex0.wr W2
  have Fs0_h2 := Fs0.same W2
  refine own_by st2 ?_
  show own_Go p.tables e below s _ _ _ (T2.setTop (mkF m 9 #[.val (.ref p0), .val (.long p1), .second] []))
  exact own_retV X2 hx hlk Bd.returns (hb hby d1_9) (by decide) (by decide) ⟨rfl, N2, by rw [e2]; exact K2, by rw [e2]; exact Fs0_h2⟩
theorem d4_0 : decode prog_28_method_2_code 0 = .ok (.aload_n 0, 1) := by decide +kernel
theorem d4_1 : decode prog_28_method_2_code 1 = .ok (.dup, 1) := by decide +kernel
theorem d4_2 : decode prog_28_method_2_code 2 = .ok (.getfield 7, 3) := by decide +kernel
theorem d4_5 : decode prog_28_method_2_code 5 = .ok (.ldc2_w 13, 3) := by decide +kernel
theorem d4_8 : decode prog_28_method_2_code 8 = .ok (.ladd, 1) := by decide +kernel
theorem d4_9 : decode prog_28_method_2_code 9 = .ok (.putfield 7, 3) := by decide +kernel
theorem d4_12 : decode prog_28_method_2_code 12 = .ok (.aload_n 0, 1) := by decide +kernel
theorem d4_13 : decode prog_28_method_2_code 13 = .ok (.getfield 7, 3) := by decide +kernel
theorem d4_16 : decode prog_28_method_2_code 16 = .ok (.lstore_n 1, 1) := by decide +kernel
theorem d4_17 : decode prog_28_method_2_code 17 = .ok (.lload_n 1, 1) := by decide +kernel
theorem d4_18 : decode prog_28_method_2_code 18 = .ok (.lload_n 1, 1) := by decide +kernel
theorem d4_19 : decode prog_28_method_2_code 19 = .ok (.bipush 30, 2) := by decide +kernel
theorem d4_21 : decode prog_28_method_2_code 21 = .ok (.lushr, 1) := by decide +kernel
theorem d4_22 : decode prog_28_method_2_code 22 = .ok (.lxor, 1) := by decide +kernel
theorem d4_23 : decode prog_28_method_2_code 23 = .ok (.ldc2_w 15, 3) := by decide +kernel
theorem d4_26 : decode prog_28_method_2_code 26 = .ok (.lmul, 1) := by decide +kernel
theorem d4_27 : decode prog_28_method_2_code 27 = .ok (.lstore_n 1, 1) := by decide +kernel
theorem d4_28 : decode prog_28_method_2_code 28 = .ok (.lload_n 1, 1) := by decide +kernel
theorem d4_29 : decode prog_28_method_2_code 29 = .ok (.lload_n 1, 1) := by decide +kernel
theorem d4_30 : decode prog_28_method_2_code 30 = .ok (.bipush 27, 2) := by decide +kernel
theorem d4_32 : decode prog_28_method_2_code 32 = .ok (.lushr, 1) := by decide +kernel
theorem d4_33 : decode prog_28_method_2_code 33 = .ok (.lxor, 1) := by decide +kernel
theorem d4_34 : decode prog_28_method_2_code 34 = .ok (.ldc2_w 17, 3) := by decide +kernel
theorem d4_37 : decode prog_28_method_2_code 37 = .ok (.lmul, 1) := by decide +kernel
theorem d4_38 : decode prog_28_method_2_code 38 = .ok (.lstore_n 1, 1) := by decide +kernel
theorem d4_39 : decode prog_28_method_2_code 39 = .ok (.lload_n 1, 1) := by decide +kernel
theorem d4_40 : decode prog_28_method_2_code 40 = .ok (.lload_n 1, 1) := by decide +kernel
theorem d4_41 : decode prog_28_method_2_code 41 = .ok (.bipush 31, 2) := by decide +kernel
theorem d4_43 : decode prog_28_method_2_code 43 = .ok (.lushr, 1) := by decide +kernel
theorem d4_44 : decode prog_28_method_2_code 44 = .ok (.lxor, 1) := by decide +kernel
theorem d4_45 : decode prog_28_method_2_code 45 = .ok (.lreturn, 1) := by decide +kernel
theorem pf_4 : plainFor (⟨"com/example/inferlink/inferlink/SplitMix64", "nextLong", "()J"⟩ : MethodName) = true := by first | exact plainFor_of_name (by first | (simp [plainName, overriddenIn]; done) | decide +kernel) | decide +kernel
theorem pd_4 : parseMethodDescriptor "()J" = some ⟨[], some .long⟩ := by decide +kernel
theorem ef_4 (m : MethodId) (p0 : Addr) : entryFrame m #[(.ref p0)] 3 = mkF m 0 #[.val (.ref p0), .unset, .unset] [] := by first | (simp [entryFrame, mkF, argsToLocals, Value.category]; done) | rfl
def Q4 (Z : State) (p0 : Addr) (w : Int64) (h0 : Heap) (n0 : Nat) (v : Option Value) (h : Heap) (L : List Loc) : Prop := v = some (.long (own_mix (w + (-7046029254386353131 : Int64)))) ∧ Fr n0 L ∧ Keep h0 h [p0] ∧ Fld Z h p0 "com/example/inferlink/inferlink/SplitMix64" "state" "J" (.long (w + (-7046029254386353131 : Int64)))
set_option maxRecDepth 65536 in
set_option maxHeartbeats 40000000 in
theorem rm4 (l : Launch) (Z : State) (a0 : Array Value) (hw : ∀ d ∈ tables_1, d.before a0 Z = true) (ws : List Jvm.Cond) (p0 : Addr) (h0 : Heap) (n0 : Nat) (Z0 : n0 ≤ h0.size) (w : Int64) (Ex0 : Exa Z h0 p0 "com/example/inferlink/inferlink/SplitMix64") (Fs0 : Fld Z h0 p0 "com/example/inferlink/inferlink/SplitMix64" "state" "J" (.long w)) (ge0 : n0 ≤ p0) :
    own_Met l Z (⟨"com/example/inferlink/inferlink/SplitMix64", "nextLong", "()J"⟩ : MethodName) prog_28_method_2_code 3 (some .long) ws ({ frames := 0, cells := 0, slots := 0, locals := 0 } : Room) #[(.ref p0)] h0 (Q4 Z p0 w h0 n0) := by
  refine MetFree.of_bodySF pf_4 hisR ?_
  intro p e s m args below meth c s₁ Bd hml0 hP hK
  obtain ⟨rfl, hZ, hh⟩ := hP
  have hx := Bd.exec
  have hby := Bd.bytes
  have hlk : meth.locks = false := BodyLoose.notSynchronized Bd
  have hml : c.maxLocals = 3 := hml0
  have hown : s.vm.findClass "com/example/inferlink/inferlink/SplitMix64" = some m.cls := findClass_of_methodNamed Bd.named
  have hnm := (name_of_methodNamed Bd.named Bd.method).1
  have X0 : Stand p l e ({ frames := 0, cells := 0, slots := 0, locals := 0 } : Room) s m #[(.ref p0)] below meth c s₁ [] 0 0 := Stand.of_body Bd
  have e0 : s₁.heap = h0 := by rw [← hh, Bd.state]; rfl
  have N0 := Fr.nil n0
  have K0 := Keep.refl h0 [p0]
  show own_Go p.tables e below s (Q4 Z p0 w h0 n0) ({ frames := 0, cells := 0, slots := 0, locals := 0 } : Room).cells ({ frames := 0, cells := 0, slots := 0, locals := 0 } : Room).slots _
  refine own_by (fun _ k => castTop (ef_4 m p0) k) ?_
  show own_Go p.tables e below s _ _ _ (s₁.setTop (mkF m 0 #[.val (.ref p0), .unset, .unset] []))
  refine own_by (fun _ kz => XS.aloadN X0.here hx rfl (hb hby d4_0) rfl rfl kz) ?_
  show own_Go p.tables e below s _ _ _ (s₁.setTop (mkF m 1 #[.val (.ref p0), .unset, .unset] [(.ref p0)]))
  refine own_by (fun _ kz => XS.dup X0.here hx rfl (hb hby d4_1) rfl rfl kz) ?_
  show own_Go p.tables e below s _ _ _ (s₁.setTop (mkF m 2 #[.val (.ref p0), .unset, .unset] [(.ref p0), (.ref p0)]))
  obtain ⟨T1, X1, e1, st1⟩ := getF X0 hx hZ hown (host := "") (Or.inl (hw _ (List.mem_of_getElem? (i := 9) rfl))) Via.refl e0 Fs0 (g := (mkF m 2 #[.val (.ref p0), .unset, .unset] [(.ref p0), (.ref p0)])) rfl rfl (hb hby d4_2)
  refine own_by st1 ?_
  show own_Go p.tables e below s _ _ _ (T1.setTop (mkF m 5 #[.val (.ref p0), .unset, .unset] [(.long w), (.ref p0)]))
  refine own_by (fun _ kz => X1.ldc2Long hx hown (mvT hZ (hw _ (List.mem_of_getElem? (i := 21) rfl))) (g := (mkF m 5 #[.val (.ref p0), .unset, .unset] [(.long w), (.ref p0)])) rfl (hb hby d4_5) _ kz) ?_
  show own_Go p.tables e below s _ _ _ (T1.setTop (mkF m 8 #[.val (.ref p0), .unset, .unset] [(.long (-7046029254386353131 : Int64)), (.long w), (.ref p0)]))
  refine own_by (fun _ kz => XS.ladd X1.here hx rfl (hb hby d4_8) rfl kz) ?_
  show own_Go p.tables e below s _ _ _ (T1.setTop (mkF m 9 #[.val (.ref p0), .unset, .unset] [(.long (w + (-7046029254386353131 : Int64))), (.ref p0)]))
  obtain ⟨T2, h2, X2, e2, W2, st2⟩ := putF X1 hx hZ hown (host := "") (Or.inl (hw _ (List.mem_of_getElem? (i := 9) rfl))) Via.refl e1 Fs0 Ex0 (Or.inl (hw _ (List.mem_of_getElem? (i := 10) rfl))) (hw _ (List.mem_of_getElem? (i := 1) rfl)) (ty := .long) (by decide) rfl rfl (g := (mkF m 9 #[.val (.ref p0), .unset, .unset] [(.long (w + (-7046029254386353131 : Int64))), (.ref p0)])) rfl rfl (hb hby d4_9)
  have N2 := Fr.snoc X2 N0 ge0
  have Z2 : n0 ≤ h2.size := by rw [W2.size]; exact Z0
  have K2 := K0.wr W2 (Or.inl (List.mem_of_getElem? (i := 0) rfl))
  have Ex0_h2 := Ex0.wr W2
  have Fs0_h2 := Fs0.same W2
  refine own_by st2 ?_
  show own_Go p.tables e below s _ _ _ (T2.setTop (mkF m 12 #[.val (.ref p0), .unset, .unset] []))
  refine own_by (fun _ kz => XS.aloadN X2.here hx rfl (hb hby d4_12) rfl rfl kz) ?_
  show own_Go p.tables e below s _ _ _ (T2.setTop (mkF m 13 #[.val (.ref p0), .unset, .unset] [(.ref p0)]))
  obtain ⟨T3, X3, e3, st3⟩ := getF X2 hx hZ hown (host := "") (Or.inl (hw _ (List.mem_of_getElem? (i := 9) rfl))) Via.refl e2 Fs0_h2 (g := (mkF m 13 #[.val (.ref p0), .unset, .unset] [(.ref p0)])) rfl rfl (hb hby d4_13)
  refine own_by st3 ?_
  show own_Go p.tables e below s _ _ _ (T3.setTop (mkF m 16 #[.val (.ref p0), .unset, .unset] [(.long (w + (-7046029254386353131 : Int64)))]))
  refine own_by (fun _ kz => XS.lstoreN X3.here hx rfl (hb hby d4_16) rfl (l' := #[.val (.ref p0), .val (.long (w + (-7046029254386353131 : Int64))), .second]) rfl kz) ?_
  show own_Go p.tables e below s _ _ _ (T3.setTop (mkF m 17 #[.val (.ref p0), .val (.long (w + (-7046029254386353131 : Int64))), .second] []))
  refine own_by (fun _ kz => XS.lloadN X3.here hx rfl (hb hby d4_17) rfl kz) ?_
  show own_Go p.tables e below s _ _ _ (T3.setTop (mkF m 18 #[.val (.ref p0), .val (.long (w + (-7046029254386353131 : Int64))), .second] [(.long (w + (-7046029254386353131 : Int64)))]))
  refine own_by (fun _ kz => XS.lloadN X3.here hx rfl (hb hby d4_18) rfl kz) ?_
  show own_Go p.tables e below s _ _ _ (T3.setTop (mkF m 19 #[.val (.ref p0), .val (.long (w + (-7046029254386353131 : Int64))), .second] [(.long (w + (-7046029254386353131 : Int64))), (.long (w + (-7046029254386353131 : Int64)))]))
  refine own_by (fun _ kz => XS.bipush X3.here hx rfl (hb hby d4_19) kz) ?_
  show own_Go p.tables e below s _ _ _ (T3.setTop (mkF m 21 #[.val (.ref p0), .val (.long (w + (-7046029254386353131 : Int64))), .second] [(.int (30 : Int32)), (.long (w + (-7046029254386353131 : Int64))), (.long (w + (-7046029254386353131 : Int64)))]))
  refine own_by (fun _ kz => XS.lushr X3.here hx rfl (hb hby d4_21) rfl kz) ?_
  show own_Go p.tables e below s _ _ _ (T3.setTop (mkF m 22 #[.val (.ref p0), .val (.long (w + (-7046029254386353131 : Int64))), .second] [(.long (own_sr (w + (-7046029254386353131 : Int64)) (30 : Int32))), (.long (w + (-7046029254386353131 : Int64)))]))
  refine own_by (fun _ kz => XS.lxor X3.here hx rfl (hb hby d4_22) rfl kz) ?_
  show own_Go p.tables e below s _ _ _ (T3.setTop (mkF m 23 #[.val (.ref p0), .val (.long (w + (-7046029254386353131 : Int64))), .second] [(.long (own_xs (w + (-7046029254386353131 : Int64)) (30 : Int32)))]))
  refine own_by (fun _ kz => X3.ldc2Long hx hown (mvT hZ (hw _ (List.mem_of_getElem? (i := 22) rfl))) (g := (mkF m 23 #[.val (.ref p0), .val (.long (w + (-7046029254386353131 : Int64))), .second] [(.long (own_xs (w + (-7046029254386353131 : Int64)) (30 : Int32)))])) rfl (hb hby d4_23) _ kz) ?_
  show own_Go p.tables e below s _ _ _ (T3.setTop (mkF m 26 #[.val (.ref p0), .val (.long (w + (-7046029254386353131 : Int64))), .second] [(.long (-4658895280553007687 : Int64)), (.long (own_xs (w + (-7046029254386353131 : Int64)) (30 : Int32)))]))
  refine own_by (fun _ kz => XS.lmul X3.here hx rfl (hb hby d4_26) rfl kz) ?_
  show own_Go p.tables e below s _ _ _ (T3.setTop (mkF m 27 #[.val (.ref p0), .val (.long (w + (-7046029254386353131 : Int64))), .second] [(.long ((own_xs (w + (-7046029254386353131 : Int64)) (30 : Int32)) * (-4658895280553007687 : Int64)))]))
  refine own_by (fun _ kz => XS.lstoreN X3.here hx rfl (hb hby d4_27) rfl (l' := #[.val (.ref p0), .val (.long ((own_xs (w + (-7046029254386353131 : Int64)) (30 : Int32)) * (-4658895280553007687 : Int64))), .second]) rfl kz) ?_
  show own_Go p.tables e below s _ _ _ (T3.setTop (mkF m 28 #[.val (.ref p0), .val (.long ((own_xs (w + (-7046029254386353131 : Int64)) (30 : Int32)) * (-4658895280553007687 : Int64))), .second] []))
  refine own_by (fun _ kz => XS.lloadN X3.here hx rfl (hb hby d4_28) rfl kz) ?_
  show own_Go p.tables e below s _ _ _ (T3.setTop (mkF m 29 #[.val (.ref p0), .val (.long ((own_xs (w + (-7046029254386353131 : Int64)) (30 : Int32)) * (-4658895280553007687 : Int64))), .second] [(.long ((own_xs (w + (-7046029254386353131 : Int64)) (30 : Int32)) * (-4658895280553007687 : Int64)))]))
  refine own_by (fun _ kz => XS.lloadN X3.here hx rfl (hb hby d4_29) rfl kz) ?_
  show own_Go p.tables e below s _ _ _ (T3.setTop (mkF m 30 #[.val (.ref p0), .val (.long ((own_xs (w + (-7046029254386353131 : Int64)) (30 : Int32)) * (-4658895280553007687 : Int64))), .second] [(.long ((own_xs (w + (-7046029254386353131 : Int64)) (30 : Int32)) * (-4658895280553007687 : Int64))), (.long ((own_xs (w + (-7046029254386353131 : Int64)) (30 : Int32)) * (-4658895280553007687 : Int64)))]))
  refine own_by (fun _ kz => XS.bipush X3.here hx rfl (hb hby d4_30) kz) ?_
  show own_Go p.tables e below s _ _ _ (T3.setTop (mkF m 32 #[.val (.ref p0), .val (.long ((own_xs (w + (-7046029254386353131 : Int64)) (30 : Int32)) * (-4658895280553007687 : Int64))), .second] [(.int (27 : Int32)), (.long ((own_xs (w + (-7046029254386353131 : Int64)) (30 : Int32)) * (-4658895280553007687 : Int64))), (.long ((own_xs (w + (-7046029254386353131 : Int64)) (30 : Int32)) * (-4658895280553007687 : Int64)))]))
  refine own_by (fun _ kz => XS.lushr X3.here hx rfl (hb hby d4_32) rfl kz) ?_
  show own_Go p.tables e below s _ _ _ (T3.setTop (mkF m 33 #[.val (.ref p0), .val (.long ((own_xs (w + (-7046029254386353131 : Int64)) (30 : Int32)) * (-4658895280553007687 : Int64))), .second] [(.long (own_sr ((own_xs (w + (-7046029254386353131 : Int64)) (30 : Int32)) * (-4658895280553007687 : Int64)) (27 : Int32))), (.long ((own_xs (w + (-7046029254386353131 : Int64)) (30 : Int32)) * (-4658895280553007687 : Int64)))]))
  refine own_by (fun _ kz => XS.lxor X3.here hx rfl (hb hby d4_33) rfl kz) ?_
  show own_Go p.tables e below s _ _ _ (T3.setTop (mkF m 34 #[.val (.ref p0), .val (.long ((own_xs (w + (-7046029254386353131 : Int64)) (30 : Int32)) * (-4658895280553007687 : Int64))), .second] [(.long (own_xs ((own_xs (w + (-7046029254386353131 : Int64)) (30 : Int32)) * (-4658895280553007687 : Int64)) (27 : Int32)))]))
  refine own_by (fun _ kz => X3.ldc2Long hx hown (mvT hZ (hw _ (List.mem_of_getElem? (i := 23) rfl))) (g := (mkF m 34 #[.val (.ref p0), .val (.long ((own_xs (w + (-7046029254386353131 : Int64)) (30 : Int32)) * (-4658895280553007687 : Int64))), .second] [(.long (own_xs ((own_xs (w + (-7046029254386353131 : Int64)) (30 : Int32)) * (-4658895280553007687 : Int64)) (27 : Int32)))])) rfl (hb hby d4_34) _ kz) ?_
  show own_Go p.tables e below s _ _ _ (T3.setTop (mkF m 37 #[.val (.ref p0), .val (.long ((own_xs (w + (-7046029254386353131 : Int64)) (30 : Int32)) * (-4658895280553007687 : Int64))), .second] [(.long (-7723592293110705685 : Int64)), (.long (own_xs ((own_xs (w + (-7046029254386353131 : Int64)) (30 : Int32)) * (-4658895280553007687 : Int64)) (27 : Int32)))]))
  refine own_by (fun _ kz => XS.lmul X3.here hx rfl (hb hby d4_37) rfl kz) ?_
  show own_Go p.tables e below s _ _ _ (T3.setTop (mkF m 38 #[.val (.ref p0), .val (.long ((own_xs (w + (-7046029254386353131 : Int64)) (30 : Int32)) * (-4658895280553007687 : Int64))), .second] [(.long ((own_xs ((own_xs (w + (-7046029254386353131 : Int64)) (30 : Int32)) * (-4658895280553007687 : Int64)) (27 : Int32)) * (-7723592293110705685 : Int64)))]))
  refine own_by (fun _ kz => XS.lstoreN X3.here hx rfl (hb hby d4_38) rfl (l' := #[.val (.ref p0), .val (.long ((own_xs ((own_xs (w + (-7046029254386353131 : Int64)) (30 : Int32)) * (-4658895280553007687 : Int64)) (27 : Int32)) * (-7723592293110705685 : Int64))), .second]) rfl kz) ?_
  show own_Go p.tables e below s _ _ _ (T3.setTop (mkF m 39 #[.val (.ref p0), .val (.long ((own_xs ((own_xs (w + (-7046029254386353131 : Int64)) (30 : Int32)) * (-4658895280553007687 : Int64)) (27 : Int32)) * (-7723592293110705685 : Int64))), .second] []))
  refine own_by (fun _ kz => XS.lloadN X3.here hx rfl (hb hby d4_39) rfl kz) ?_
  show own_Go p.tables e below s _ _ _ (T3.setTop (mkF m 40 #[.val (.ref p0), .val (.long ((own_xs ((own_xs (w + (-7046029254386353131 : Int64)) (30 : Int32)) * (-4658895280553007687 : Int64)) (27 : Int32)) * (-7723592293110705685 : Int64))), .second] [(.long ((own_xs ((own_xs (w + (-7046029254386353131 : Int64)) (30 : Int32)) * (-4658895280553007687 : Int64)) (27 : Int32)) * (-7723592293110705685 : Int64)))]))
  refine own_by (fun _ kz => XS.lloadN X3.here hx rfl (hb hby d4_40) rfl kz) ?_
  show own_Go p.tables e below s _ _ _ (T3.setTop (mkF m 41 #[.val (.ref p0), .val (.long ((own_xs ((own_xs (w + (-7046029254386353131 : Int64)) (30 : Int32)) * (-4658895280553007687 : Int64)) (27 : Int32)) * (-7723592293110705685 : Int64))), .second] [(.long ((own_xs ((own_xs (w + (-7046029254386353131 : Int64)) (30 : Int32)) * (-4658895280553007687 : Int64)) (27 : Int32)) * (-7723592293110705685 : Int64))), (.long ((own_xs ((own_xs (w + (-7046029254386353131 : Int64)) (30 : Int32)) * (-4658895280553007687 : Int64)) (27 : Int32)) * (-7723592293110705685 : Int64)))]))
  refine own_by (fun _ kz => XS.bipush X3.here hx rfl (hb hby d4_41) kz) ?_
  show own_Go p.tables e below s _ _ _ (T3.setTop (mkF m 43 #[.val (.ref p0), .val (.long ((own_xs ((own_xs (w + (-7046029254386353131 : Int64)) (30 : Int32)) * (-4658895280553007687 : Int64)) (27 : Int32)) * (-7723592293110705685 : Int64))), .second] [(.int (31 : Int32)), (.long ((own_xs ((own_xs (w + (-7046029254386353131 : Int64)) (30 : Int32)) * (-4658895280553007687 : Int64)) (27 : Int32)) * (-7723592293110705685 : Int64))), (.long ((own_xs ((own_xs (w + (-7046029254386353131 : Int64)) (30 : Int32)) * (-4658895280553007687 : Int64)) (27 : Int32)) * (-7723592293110705685 : Int64)))]))
  refine own_by (fun _ kz => XS.lushr X3.here hx rfl (hb hby d4_43) rfl kz) ?_
  show own_Go p.tables e below s _ _ _ (T3.setTop (mkF m 44 #[.val (.ref p0), .val (.long ((own_xs ((own_xs (w + (-7046029254386353131 : Int64)) (30 : Int32)) * (-4658895280553007687 : Int64)) (27 : Int32)) * (-7723592293110705685 : Int64))), .second] [(.long (own_sr ((own_xs ((own_xs (w + (-7046029254386353131 : Int64)) (30 : Int32)) * (-4658895280553007687 : Int64)) (27 : Int32)) * (-7723592293110705685 : Int64)) (31 : Int32))), (.long ((own_xs ((own_xs (w + (-7046029254386353131 : Int64)) (30 : Int32)) * (-4658895280553007687 : Int64)) (27 : Int32)) * (-7723592293110705685 : Int64)))]))
  refine own_by (fun _ kz => XS.lxor X3.here hx rfl (hb hby d4_44) rfl kz) ?_
  show own_Go p.tables e below s _ _ _ (T3.setTop (mkF m 45 #[.val (.ref p0), .val (.long ((own_xs ((own_xs (w + (-7046029254386353131 : Int64)) (30 : Int32)) * (-4658895280553007687 : Int64)) (27 : Int32)) * (-7723592293110705685 : Int64))), .second] [(.long (own_xs ((own_xs ((own_xs (w + (-7046029254386353131 : Int64)) (30 : Int32)) * (-4658895280553007687 : Int64)) (27 : Int32)) * (-7723592293110705685 : Int64)) (31 : Int32)))]))
  exact own_retJ X3 hx hlk Bd.returns (hb hby d4_45) (by decide) (by decide) ⟨rfl, N2, by rw [e3]; exact K2, by rw [e3]; exact Fs0_h2⟩
theorem d3_0 : decode prog_28_method_3_code 0 = .ok (.aload_n 0, 1) := by decide +kernel
theorem d3_1 : decode prog_28_method_3_code 1 = .ok (.invokevirtual 19, 3) := by decide +kernel
theorem d3_4 : decode prog_28_method_3_code 4 = .ok (.bipush 11, 2) := by decide +kernel
theorem d3_6 : decode prog_28_method_3_code 6 = .ok (.lushr, 1) := by decide +kernel
theorem d3_7 : decode prog_28_method_3_code 7 = .ok (.l2d, 1) := by decide +kernel
theorem d3_8 : decode prog_28_method_3_code 8 = .ok (.ldc2_w 23, 3) := by decide +kernel
theorem d3_11 : decode prog_28_method_3_code 11 = .ok (.dmul, 1) := by decide +kernel
theorem d3_12 : decode prog_28_method_3_code 12 = .ok (.dreturn, 1) := by decide +kernel
theorem pf_3 : plainFor (⟨"com/example/inferlink/inferlink/SplitMix64", "nextDouble", "()D"⟩ : MethodName) = true := by first | exact plainFor_of_name (by first | (simp [plainName, overriddenIn]; done) | decide +kernel) | decide +kernel
theorem pd_3 : parseMethodDescriptor "()D" = some ⟨[], some .double⟩ := by decide +kernel
theorem ef_3 (m : MethodId) (p0 : Addr) : entryFrame m #[(.ref p0)] 1 = mkF m 0 #[.val (.ref p0)] [] := by first | (simp [entryFrame, mkF, argsToLocals, Value.category]; done) | rfl
def Q3 (Z : State) (p0 : Addr) (w : Int64) (h0 : Heap) (n0 : Nat) (v : Option Value) (h : Heap) (L : List Loc) : Prop := v = some (.double (own_d (own_sr (own_mix (w + (-7046029254386353131 : Int64))) (11 : Int32)))) ∧ Fr n0 L ∧ Keep h0 h [p0] ∧ Fld Z h p0 "com/example/inferlink/inferlink/SplitMix64" "state" "J" (.long (w + (-7046029254386353131 : Int64)))
set_option maxRecDepth 65536 in
set_option maxHeartbeats 40000000 in
theorem rm3 (l : Launch) (Z : State) (a0 : Array Value) (hw : ∀ d ∈ tables_1, d.before a0 Z = true) (ws : List Jvm.Cond) (p0 : Addr) (h0 : Heap) (n0 : Nat) (Z0 : n0 ≤ h0.size) (w : Int64) (Ex0 : Exa Z h0 p0 "com/example/inferlink/inferlink/SplitMix64") (Fs0 : Fld Z h0 p0 "com/example/inferlink/inferlink/SplitMix64" "state" "J" (.long w)) (ge0 : n0 ≤ p0) :
    own_Met l Z (⟨"com/example/inferlink/inferlink/SplitMix64", "nextDouble", "()D"⟩ : MethodName) prog_28_method_3_code 1 (some .double) ws ({ frames := 1, cells := 0, slots := 0, locals := 14 } : Room) #[(.ref p0)] h0 (Q3 Z p0 w h0 n0) := by
  refine MetFree.of_bodySF pf_3 hisR ?_
  intro p e s m args below meth c s₁ Bd hml0 hP hK
  obtain ⟨rfl, hZ, hh⟩ := hP
  have hx := Bd.exec
  have hby := Bd.bytes
  have hlk : meth.locks = false := BodyLoose.notSynchronized Bd
  have hml : c.maxLocals = 1 := hml0
  have hown : s.vm.findClass "com/example/inferlink/inferlink/SplitMix64" = some m.cls := findClass_of_methodNamed Bd.named
  have hnm := (name_of_methodNamed Bd.named Bd.method).1
  have X0 : Stand p l e ({ frames := 1, cells := 0, slots := 0, locals := 14 } : Room) s m #[(.ref p0)] below meth c s₁ [] 0 0 := Stand.of_body Bd
  have e0 : s₁.heap = h0 := by rw [← hh, Bd.state]; rfl
  have N0 := Fr.nil n0
  have K0 := Keep.refl h0 [p0]
  show own_Go p.tables e below s (Q3 Z p0 w h0 n0) ({ frames := 1, cells := 0, slots := 0, locals := 14 } : Room).cells ({ frames := 1, cells := 0, slots := 0, locals := 14 } : Room).slots _
  refine own_by (fun _ k => castTop (ef_3 m p0) k) ?_
  show own_Go p.tables e below s _ _ _ (s₁.setTop (mkF m 0 #[.val (.ref p0)] []))
  refine own_by (fun _ kz => XS.aloadN X0.here hx rfl (hb hby d3_0) rfl rfl kz) ?_
  show own_Go p.tables e below s _ _ _ (s₁.setTop (mkF m 1 #[.val (.ref p0)] [(.ref p0)]))
  obtain ⟨v1, T1, L1, X1, q1, st1⟩ := own_callV X0 hx hZ hown (hw _ (List.mem_of_getElem? (i := 16) rfl)) (hw _ (List.mem_of_getElem? (i := 17) rfl)) (hw _ (List.mem_of_getElem? (i := 19) rfl)) (hw _ (List.mem_of_getElem? (i := 18) rfl)) (hw _ (List.mem_of_getElem? (i := 2) rfl)) (hw _ (List.mem_of_getElem? (i := 20) rfl)) (by decide) (rm4 l Z a0 hw [] p0 h0 n0 Z0 w Ex0 Fs0 ge0) (W := 0) (by decide) (by decide) e0 Ex0 (g := (mkF m 1 #[.val (.ref p0)] [(.ref p0)])) rfl (by rw [hml]; rfl) (argsL := []) (rest := []) (lenOf pd_4 rfl) rfl rfl (by show 2 * 0 + _ ≤ _; exact Nat.le_of_eq rfl) (hb hby d3_1) (by decide) (by decide)
  obtain ⟨rfl, Nq1, Kq1, Fq1⟩ := q1
  have N1 := Fr.app N0 Nq1
  have Z1 : n0 ≤ T1.heap.size := Nat.le_trans Z0 Kq1.1
  have K1 := K0.trans Kq1 (allS (Or.inl (List.mem_of_getElem? (i := 0) rfl)) all0)
  have Ex0_h1 := Ex0.keep Kq1
  refine own_by st1 ?_
  show own_Go p.tables e below s _ _ _ (T1.setTop (mkF m 4 #[.val (.ref p0)] [(.long (own_mix (w + (-7046029254386353131 : Int64))))]))
  refine own_by (fun _ kz => XS.bipush X1.here hx rfl (hb hby d3_4) kz) ?_
  show own_Go p.tables e below s _ _ _ (T1.setTop (mkF m 6 #[.val (.ref p0)] [(.int (11 : Int32)), (.long (own_mix (w + (-7046029254386353131 : Int64))))]))
  refine own_by (fun _ kz => XS.lushr X1.here hx rfl (hb hby d3_6) rfl kz) ?_
  show own_Go p.tables e below s _ _ _ (T1.setTop (mkF m 7 #[.val (.ref p0)] [(.long (own_sr (own_mix (w + (-7046029254386353131 : Int64))) (11 : Int32)))]))
  refine own_by (fun _ kz => XS.l2dS X1.here hx rfl (hb hby d3_7) rfl rfl kz) ?_
  show own_Go p.tables e below s _ _ _ (T1.setTop (mkF m 8 #[.val (.ref p0)] [(.double (FP.l2d (own_sr (own_mix (w + (-7046029254386353131 : Int64))) (11 : Int32))))]))
  refine own_by (fun _ kz => X1.ldc2DoubleC hx hown (mvT hZ (hw _ (List.mem_of_getElem? (i := 24) rfl))) (g := (mkF m 8 #[.val (.ref p0)] [(.double (FP.l2d (own_sr (own_mix (w + (-7046029254386353131 : Int64))) (11 : Int32))))])) rfl (hb hby d3_8) _ kz) ?_
  show own_Go p.tables e below s _ _ _ (T1.setTop (mkF m 11 #[.val (.ref p0)] [(.double (4368491638549381120 : UInt64)), (.double (FP.l2d (own_sr (own_mix (w + (-7046029254386353131 : Int64))) (11 : Int32))))]))
  refine own_by (fun _ kz => XS.dmulS X1.here hx rfl (hb hby d3_11) rfl (own_d_nn (own_mix (w + (-7046029254386353131 : Int64)))) rfl kz) ?_
  show own_Go p.tables e below s _ _ _ (T1.setTop (mkF m 12 #[.val (.ref p0)] [(.double (own_d (own_sr (own_mix (w + (-7046029254386353131 : Int64))) (11 : Int32))))]))
  exact own_retD X1 hx hlk Bd.returns (hb hby d3_12) (by decide) (by decide) ⟨rfl, N1, K1, Fq1⟩

theorem pf_0 : plainFor x = true := by first | exact plainFor_of_name (by first | (simp [plainName, overriddenIn]; done) | decide +kernel) | decide +kernel
theorem pd_0 : parseMethodDescriptor "(J)Z" = some ⟨[.long], some .boolean⟩ := by decide +kernel
theorem ef_0 (m : MethodId) (p1 : Int64) : entryFrame m #[(.long p1)] maxLocals = mkF m 0 #[.val (.long p1), .second, .unset, .unset, .unset, .unset, .unset, .unset, .unset, .unset, .unset, .unset, .unset, .unset, .unset, .unset] [] := by first | (simp [entryFrame, mkF, argsToLocals, Value.category, maxLocals]; done) | rfl
def Q0 (p1 : Int64) (h0 : Heap) (n0 : Nat) (v : Option Value) (h : Heap) (L : List Loc) : Prop := v = some (.int 1) ∧ Fr n0 L
set_option maxRecDepth 65536 in
set_option maxHeartbeats 40000000 in
theorem rm0 (l : Launch) (Z : State) (a0 : Array Value) (hw : ∀ d ∈ tables_1, d.before a0 Z = true) (ws : List Jvm.Cond) (p1 : Int64) (h0 : Heap) (n0 : Nat) (Z0 : n0 ≤ h0.size)  :
    own_Met l Z x code maxLocals ret ws room_1 #[(.long p1)] h0 (Q0 p1 h0 n0) := by
  refine MetFree.of_bodySF pf_0 hisR ?_
  intro p e s m args below meth c s₁ Bd hml0 hP hK
  obtain ⟨rfl, hZ, hh⟩ := hP
  have hx := Bd.exec
  have hby := Bd.bytes
  have hlk : meth.locks = false := BodyLoose.notSynchronized Bd
  have hml : c.maxLocals = 16 := hml0
  have hown : s.vm.findClass "com/example/inferlink/inferlink/SplitMix64NextDoublePinLaw" = some m.cls := findClass_of_methodNamed Bd.named
  have hnm := (name_of_methodNamed Bd.named Bd.method).1
  have X0 : Stand p l e room_1 s m #[(.long p1)] below meth c s₁ [] 0 0 := Stand.of_body Bd
  have e0 : s₁.heap = h0 := by rw [← hh, Bd.state]; rfl
  have N0 := Fr.nil n0
  show own_Go p.tables e below s (Q0 p1 h0 n0) room_1.cells room_1.slots _
  refine own_by (fun _ k => castTop (ef_0 m p1) k) ?_
  show own_Go p.tables e below s _ _ _ (s₁.setTop (mkF m 0 #[.val (.long p1), .second, .unset, .unset, .unset, .unset, .unset, .unset, .unset, .unset, .unset, .unset, .unset, .unset, .unset, .unset] []))
  obtain ⟨T1, h1, X1, e1, E1, A1, D1, -, st1⟩ := newO X0 hx hZ hown (hw _ (List.mem_of_getElem? (i := 0) rfl)) (hw _ (List.mem_of_getElem? (i := 1) rfl)) (hw _ (List.mem_of_getElem? (i := 2) rfl)) e0 (g := (mkF m 0 #[.val (.long p1), .second, .unset, .unset, .unset, .unset, .unset, .unset, .unset, .unset, .unset, .unset, .unset, .unset, .unset, .unset] [])) rfl (hb hby at_0) (by decide) (by decide)
  obtain ⟨b1, g1⟩ : ∃ z, z = h0.size := ⟨_, rfl⟩
  rw [← g1] at A1 D1 st1
  have ge_b1 : n0 ≤ b1 := Nat.le_trans Z0 (Nat.le_of_eq g1.symm)
  have Z1 : n0 ≤ h1.size := Nat.le_trans Z0 E1.1
  have F1_state : Fld Z h1 b1 "com/example/inferlink/inferlink/SplitMix64" "state" "J" (.long (0 : Int64)) := D1 (Or.inl (hw _ (List.mem_of_getElem? (i := 10) rfl))) (ty := .long) (by decide)
  refine own_by st1 ?_
  show own_Go p.tables e below s _ _ _ (T1.setTop (mkF m 3 #[.val (.long p1), .second, .unset, .unset, .unset, .unset, .unset, .unset, .unset, .unset, .unset, .unset, .unset, .unset, .unset, .unset] [(.ref b1)]))
  refine own_by (fun _ kz => XS.dup X1.here hx rfl (hb hby at_3) rfl rfl kz) ?_
  show own_Go p.tables e below s _ _ _ (T1.setTop (mkF m 4 #[.val (.long p1), .second, .unset, .unset, .unset, .unset, .unset, .unset, .unset, .unset, .unset, .unset, .unset, .unset, .unset, .unset] [(.ref b1), (.ref b1)]))
  refine own_by (fun _ kz => XS.lloadN X1.here hx rfl (hb hby at_4) rfl kz) ?_
  show own_Go p.tables e below s _ _ _ (T1.setTop (mkF m 5 #[.val (.long p1), .second, .unset, .unset, .unset, .unset, .unset, .unset, .unset, .unset, .unset, .unset, .unset, .unset, .unset, .unset] [(.long p1), (.ref b1), (.ref b1)]))
  obtain ⟨v2, T2, L2, X2, q2, st2⟩ := own_callI X1 hx hZ rfl hown (hw _ (List.mem_of_getElem? (i := 3) rfl)) (hw _ (List.mem_of_getElem? (i := 4) rfl)) (hw _ (List.mem_of_getElem? (i := 2) rfl)) (hw _ (List.mem_of_getElem? (i := 5) rfl)) (by decide) (rm1 l Z a0 hw [] b1 p1 h1 n0 Z1 (0 : Int64) A1 F1_state ge_b1) (W := 1) (by decide) (by decide) e1 (g := (mkF m 5 #[.val (.long p1), .second, .unset, .unset, .unset, .unset, .unset, .unset, .unset, .unset, .unset, .unset, .unset, .unset, .unset, .unset] [(.long p1), (.ref b1), (.ref b1)])) rfl (by rw [hml]; rfl) (a := b1) (argsL := [(.long p1)]) (rest := [(.ref b1)]) (lenOf pd_1 rfl) rfl rfl (by show 2 * 0 + _ ≤ _; exact Nat.le_of_eq rfl) (hb hby at_5) (by decide) (by decide)
  obtain ⟨rfl, Nq2, Kq2, Fq2⟩ := q2
  have N2 := Fr.app N0 Nq2
  have Z2 : n0 ≤ T2.heap.size := Nat.le_trans Z1 Kq2.1
  have A1_h2 := A1.keep Kq2
  refine own_by st2 ?_
  show own_Go p.tables e below s _ _ _ (T2.setTop (mkF m 8 #[.val (.long p1), .second, .unset, .unset, .unset, .unset, .unset, .unset, .unset, .unset, .unset, .unset, .unset, .unset, .unset, .unset] [(.ref b1)]))
  refine own_by (fun _ kz => XS.astoreN X2.here hx rfl (hb hby at_8) rfl rfl (l' := #[.val (.long p1), .second, .val (.ref b1), .unset, .unset, .unset, .unset, .unset, .unset, .unset, .unset, .unset, .unset, .unset, .unset, .unset]) rfl kz) ?_
  show own_Go p.tables e below s _ _ _ (T2.setTop (mkF m 9 #[.val (.long p1), .second, .val (.ref b1), .unset, .unset, .unset, .unset, .unset, .unset, .unset, .unset, .unset, .unset, .unset, .unset, .unset] []))
  obtain ⟨T3, h3, X3, e3, E3, A3, D3, -, st3⟩ := newO X2 hx hZ hown (hw _ (List.mem_of_getElem? (i := 0) rfl)) (hw _ (List.mem_of_getElem? (i := 1) rfl)) (hw _ (List.mem_of_getElem? (i := 2) rfl)) rfl (g := (mkF m 9 #[.val (.long p1), .second, .val (.ref b1), .unset, .unset, .unset, .unset, .unset, .unset, .unset, .unset, .unset, .unset, .unset, .unset, .unset] [])) rfl (hb hby at_9) (by decide) (by decide)
  obtain ⟨b3, g3⟩ : ∃ z, z = T2.heap.size := ⟨_, rfl⟩
  rw [← g3] at A3 D3 st3
  have ge_b3 : n0 ≤ b3 := Nat.le_trans Z2 (Nat.le_of_eq g3.symm)
  have ne_b1_b3 : b1 ≠ b3 := by rw [g3]; exact Nat.ne_of_lt A1_h2.lt
  have Z3 : n0 ≤ h3.size := Nat.le_trans Z2 E3.1
  have A1_h3 := A1_h2.ext E3
  have Fq2_h3 := Fq2.ext E3
  have F3_state : Fld Z h3 b3 "com/example/inferlink/inferlink/SplitMix64" "state" "J" (.long (0 : Int64)) := D3 (Or.inl (hw _ (List.mem_of_getElem? (i := 10) rfl))) (ty := .long) (by decide)
  refine own_by st3 ?_
  show own_Go p.tables e below s _ _ _ (T3.setTop (mkF m 12 #[.val (.long p1), .second, .val (.ref b1), .unset, .unset, .unset, .unset, .unset, .unset, .unset, .unset, .unset, .unset, .unset, .unset, .unset] [(.ref b3)]))
  refine own_by (fun _ kz => XS.dup X3.here hx rfl (hb hby at_12) rfl rfl kz) ?_
  show own_Go p.tables e below s _ _ _ (T3.setTop (mkF m 13 #[.val (.long p1), .second, .val (.ref b1), .unset, .unset, .unset, .unset, .unset, .unset, .unset, .unset, .unset, .unset, .unset, .unset, .unset] [(.ref b3), (.ref b3)]))
  refine own_by (fun _ kz => XS.lloadN X3.here hx rfl (hb hby at_13) rfl kz) ?_
  show own_Go p.tables e below s _ _ _ (T3.setTop (mkF m 14 #[.val (.long p1), .second, .val (.ref b1), .unset, .unset, .unset, .unset, .unset, .unset, .unset, .unset, .unset, .unset, .unset, .unset, .unset] [(.long p1), (.ref b3), (.ref b3)]))
  obtain ⟨v4, T4, L4, X4, q4, st4⟩ := own_callI X3 hx hZ rfl hown (hw _ (List.mem_of_getElem? (i := 3) rfl)) (hw _ (List.mem_of_getElem? (i := 4) rfl)) (hw _ (List.mem_of_getElem? (i := 2) rfl)) (hw _ (List.mem_of_getElem? (i := 5) rfl)) (by decide) (rm1 l Z a0 hw [] b3 p1 h3 n0 Z3 (0 : Int64) A3 F3_state ge_b3) (W := 1) (by decide) (by decide) e3 (g := (mkF m 14 #[.val (.long p1), .second, .val (.ref b1), .unset, .unset, .unset, .unset, .unset, .unset, .unset, .unset, .unset, .unset, .unset, .unset, .unset] [(.long p1), (.ref b3), (.ref b3)])) rfl (by rw [hml]; rfl) (a := b3) (argsL := [(.long p1)]) (rest := [(.ref b3)]) (lenOf pd_1 rfl) rfl rfl (by show 2 * 0 + _ ≤ _; exact Nat.le_of_eq rfl) (hb hby at_14) (by decide) (by decide)
  obtain ⟨rfl, Nq4, Kq4, Fq4⟩ := q4
  have N4 := Fr.app N2 Nq4
  have Z4 : n0 ≤ T4.heap.size := Nat.le_trans Z3 Kq4.1
  have A1_h4 := A1_h3.keep Kq4
  have Fq2_h4 := Fq2_h3.keep Kq4 (ninS ne_b1_b3 nin0)
  have A3_h4 := A3.keep Kq4
  refine own_by st4 ?_
  show own_Go p.tables e below s _ _ _ (T4.setTop (mkF m 17 #[.val (.long p1), .second, .val (.ref b1), .unset, .unset, .unset, .unset, .unset, .unset, .unset, .unset, .unset, .unset, .unset, .unset, .unset] [(.ref b3)]))
  refine own_by (fun _ kz => XS.astoreN X4.here hx rfl (hb hby at_17) rfl rfl (l' := #[.val (.long p1), .second, .val (.ref b1), .val (.ref b3), .unset, .unset, .unset, .unset, .unset, .unset, .unset, .unset, .unset, .unset, .unset, .unset]) rfl kz) ?_
  show own_Go p.tables e below s _ _ _ (T4.setTop (mkF m 18 #[.val (.long p1), .second, .val (.ref b1), .val (.ref b3), .unset, .unset, .unset, .unset, .unset, .unset, .unset, .unset, .unset, .unset, .unset, .unset] []))
  refine own_by (fun _ kz => XS.aloadN X4.here hx rfl (hb hby at_18) rfl rfl kz) ?_
  show own_Go p.tables e below s _ _ _ (T4.setTop (mkF m 19 #[.val (.long p1), .second, .val (.ref b1), .val (.ref b3), .unset, .unset, .unset, .unset, .unset, .unset, .unset, .unset, .unset, .unset, .unset, .unset] [(.ref b1)]))
  obtain ⟨v5, T5, L5, X5, q5, st5⟩ := own_callV X4 hx hZ hown (hw _ (List.mem_of_getElem? (i := 11) rfl)) (hw _ (List.mem_of_getElem? (i := 12) rfl)) (hw _ (List.mem_of_getElem? (i := 14) rfl)) (hw _ (List.mem_of_getElem? (i := 13) rfl)) (hw _ (List.mem_of_getElem? (i := 2) rfl)) (hw _ (List.mem_of_getElem? (i := 15) rfl)) (by decide) (rm3 l Z a0 hw [] b1 T4.heap n0 Z4 p1 A1_h4 Fq2_h4 ge_b1) (W := 0) (by decide) (by decide) rfl A1_h4 (g := (mkF m 19 #[.val (.long p1), .second, .val (.ref b1), .val (.ref b3), .unset, .unset, .unset, .unset, .unset, .unset, .unset, .unset, .unset, .unset, .unset, .unset] [(.ref b1)])) rfl (by rw [hml]; rfl) (argsL := []) (rest := []) (lenOf pd_3 rfl) rfl rfl (by show 2 * 0 + _ ≤ _; exact Nat.le_of_eq rfl) (hb hby at_19) (by decide) (by decide)
  obtain ⟨rfl, Nq5, Kq5, Fq5⟩ := q5
  have N5 := Fr.app N4 Nq5
  have Z5 : n0 ≤ T5.heap.size := Nat.le_trans Z4 Kq5.1
  have A1_h5 := A1_h4.keep Kq5
  have A3_h5 := A3_h4.keep Kq5
  have Fq4_h5 := Fq4.keep Kq5 (ninS (Ne.symm ne_b1_b3) nin0)
  refine own_by st5 ?_
  show own_Go p.tables e below s _ _ _ (T5.setTop (mkF m 22 #[.val (.long p1), .second, .val (.ref b1), .val (.ref b3), .unset, .unset, .unset, .unset, .unset, .unset, .unset, .unset, .unset, .unset, .unset, .unset] [(.double (own_d (own_sr (own_mix (p1 + (-7046029254386353131 : Int64))) (11 : Int32))))]))
  refine own_by (fun _ kz => XS.dstore X5.here hx rfl (hb hby at_22) rfl (l' := #[.val (.long p1), .second, .val (.ref b1), .val (.ref b3), .val (.double (own_d (own_sr (own_mix (p1 + (-7046029254386353131 : Int64))) (11 : Int32)))), .second, .unset, .unset, .unset, .unset, .unset, .unset, .unset, .unset, .unset, .unset]) rfl kz) ?_
  show own_Go p.tables e below s _ _ _ (T5.setTop (mkF m 24 #[.val (.long p1), .second, .val (.ref b1), .val (.ref b3), .val (.double (own_d (own_sr (own_mix (p1 + (-7046029254386353131 : Int64))) (11 : Int32)))), .second, .unset, .unset, .unset, .unset, .unset, .unset, .unset, .unset, .unset, .unset] []))
  refine own_by (fun _ kz => XS.aloadN X5.here hx rfl (hb hby at_24) rfl rfl kz) ?_
  show own_Go p.tables e below s _ _ _ (T5.setTop (mkF m 25 #[.val (.long p1), .second, .val (.ref b1), .val (.ref b3), .val (.double (own_d (own_sr (own_mix (p1 + (-7046029254386353131 : Int64))) (11 : Int32)))), .second, .unset, .unset, .unset, .unset, .unset, .unset, .unset, .unset, .unset, .unset] [(.ref b3)]))
  obtain ⟨v6, T6, L6, X6, q6, st6⟩ := own_callV X5 hx hZ hown (hw _ (List.mem_of_getElem? (i := 25) rfl)) (hw _ (List.mem_of_getElem? (i := 17) rfl)) (hw _ (List.mem_of_getElem? (i := 19) rfl)) (hw _ (List.mem_of_getElem? (i := 18) rfl)) (hw _ (List.mem_of_getElem? (i := 2) rfl)) (hw _ (List.mem_of_getElem? (i := 20) rfl)) (by decide) (rm4 l Z a0 hw [] b3 T5.heap n0 Z5 p1 A3_h5 Fq4_h5 ge_b3) (W := 0) (by decide) (by decide) rfl A3_h5 (g := (mkF m 25 #[.val (.long p1), .second, .val (.ref b1), .val (.ref b3), .val (.double (own_d (own_sr (own_mix (p1 + (-7046029254386353131 : Int64))) (11 : Int32)))), .second, .unset, .unset, .unset, .unset, .unset, .unset, .unset, .unset, .unset, .unset] [(.ref b3)])) rfl (by rw [hml]; rfl) (argsL := []) (rest := []) (lenOf pd_4 rfl) rfl rfl (by show 2 * 0 + _ ≤ _; exact Nat.le_of_eq rfl) (hb hby at_25) (by decide) (by decide)
  obtain ⟨rfl, Nq6, Kq6, Fq6⟩ := q6
  have N6 := Fr.app N5 Nq6
  have Z6 : n0 ≤ T6.heap.size := Nat.le_trans Z5 Kq6.1
  have A1_h6 := A1_h5.keep Kq6
  have A3_h6 := A3_h5.keep Kq6
  have Fq5_h6 := Fq5.keep Kq6 (ninS ne_b1_b3 nin0)
  refine own_by st6 ?_
  show own_Go p.tables e below s _ _ _ (T6.setTop (mkF m 28 #[.val (.long p1), .second, .val (.ref b1), .val (.ref b3), .val (.double (own_d (own_sr (own_mix (p1 + (-7046029254386353131 : Int64))) (11 : Int32)))), .second, .unset, .unset, .unset, .unset, .unset, .unset, .unset, .unset, .unset, .unset] [(.long (own_mix (p1 + (-7046029254386353131 : Int64))))]))
  refine own_by (fun _ kz => XS.bipush X6.here hx rfl (hb hby at_28) kz) ?_
  show own_Go p.tables e below s _ _ _ (T6.setTop (mkF m 30 #[.val (.long p1), .second, .val (.ref b1), .val (.ref b3), .val (.double (own_d (own_sr (own_mix (p1 + (-7046029254386353131 : Int64))) (11 : Int32)))), .second, .unset, .unset, .unset, .unset, .unset, .unset, .unset, .unset, .unset, .unset] [(.int (11 : Int32)), (.long (own_mix (p1 + (-7046029254386353131 : Int64))))]))
  refine own_by (fun _ kz => XS.lushr X6.here hx rfl (hb hby at_30) rfl kz) ?_
  show own_Go p.tables e below s _ _ _ (T6.setTop (mkF m 31 #[.val (.long p1), .second, .val (.ref b1), .val (.ref b3), .val (.double (own_d (own_sr (own_mix (p1 + (-7046029254386353131 : Int64))) (11 : Int32)))), .second, .unset, .unset, .unset, .unset, .unset, .unset, .unset, .unset, .unset, .unset] [(.long (own_sr (own_mix (p1 + (-7046029254386353131 : Int64))) (11 : Int32)))]))
  refine own_by (fun _ kz => XS.lstore X6.here hx rfl (hb hby at_31) rfl (l' := #[.val (.long p1), .second, .val (.ref b1), .val (.ref b3), .val (.double (own_d (own_sr (own_mix (p1 + (-7046029254386353131 : Int64))) (11 : Int32)))), .second, .val (.long (own_sr (own_mix (p1 + (-7046029254386353131 : Int64))) (11 : Int32))), .second, .unset, .unset, .unset, .unset, .unset, .unset, .unset, .unset]) rfl kz) ?_
  show own_Go p.tables e below s _ _ _ (T6.setTop (mkF m 33 #[.val (.long p1), .second, .val (.ref b1), .val (.ref b3), .val (.double (own_d (own_sr (own_mix (p1 + (-7046029254386353131 : Int64))) (11 : Int32)))), .second, .val (.long (own_sr (own_mix (p1 + (-7046029254386353131 : Int64))) (11 : Int32))), .second, .unset, .unset, .unset, .unset, .unset, .unset, .unset, .unset] []))
  refine own_by (fun _ kz => XS.dload X6.here hx rfl (hb hby at_33) rfl kz) ?_
  show own_Go p.tables e below s _ _ _ (T6.setTop (mkF m 35 #[.val (.long p1), .second, .val (.ref b1), .val (.ref b3), .val (.double (own_d (own_sr (own_mix (p1 + (-7046029254386353131 : Int64))) (11 : Int32)))), .second, .val (.long (own_sr (own_mix (p1 + (-7046029254386353131 : Int64))) (11 : Int32))), .second, .unset, .unset, .unset, .unset, .unset, .unset, .unset, .unset] [(.double (own_d (own_sr (own_mix (p1 + (-7046029254386353131 : Int64))) (11 : Int32))))]))
  refine own_by (fun _ kz => XS.dconst0 X6.here hx rfl (hb hby at_35) rfl kz) ?_
  show own_Go p.tables e below s _ _ _ (T6.setTop (mkF m 36 #[.val (.long p1), .second, .val (.ref b1), .val (.ref b3), .val (.double (own_d (own_sr (own_mix (p1 + (-7046029254386353131 : Int64))) (11 : Int32)))), .second, .val (.long (own_sr (own_mix (p1 + (-7046029254386353131 : Int64))) (11 : Int32))), .second, .unset, .unset, .unset, .unset, .unset, .unset, .unset, .unset] [(.double FP.dconst0), (.double (own_d (own_sr (own_mix (p1 + (-7046029254386353131 : Int64))) (11 : Int32))))]))
  refine own_by (fun _ kz => XS.dcmpS X6.here hx rfl (hb hby at_36) rfl rfl kz) ?_
  show own_Go p.tables e below s _ _ _ (T6.setTop (mkF m 37 #[.val (.long p1), .second, .val (.ref b1), .val (.ref b3), .val (.double (own_d (own_sr (own_mix (p1 + (-7046029254386353131 : Int64))) (11 : Int32)))), .second, .val (.long (own_sr (own_mix (p1 + (-7046029254386353131 : Int64))) (11 : Int32))), .second, .unset, .unset, .unset, .unset, .unset, .unset, .unset, .unset] [(.int (cmpValue (FP.dcmp (own_d (own_sr (own_mix (p1 + (-7046029254386353131 : Int64))) (11 : Int32))) FP.dconst0) .l))]))
  refine own_by (fun _ kz => XS.ifNo X6.here hx rfl (hb hby at_37) rfl ((if0 _ _).trans (flt (show ¬ (cmpValue (FP.dcmp (own_d (own_sr (own_mix (p1 + (-7046029254386353131 : Int64))) (11 : Int32))) FP.dconst0) .l) < (0 : Int32) from own_ge0 (own_mix (p1 + (-7046029254386353131 : Int64))))).1) kz) ?_
  show own_Go p.tables e below s _ _ _ (T6.setTop (mkF m 40 #[.val (.long p1), .second, .val (.ref b1), .val (.ref b3), .val (.double (own_d (own_sr (own_mix (p1 + (-7046029254386353131 : Int64))) (11 : Int32)))), .second, .val (.long (own_sr (own_mix (p1 + (-7046029254386353131 : Int64))) (11 : Int32))), .second, .unset, .unset, .unset, .unset, .unset, .unset, .unset, .unset] []))
  refine own_by (fun _ kz => XS.dload X6.here hx rfl (hb hby at_40) rfl kz) ?_
  show own_Go p.tables e below s _ _ _ (T6.setTop (mkF m 42 #[.val (.long p1), .second, .val (.ref b1), .val (.ref b3), .val (.double (own_d (own_sr (own_mix (p1 + (-7046029254386353131 : Int64))) (11 : Int32)))), .second, .val (.long (own_sr (own_mix (p1 + (-7046029254386353131 : Int64))) (11 : Int32))), .second, .unset, .unset, .unset, .unset, .unset, .unset, .unset, .unset] [(.double (own_d (own_sr (own_mix (p1 + (-7046029254386353131 : Int64))) (11 : Int32))))]))
  refine own_by (fun _ kz => XS.dconst1 X6.here hx rfl (hb hby at_42) rfl kz) ?_
  show own_Go p.tables e below s _ _ _ (T6.setTop (mkF m 43 #[.val (.long p1), .second, .val (.ref b1), .val (.ref b3), .val (.double (own_d (own_sr (own_mix (p1 + (-7046029254386353131 : Int64))) (11 : Int32)))), .second, .val (.long (own_sr (own_mix (p1 + (-7046029254386353131 : Int64))) (11 : Int32))), .second, .unset, .unset, .unset, .unset, .unset, .unset, .unset, .unset] [(.double FP.dconst1), (.double (own_d (own_sr (own_mix (p1 + (-7046029254386353131 : Int64))) (11 : Int32))))]))
  refine own_by (fun _ kz => XS.dcmpS X6.here hx rfl (hb hby at_43) rfl rfl kz) ?_
  show own_Go p.tables e below s _ _ _ (T6.setTop (mkF m 44 #[.val (.long p1), .second, .val (.ref b1), .val (.ref b3), .val (.double (own_d (own_sr (own_mix (p1 + (-7046029254386353131 : Int64))) (11 : Int32)))), .second, .val (.long (own_sr (own_mix (p1 + (-7046029254386353131 : Int64))) (11 : Int32))), .second, .unset, .unset, .unset, .unset, .unset, .unset, .unset, .unset] [(.int (cmpValue (FP.dcmp (own_d (own_sr (own_mix (p1 + (-7046029254386353131 : Int64))) (11 : Int32))) FP.dconst1) .g))]))
  refine own_by (fun _ kz => XS.ifNo X6.here hx rfl (hb hby at_44) rfl ((if0 _ _).trans (tlt (show (cmpValue (FP.dcmp (own_d (own_sr (own_mix (p1 + (-7046029254386353131 : Int64))) (11 : Int32))) FP.dconst1) .g) < (0 : Int32) from own_lt1 (own_mix (p1 + (-7046029254386353131 : Int64))))).2.1) kz) ?_
  show own_Go p.tables e below s _ _ _ (T6.setTop (mkF m 47 #[.val (.long p1), .second, .val (.ref b1), .val (.ref b3), .val (.double (own_d (own_sr (own_mix (p1 + (-7046029254386353131 : Int64))) (11 : Int32)))), .second, .val (.long (own_sr (own_mix (p1 + (-7046029254386353131 : Int64))) (11 : Int32))), .second, .unset, .unset, .unset, .unset, .unset, .unset, .unset, .unset] []))
  refine own_by (fun _ kz => XS.iconst X6.here hx rfl (hb hby at_47) kz) ?_
  show own_Go p.tables e below s _ _ _ (T6.setTop (mkF m 48 #[.val (.long p1), .second, .val (.ref b1), .val (.ref b3), .val (.double (own_d (own_sr (own_mix (p1 + (-7046029254386353131 : Int64))) (11 : Int32)))), .second, .val (.long (own_sr (own_mix (p1 + (-7046029254386353131 : Int64))) (11 : Int32))), .second, .unset, .unset, .unset, .unset, .unset, .unset, .unset, .unset] [(.int (1 : Int32))]))
  refine own_by (fun _ kz => XS.goto X6.here hx rfl (pc0 := 48) (pc' := 52) rfl (hb hby at_48) (by decide) (by decide) kz) ?_
  show own_Go p.tables e below s _ _ _ (T6.setTop (mkF m 52 #[.val (.long p1), .second, .val (.ref b1), .val (.ref b3), .val (.double (own_d (own_sr (own_mix (p1 + (-7046029254386353131 : Int64))) (11 : Int32)))), .second, .val (.long (own_sr (own_mix (p1 + (-7046029254386353131 : Int64))) (11 : Int32))), .second, .unset, .unset, .unset, .unset, .unset, .unset, .unset, .unset] [(.int (1 : Int32))]))
  refine own_by (fun _ kz => XS.istore X6.here hx rfl (hb hby at_52) rfl (l' := #[.val (.long p1), .second, .val (.ref b1), .val (.ref b3), .val (.double (own_d (own_sr (own_mix (p1 + (-7046029254386353131 : Int64))) (11 : Int32)))), .second, .val (.long (own_sr (own_mix (p1 + (-7046029254386353131 : Int64))) (11 : Int32))), .second, .val (.int (1 : Int32)), .unset, .unset, .unset, .unset, .unset, .unset, .unset]) rfl kz) ?_
  show own_Go p.tables e below s _ _ _ (T6.setTop (mkF m 54 #[.val (.long p1), .second, .val (.ref b1), .val (.ref b3), .val (.double (own_d (own_sr (own_mix (p1 + (-7046029254386353131 : Int64))) (11 : Int32)))), .second, .val (.long (own_sr (own_mix (p1 + (-7046029254386353131 : Int64))) (11 : Int32))), .second, .val (.int (1 : Int32)), .unset, .unset, .unset, .unset, .unset, .unset, .unset] []))
  refine own_by (fun _ kz => XS.dload X6.here hx rfl (hb hby at_54) rfl kz) ?_
  show own_Go p.tables e below s _ _ _ (T6.setTop (mkF m 56 #[.val (.long p1), .second, .val (.ref b1), .val (.ref b3), .val (.double (own_d (own_sr (own_mix (p1 + (-7046029254386353131 : Int64))) (11 : Int32)))), .second, .val (.long (own_sr (own_mix (p1 + (-7046029254386353131 : Int64))) (11 : Int32))), .second, .val (.int (1 : Int32)), .unset, .unset, .unset, .unset, .unset, .unset, .unset] [(.double (own_d (own_sr (own_mix (p1 + (-7046029254386353131 : Int64))) (11 : Int32))))]))
  refine own_by (fun _ kz => X6.ldc2DoubleC hx hown (mvT hZ (hw _ (List.mem_of_getElem? (i := 26) rfl))) (g := (mkF m 56 #[.val (.long p1), .second, .val (.ref b1), .val (.ref b3), .val (.double (own_d (own_sr (own_mix (p1 + (-7046029254386353131 : Int64))) (11 : Int32)))), .second, .val (.long (own_sr (own_mix (p1 + (-7046029254386353131 : Int64))) (11 : Int32))), .second, .val (.int (1 : Int32)), .unset, .unset, .unset, .unset, .unset, .unset, .unset] [(.double (own_d (own_sr (own_mix (p1 + (-7046029254386353131 : Int64))) (11 : Int32))))])) rfl (hb hby at_56) _ kz) ?_
  show own_Go p.tables e below s _ _ _ (T6.setTop (mkF m 59 #[.val (.long p1), .second, .val (.ref b1), .val (.ref b3), .val (.double (own_d (own_sr (own_mix (p1 + (-7046029254386353131 : Int64))) (11 : Int32)))), .second, .val (.long (own_sr (own_mix (p1 + (-7046029254386353131 : Int64))) (11 : Int32))), .second, .val (.int (1 : Int32)), .unset, .unset, .unset, .unset, .unset, .unset, .unset] [(.double (4845873199050653696 : UInt64)), (.double (own_d (own_sr (own_mix (p1 + (-7046029254386353131 : Int64))) (11 : Int32))))]))
  refine own_by (fun _ kz => XS.dmulS X6.here hx rfl (hb hby at_59) rfl (own_s_nn (own_mix (p1 + (-7046029254386353131 : Int64)))) (own_scaled (own_mix (p1 + (-7046029254386353131 : Int64)))) kz) ?_
  show own_Go p.tables e below s _ _ _ (T6.setTop (mkF m 60 #[.val (.long p1), .second, .val (.ref b1), .val (.ref b3), .val (.double (own_d (own_sr (own_mix (p1 + (-7046029254386353131 : Int64))) (11 : Int32)))), .second, .val (.long (own_sr (own_mix (p1 + (-7046029254386353131 : Int64))) (11 : Int32))), .second, .val (.int (1 : Int32)), .unset, .unset, .unset, .unset, .unset, .unset, .unset] [(.double (FP.l2d (own_sr (own_mix (p1 + (-7046029254386353131 : Int64))) (11 : Int32))))]))
  refine own_by (fun _ kz => XS.dstore X6.here hx rfl (hb hby at_60) rfl (l' := #[.val (.long p1), .second, .val (.ref b1), .val (.ref b3), .val (.double (own_d (own_sr (own_mix (p1 + (-7046029254386353131 : Int64))) (11 : Int32)))), .second, .val (.long (own_sr (own_mix (p1 + (-7046029254386353131 : Int64))) (11 : Int32))), .second, .val (.int (1 : Int32)), .val (.double (FP.l2d (own_sr (own_mix (p1 + (-7046029254386353131 : Int64))) (11 : Int32)))), .second, .unset, .unset, .unset, .unset, .unset]) rfl kz) ?_
  show own_Go p.tables e below s _ _ _ (T6.setTop (mkF m 62 #[.val (.long p1), .second, .val (.ref b1), .val (.ref b3), .val (.double (own_d (own_sr (own_mix (p1 + (-7046029254386353131 : Int64))) (11 : Int32)))), .second, .val (.long (own_sr (own_mix (p1 + (-7046029254386353131 : Int64))) (11 : Int32))), .second, .val (.int (1 : Int32)), .val (.double (FP.l2d (own_sr (own_mix (p1 + (-7046029254386353131 : Int64))) (11 : Int32)))), .second, .unset, .unset, .unset, .unset, .unset] []))
  refine own_by (fun _ kz => XS.dload X6.here hx rfl (hb hby at_62) rfl kz) ?_
  show own_Go p.tables e below s _ _ _ (T6.setTop (mkF m 64 #[.val (.long p1), .second, .val (.ref b1), .val (.ref b3), .val (.double (own_d (own_sr (own_mix (p1 + (-7046029254386353131 : Int64))) (11 : Int32)))), .second, .val (.long (own_sr (own_mix (p1 + (-7046029254386353131 : Int64))) (11 : Int32))), .second, .val (.int (1 : Int32)), .val (.double (FP.l2d (own_sr (own_mix (p1 + (-7046029254386353131 : Int64))) (11 : Int32)))), .second, .unset, .unset, .unset, .unset, .unset] [(.double (FP.l2d (own_sr (own_mix (p1 + (-7046029254386353131 : Int64))) (11 : Int32))))]))
  refine own_by (fun _ kz => XS.d2lS X6.here hx rfl (hb hby at_64) rfl (own_d2l (own_mix (p1 + (-7046029254386353131 : Int64)))) kz) ?_
  show own_Go p.tables e below s _ _ _ (T6.setTop (mkF m 65 #[.val (.long p1), .second, .val (.ref b1), .val (.ref b3), .val (.double (own_d (own_sr (own_mix (p1 + (-7046029254386353131 : Int64))) (11 : Int32)))), .second, .val (.long (own_sr (own_mix (p1 + (-7046029254386353131 : Int64))) (11 : Int32))), .second, .val (.int (1 : Int32)), .val (.double (FP.l2d (own_sr (own_mix (p1 + (-7046029254386353131 : Int64))) (11 : Int32)))), .second, .unset, .unset, .unset, .unset, .unset] [(.long (own_sr (own_mix (p1 + (-7046029254386353131 : Int64))) (11 : Int32)))]))
  refine own_by (fun _ kz => XS.lstore X6.here hx rfl (hb hby at_65) rfl (l' := #[.val (.long p1), .second, .val (.ref b1), .val (.ref b3), .val (.double (own_d (own_sr (own_mix (p1 + (-7046029254386353131 : Int64))) (11 : Int32)))), .second, .val (.long (own_sr (own_mix (p1 + (-7046029254386353131 : Int64))) (11 : Int32))), .second, .val (.int (1 : Int32)), .val (.double (FP.l2d (own_sr (own_mix (p1 + (-7046029254386353131 : Int64))) (11 : Int32)))), .second, .val (.long (own_sr (own_mix (p1 + (-7046029254386353131 : Int64))) (11 : Int32))), .second, .unset, .unset, .unset]) rfl kz) ?_
  show own_Go p.tables e below s _ _ _ (T6.setTop (mkF m 67 #[.val (.long p1), .second, .val (.ref b1), .val (.ref b3), .val (.double (own_d (own_sr (own_mix (p1 + (-7046029254386353131 : Int64))) (11 : Int32)))), .second, .val (.long (own_sr (own_mix (p1 + (-7046029254386353131 : Int64))) (11 : Int32))), .second, .val (.int (1 : Int32)), .val (.double (FP.l2d (own_sr (own_mix (p1 + (-7046029254386353131 : Int64))) (11 : Int32)))), .second, .val (.long (own_sr (own_mix (p1 + (-7046029254386353131 : Int64))) (11 : Int32))), .second, .unset, .unset, .unset] []))
  refine own_by (fun _ kz => XS.lload X6.here hx rfl (hb hby at_67) rfl kz) ?_
  show own_Go p.tables e below s _ _ _ (T6.setTop (mkF m 69 #[.val (.long p1), .second, .val (.ref b1), .val (.ref b3), .val (.double (own_d (own_sr (own_mix (p1 + (-7046029254386353131 : Int64))) (11 : Int32)))), .second, .val (.long (own_sr (own_mix (p1 + (-7046029254386353131 : Int64))) (11 : Int32))), .second, .val (.int (1 : Int32)), .val (.double (FP.l2d (own_sr (own_mix (p1 + (-7046029254386353131 : Int64))) (11 : Int32)))), .second, .val (.long (own_sr (own_mix (p1 + (-7046029254386353131 : Int64))) (11 : Int32))), .second, .unset, .unset, .unset] [(.long (own_sr (own_mix (p1 + (-7046029254386353131 : Int64))) (11 : Int32)))]))
  refine own_by (fun _ kz => XS.l2dS X6.here hx rfl (hb hby at_69) rfl rfl kz) ?_
  show own_Go p.tables e below s _ _ _ (T6.setTop (mkF m 70 #[.val (.long p1), .second, .val (.ref b1), .val (.ref b3), .val (.double (own_d (own_sr (own_mix (p1 + (-7046029254386353131 : Int64))) (11 : Int32)))), .second, .val (.long (own_sr (own_mix (p1 + (-7046029254386353131 : Int64))) (11 : Int32))), .second, .val (.int (1 : Int32)), .val (.double (FP.l2d (own_sr (own_mix (p1 + (-7046029254386353131 : Int64))) (11 : Int32)))), .second, .val (.long (own_sr (own_mix (p1 + (-7046029254386353131 : Int64))) (11 : Int32))), .second, .unset, .unset, .unset] [(.double (FP.l2d (own_sr (own_mix (p1 + (-7046029254386353131 : Int64))) (11 : Int32))))]))
  refine own_by (fun _ kz => XS.dload X6.here hx rfl (hb hby at_70) rfl kz) ?_
  show own_Go p.tables e below s _ _ _ (T6.setTop (mkF m 72 #[.val (.long p1), .second, .val (.ref b1), .val (.ref b3), .val (.double (own_d (own_sr (own_mix (p1 + (-7046029254386353131 : Int64))) (11 : Int32)))), .second, .val (.long (own_sr (own_mix (p1 + (-7046029254386353131 : Int64))) (11 : Int32))), .second, .val (.int (1 : Int32)), .val (.double (FP.l2d (own_sr (own_mix (p1 + (-7046029254386353131 : Int64))) (11 : Int32)))), .second, .val (.long (own_sr (own_mix (p1 + (-7046029254386353131 : Int64))) (11 : Int32))), .second, .unset, .unset, .unset] [(.double (FP.l2d (own_sr (own_mix (p1 + (-7046029254386353131 : Int64))) (11 : Int32)))), (.double (FP.l2d (own_sr (own_mix (p1 + (-7046029254386353131 : Int64))) (11 : Int32))))]))
  refine own_by (fun _ kz => XS.dcmpS X6.here hx rfl (hb hby at_72) rfl (own_self (own_mix (p1 + (-7046029254386353131 : Int64))) .l) kz) ?_
  show own_Go p.tables e below s _ _ _ (T6.setTop (mkF m 73 #[.val (.long p1), .second, .val (.ref b1), .val (.ref b3), .val (.double (own_d (own_sr (own_mix (p1 + (-7046029254386353131 : Int64))) (11 : Int32)))), .second, .val (.long (own_sr (own_mix (p1 + (-7046029254386353131 : Int64))) (11 : Int32))), .second, .val (.int (1 : Int32)), .val (.double (FP.l2d (own_sr (own_mix (p1 + (-7046029254386353131 : Int64))) (11 : Int32)))), .second, .val (.long (own_sr (own_mix (p1 + (-7046029254386353131 : Int64))) (11 : Int32))), .second, .unset, .unset, .unset] [(.int (0 : Int32))]))
  refine own_by (fun _ kz => XS.ifNo X6.here hx rfl (hb hby at_73) rfl ((if0 _ _).trans (teq (by decide : ((0 : Int32) = (0 : Int32)))).2) kz) ?_
  show own_Go p.tables e below s _ _ _ (T6.setTop (mkF m 76 #[.val (.long p1), .second, .val (.ref b1), .val (.ref b3), .val (.double (own_d (own_sr (own_mix (p1 + (-7046029254386353131 : Int64))) (11 : Int32)))), .second, .val (.long (own_sr (own_mix (p1 + (-7046029254386353131 : Int64))) (11 : Int32))), .second, .val (.int (1 : Int32)), .val (.double (FP.l2d (own_sr (own_mix (p1 + (-7046029254386353131 : Int64))) (11 : Int32)))), .second, .val (.long (own_sr (own_mix (p1 + (-7046029254386353131 : Int64))) (11 : Int32))), .second, .unset, .unset, .unset] []))
  refine own_by (fun _ kz => XS.iconst X6.here hx rfl (hb hby at_76) kz) ?_
  show own_Go p.tables e below s _ _ _ (T6.setTop (mkF m 77 #[.val (.long p1), .second, .val (.ref b1), .val (.ref b3), .val (.double (own_d (own_sr (own_mix (p1 + (-7046029254386353131 : Int64))) (11 : Int32)))), .second, .val (.long (own_sr (own_mix (p1 + (-7046029254386353131 : Int64))) (11 : Int32))), .second, .val (.int (1 : Int32)), .val (.double (FP.l2d (own_sr (own_mix (p1 + (-7046029254386353131 : Int64))) (11 : Int32)))), .second, .val (.long (own_sr (own_mix (p1 + (-7046029254386353131 : Int64))) (11 : Int32))), .second, .unset, .unset, .unset] [(.int (1 : Int32))]))
  refine own_by (fun _ kz => XS.goto X6.here hx rfl (pc0 := 77) (pc' := 81) rfl (hb hby at_77) (by decide) (by decide) kz) ?_
  show own_Go p.tables e below s _ _ _ (T6.setTop (mkF m 81 #[.val (.long p1), .second, .val (.ref b1), .val (.ref b3), .val (.double (own_d (own_sr (own_mix (p1 + (-7046029254386353131 : Int64))) (11 : Int32)))), .second, .val (.long (own_sr (own_mix (p1 + (-7046029254386353131 : Int64))) (11 : Int32))), .second, .val (.int (1 : Int32)), .val (.double (FP.l2d (own_sr (own_mix (p1 + (-7046029254386353131 : Int64))) (11 : Int32)))), .second, .val (.long (own_sr (own_mix (p1 + (-7046029254386353131 : Int64))) (11 : Int32))), .second, .unset, .unset, .unset] [(.int (1 : Int32))]))
  refine own_by (fun _ kz => XS.istore X6.here hx rfl (hb hby at_81) rfl (l' := #[.val (.long p1), .second, .val (.ref b1), .val (.ref b3), .val (.double (own_d (own_sr (own_mix (p1 + (-7046029254386353131 : Int64))) (11 : Int32)))), .second, .val (.long (own_sr (own_mix (p1 + (-7046029254386353131 : Int64))) (11 : Int32))), .second, .val (.int (1 : Int32)), .val (.double (FP.l2d (own_sr (own_mix (p1 + (-7046029254386353131 : Int64))) (11 : Int32)))), .second, .val (.long (own_sr (own_mix (p1 + (-7046029254386353131 : Int64))) (11 : Int32))), .second, .val (.int (1 : Int32)), .unset, .unset]) rfl kz) ?_
  show own_Go p.tables e below s _ _ _ (T6.setTop (mkF m 83 #[.val (.long p1), .second, .val (.ref b1), .val (.ref b3), .val (.double (own_d (own_sr (own_mix (p1 + (-7046029254386353131 : Int64))) (11 : Int32)))), .second, .val (.long (own_sr (own_mix (p1 + (-7046029254386353131 : Int64))) (11 : Int32))), .second, .val (.int (1 : Int32)), .val (.double (FP.l2d (own_sr (own_mix (p1 + (-7046029254386353131 : Int64))) (11 : Int32)))), .second, .val (.long (own_sr (own_mix (p1 + (-7046029254386353131 : Int64))) (11 : Int32))), .second, .val (.int (1 : Int32)), .unset, .unset] []))
  refine own_by (fun _ kz => XS.lload X6.here hx rfl (hb hby at_83) rfl kz) ?_
  show own_Go p.tables e below s _ _ _ (T6.setTop (mkF m 85 #[.val (.long p1), .second, .val (.ref b1), .val (.ref b3), .val (.double (own_d (own_sr (own_mix (p1 + (-7046029254386353131 : Int64))) (11 : Int32)))), .second, .val (.long (own_sr (own_mix (p1 + (-7046029254386353131 : Int64))) (11 : Int32))), .second, .val (.int (1 : Int32)), .val (.double (FP.l2d (own_sr (own_mix (p1 + (-7046029254386353131 : Int64))) (11 : Int32)))), .second, .val (.long (own_sr (own_mix (p1 + (-7046029254386353131 : Int64))) (11 : Int32))), .second, .val (.int (1 : Int32)), .unset, .unset] [(.long (own_sr (own_mix (p1 + (-7046029254386353131 : Int64))) (11 : Int32)))]))
  refine own_by (fun _ kz => XS.lload X6.here hx rfl (hb hby at_85) rfl kz) ?_
  show own_Go p.tables e below s _ _ _ (T6.setTop (mkF m 87 #[.val (.long p1), .second, .val (.ref b1), .val (.ref b3), .val (.double (own_d (own_sr (own_mix (p1 + (-7046029254386353131 : Int64))) (11 : Int32)))), .second, .val (.long (own_sr (own_mix (p1 + (-7046029254386353131 : Int64))) (11 : Int32))), .second, .val (.int (1 : Int32)), .val (.double (FP.l2d (own_sr (own_mix (p1 + (-7046029254386353131 : Int64))) (11 : Int32)))), .second, .val (.long (own_sr (own_mix (p1 + (-7046029254386353131 : Int64))) (11 : Int32))), .second, .val (.int (1 : Int32)), .unset, .unset] [(.long (own_sr (own_mix (p1 + (-7046029254386353131 : Int64))) (11 : Int32))), (.long (own_sr (own_mix (p1 + (-7046029254386353131 : Int64))) (11 : Int32)))]))
  refine own_by (fun _ kz => XS.lcmp X6.here hx rfl (hb hby at_87) rfl kz) ?_
  show own_Go p.tables e below s _ _ _ (T6.setTop (mkF m 88 #[.val (.long p1), .second, .val (.ref b1), .val (.ref b3), .val (.double (own_d (own_sr (own_mix (p1 + (-7046029254386353131 : Int64))) (11 : Int32)))), .second, .val (.long (own_sr (own_mix (p1 + (-7046029254386353131 : Int64))) (11 : Int32))), .second, .val (.int (1 : Int32)), .val (.double (FP.l2d (own_sr (own_mix (p1 + (-7046029254386353131 : Int64))) (11 : Int32)))), .second, .val (.long (own_sr (own_mix (p1 + (-7046029254386353131 : Int64))) (11 : Int32))), .second, .val (.int (1 : Int32)), .unset, .unset] [(.int (lcmpW (own_sr (own_mix (p1 + (-7046029254386353131 : Int64))) (11 : Int32)) (own_sr (own_mix (p1 + (-7046029254386353131 : Int64))) (11 : Int32))))]))
  refine own_by (fun _ kz => XS.ifNo X6.here hx rfl (hb hby at_88) rfl ((if0 _ _).trans (teq (show (lcmpW (own_sr (own_mix (p1 + (-7046029254386353131 : Int64))) (11 : Int32)) (own_sr (own_mix (p1 + (-7046029254386353131 : Int64))) (11 : Int32))) = (0 : Int32) from (lw_eq _ _).mpr rfl)).2) kz) ?_
  show own_Go p.tables e below s _ _ _ (T6.setTop (mkF m 91 #[.val (.long p1), .second, .val (.ref b1), .val (.ref b3), .val (.double (own_d (own_sr (own_mix (p1 + (-7046029254386353131 : Int64))) (11 : Int32)))), .second, .val (.long (own_sr (own_mix (p1 + (-7046029254386353131 : Int64))) (11 : Int32))), .second, .val (.int (1 : Int32)), .val (.double (FP.l2d (own_sr (own_mix (p1 + (-7046029254386353131 : Int64))) (11 : Int32)))), .second, .val (.long (own_sr (own_mix (p1 + (-7046029254386353131 : Int64))) (11 : Int32))), .second, .val (.int (1 : Int32)), .unset, .unset] []))
  refine own_by (fun _ kz => XS.iconst X6.here hx rfl (hb hby at_91) kz) ?_
  show own_Go p.tables e below s _ _ _ (T6.setTop (mkF m 92 #[.val (.long p1), .second, .val (.ref b1), .val (.ref b3), .val (.double (own_d (own_sr (own_mix (p1 + (-7046029254386353131 : Int64))) (11 : Int32)))), .second, .val (.long (own_sr (own_mix (p1 + (-7046029254386353131 : Int64))) (11 : Int32))), .second, .val (.int (1 : Int32)), .val (.double (FP.l2d (own_sr (own_mix (p1 + (-7046029254386353131 : Int64))) (11 : Int32)))), .second, .val (.long (own_sr (own_mix (p1 + (-7046029254386353131 : Int64))) (11 : Int32))), .second, .val (.int (1 : Int32)), .unset, .unset] [(.int (1 : Int32))]))
  refine own_by (fun _ kz => XS.goto X6.here hx rfl (pc0 := 92) (pc' := 96) rfl (hb hby at_92) (by decide) (by decide) kz) ?_
  show own_Go p.tables e below s _ _ _ (T6.setTop (mkF m 96 #[.val (.long p1), .second, .val (.ref b1), .val (.ref b3), .val (.double (own_d (own_sr (own_mix (p1 + (-7046029254386353131 : Int64))) (11 : Int32)))), .second, .val (.long (own_sr (own_mix (p1 + (-7046029254386353131 : Int64))) (11 : Int32))), .second, .val (.int (1 : Int32)), .val (.double (FP.l2d (own_sr (own_mix (p1 + (-7046029254386353131 : Int64))) (11 : Int32)))), .second, .val (.long (own_sr (own_mix (p1 + (-7046029254386353131 : Int64))) (11 : Int32))), .second, .val (.int (1 : Int32)), .unset, .unset] [(.int (1 : Int32))]))
  refine own_by (fun _ kz => XS.istore X6.here hx rfl (hb hby at_96) rfl (l' := #[.val (.long p1), .second, .val (.ref b1), .val (.ref b3), .val (.double (own_d (own_sr (own_mix (p1 + (-7046029254386353131 : Int64))) (11 : Int32)))), .second, .val (.long (own_sr (own_mix (p1 + (-7046029254386353131 : Int64))) (11 : Int32))), .second, .val (.int (1 : Int32)), .val (.double (FP.l2d (own_sr (own_mix (p1 + (-7046029254386353131 : Int64))) (11 : Int32)))), .second, .val (.long (own_sr (own_mix (p1 + (-7046029254386353131 : Int64))) (11 : Int32))), .second, .val (.int (1 : Int32)), .val (.int (1 : Int32)), .unset]) rfl kz) ?_
  show own_Go p.tables e below s _ _ _ (T6.setTop (mkF m 98 #[.val (.long p1), .second, .val (.ref b1), .val (.ref b3), .val (.double (own_d (own_sr (own_mix (p1 + (-7046029254386353131 : Int64))) (11 : Int32)))), .second, .val (.long (own_sr (own_mix (p1 + (-7046029254386353131 : Int64))) (11 : Int32))), .second, .val (.int (1 : Int32)), .val (.double (FP.l2d (own_sr (own_mix (p1 + (-7046029254386353131 : Int64))) (11 : Int32)))), .second, .val (.long (own_sr (own_mix (p1 + (-7046029254386353131 : Int64))) (11 : Int32))), .second, .val (.int (1 : Int32)), .val (.int (1 : Int32)), .unset] []))
  refine own_by (fun _ kz => XS.aloadN X6.here hx rfl (hb hby at_98) rfl rfl kz) ?_
  show own_Go p.tables e below s _ _ _ (T6.setTop (mkF m 99 #[.val (.long p1), .second, .val (.ref b1), .val (.ref b3), .val (.double (own_d (own_sr (own_mix (p1 + (-7046029254386353131 : Int64))) (11 : Int32)))), .second, .val (.long (own_sr (own_mix (p1 + (-7046029254386353131 : Int64))) (11 : Int32))), .second, .val (.int (1 : Int32)), .val (.double (FP.l2d (own_sr (own_mix (p1 + (-7046029254386353131 : Int64))) (11 : Int32)))), .second, .val (.long (own_sr (own_mix (p1 + (-7046029254386353131 : Int64))) (11 : Int32))), .second, .val (.int (1 : Int32)), .val (.int (1 : Int32)), .unset] [(.ref b1)]))
  obtain ⟨v7, T7, L7, X7, q7, st7⟩ := own_callV X6 hx hZ hown (hw _ (List.mem_of_getElem? (i := 25) rfl)) (hw _ (List.mem_of_getElem? (i := 17) rfl)) (hw _ (List.mem_of_getElem? (i := 19) rfl)) (hw _ (List.mem_of_getElem? (i := 18) rfl)) (hw _ (List.mem_of_getElem? (i := 2) rfl)) (hw _ (List.mem_of_getElem? (i := 20) rfl)) (by decide) (rm4 l Z a0 hw [] b1 T6.heap n0 Z6 (p1 + (-7046029254386353131 : Int64)) A1_h6 Fq5_h6 ge_b1) (W := 0) (by decide) (by decide) rfl A1_h6 (g := (mkF m 99 #[.val (.long p1), .second, .val (.ref b1), .val (.ref b3), .val (.double (own_d (own_sr (own_mix (p1 + (-7046029254386353131 : Int64))) (11 : Int32)))), .second, .val (.long (own_sr (own_mix (p1 + (-7046029254386353131 : Int64))) (11 : Int32))), .second, .val (.int (1 : Int32)), .val (.double (FP.l2d (own_sr (own_mix (p1 + (-7046029254386353131 : Int64))) (11 : Int32)))), .second, .val (.long (own_sr (own_mix (p1 + (-7046029254386353131 : Int64))) (11 : Int32))), .second, .val (.int (1 : Int32)), .val (.int (1 : Int32)), .unset] [(.ref b1)])) rfl (by rw [hml]; rfl) (argsL := []) (rest := []) (lenOf pd_4 rfl) rfl rfl (by show 2 * 0 + _ ≤ _; exact Nat.le_of_eq rfl) (hb hby at_99) (by decide) (by decide)
  obtain ⟨rfl, Nq7, Kq7, Fq7⟩ := q7
  have N7 := Fr.app N6 Nq7
  have Z7 : n0 ≤ T7.heap.size := Nat.le_trans Z6 Kq7.1
  have A1_h7 := A1_h6.keep Kq7
  have A3_h7 := A3_h6.keep Kq7
  have Fq6_h7 := Fq6.keep Kq7 (ninS (Ne.symm ne_b1_b3) nin0)
  refine own_by st7 ?_
  show own_Go p.tables e below s _ _ _ (T7.setTop (mkF m 102 #[.val (.long p1), .second, .val (.ref b1), .val (.ref b3), .val (.double (own_d (own_sr (own_mix (p1 + (-7046029254386353131 : Int64))) (11 : Int32)))), .second, .val (.long (own_sr (own_mix (p1 + (-7046029254386353131 : Int64))) (11 : Int32))), .second, .val (.int (1 : Int32)), .val (.double (FP.l2d (own_sr (own_mix (p1 + (-7046029254386353131 : Int64))) (11 : Int32)))), .second, .val (.long (own_sr (own_mix (p1 + (-7046029254386353131 : Int64))) (11 : Int32))), .second, .val (.int (1 : Int32)), .val (.int (1 : Int32)), .unset] [(.long (own_mix ((p1 + (-7046029254386353131 : Int64)) + (-7046029254386353131 : Int64))))]))
  refine own_by (fun _ kz => XS.aloadN X7.here hx rfl (hb hby at_102) rfl rfl kz) ?_
  show own_Go p.tables e below s _ _ _ (T7.setTop (mkF m 103 #[.val (.long p1), .second, .val (.ref b1), .val (.ref b3), .val (.double (own_d (own_sr (own_mix (p1 + (-7046029254386353131 : Int64))) (11 : Int32)))), .second, .val (.long (own_sr (own_mix (p1 + (-7046029254386353131 : Int64))) (11 : Int32))), .second, .val (.int (1 : Int32)), .val (.double (FP.l2d (own_sr (own_mix (p1 + (-7046029254386353131 : Int64))) (11 : Int32)))), .second, .val (.long (own_sr (own_mix (p1 + (-7046029254386353131 : Int64))) (11 : Int32))), .second, .val (.int (1 : Int32)), .val (.int (1 : Int32)), .unset] [(.ref b3), (.long (own_mix ((p1 + (-7046029254386353131 : Int64)) + (-7046029254386353131 : Int64))))]))
  obtain ⟨v8, T8, L8, X8, q8, st8⟩ := own_callV X7 hx hZ hown (hw _ (List.mem_of_getElem? (i := 25) rfl)) (hw _ (List.mem_of_getElem? (i := 17) rfl)) (hw _ (List.mem_of_getElem? (i := 19) rfl)) (hw _ (List.mem_of_getElem? (i := 18) rfl)) (hw _ (List.mem_of_getElem? (i := 2) rfl)) (hw _ (List.mem_of_getElem? (i := 20) rfl)) (by decide) (rm4 l Z a0 hw [] b3 T7.heap n0 Z7 (p1 + (-7046029254386353131 : Int64)) A3_h7 Fq6_h7 ge_b3) (W := 2) (by decide) (by decide) rfl A3_h7 (g := (mkF m 103 #[.val (.long p1), .second, .val (.ref b1), .val (.ref b3), .val (.double (own_d (own_sr (own_mix (p1 + (-7046029254386353131 : Int64))) (11 : Int32)))), .second, .val (.long (own_sr (own_mix (p1 + (-7046029254386353131 : Int64))) (11 : Int32))), .second, .val (.int (1 : Int32)), .val (.double (FP.l2d (own_sr (own_mix (p1 + (-7046029254386353131 : Int64))) (11 : Int32)))), .second, .val (.long (own_sr (own_mix (p1 + (-7046029254386353131 : Int64))) (11 : Int32))), .second, .val (.int (1 : Int32)), .val (.int (1 : Int32)), .unset] [(.ref b3), (.long (own_mix ((p1 + (-7046029254386353131 : Int64)) + (-7046029254386353131 : Int64))))])) rfl (by rw [hml]; rfl) (argsL := []) (rest := [(.long (own_mix ((p1 + (-7046029254386353131 : Int64)) + (-7046029254386353131 : Int64))))]) (lenOf pd_4 rfl) rfl rfl (by show 2 * 0 + _ ≤ _; exact Nat.le_of_eq rfl) (hb hby at_103) (by decide) (by decide)
  obtain ⟨rfl, Nq8, Kq8, Fq8⟩ := q8
  have N8 := Fr.app N7 Nq8
  have Z8 : n0 ≤ T8.heap.size := Nat.le_trans Z7 Kq8.1
  have A1_h8 := A1_h7.keep Kq8
  have A3_h8 := A3_h7.keep Kq8
  have Fq7_h8 := Fq7.keep Kq8 (ninS ne_b1_b3 nin0)
  refine own_by st8 ?_
  show own_Go p.tables e below s _ _ _ (T8.setTop (mkF m 106 #[.val (.long p1), .second, .val (.ref b1), .val (.ref b3), .val (.double (own_d (own_sr (own_mix (p1 + (-7046029254386353131 : Int64))) (11 : Int32)))), .second, .val (.long (own_sr (own_mix (p1 + (-7046029254386353131 : Int64))) (11 : Int32))), .second, .val (.int (1 : Int32)), .val (.double (FP.l2d (own_sr (own_mix (p1 + (-7046029254386353131 : Int64))) (11 : Int32)))), .second, .val (.long (own_sr (own_mix (p1 + (-7046029254386353131 : Int64))) (11 : Int32))), .second, .val (.int (1 : Int32)), .val (.int (1 : Int32)), .unset] [(.long (own_mix ((p1 + (-7046029254386353131 : Int64)) + (-7046029254386353131 : Int64)))), (.long (own_mix ((p1 + (-7046029254386353131 : Int64)) + (-7046029254386353131 : Int64))))]))
  refine own_by (fun _ kz => XS.lcmp X8.here hx rfl (hb hby at_106) rfl kz) ?_
  show own_Go p.tables e below s _ _ _ (T8.setTop (mkF m 107 #[.val (.long p1), .second, .val (.ref b1), .val (.ref b3), .val (.double (own_d (own_sr (own_mix (p1 + (-7046029254386353131 : Int64))) (11 : Int32)))), .second, .val (.long (own_sr (own_mix (p1 + (-7046029254386353131 : Int64))) (11 : Int32))), .second, .val (.int (1 : Int32)), .val (.double (FP.l2d (own_sr (own_mix (p1 + (-7046029254386353131 : Int64))) (11 : Int32)))), .second, .val (.long (own_sr (own_mix (p1 + (-7046029254386353131 : Int64))) (11 : Int32))), .second, .val (.int (1 : Int32)), .val (.int (1 : Int32)), .unset] [(.int (lcmpW (own_mix ((p1 + (-7046029254386353131 : Int64)) + (-7046029254386353131 : Int64))) (own_mix ((p1 + (-7046029254386353131 : Int64)) + (-7046029254386353131 : Int64)))))]))
  refine own_by (fun _ kz => XS.ifNo X8.here hx rfl (hb hby at_107) rfl ((if0 _ _).trans (teq (show (lcmpW (own_mix ((p1 + (-7046029254386353131 : Int64)) + (-7046029254386353131 : Int64))) (own_mix ((p1 + (-7046029254386353131 : Int64)) + (-7046029254386353131 : Int64)))) = (0 : Int32) from (lw_eq _ _).mpr rfl)).2) kz) ?_
  show own_Go p.tables e below s _ _ _ (T8.setTop (mkF m 110 #[.val (.long p1), .second, .val (.ref b1), .val (.ref b3), .val (.double (own_d (own_sr (own_mix (p1 + (-7046029254386353131 : Int64))) (11 : Int32)))), .second, .val (.long (own_sr (own_mix (p1 + (-7046029254386353131 : Int64))) (11 : Int32))), .second, .val (.int (1 : Int32)), .val (.double (FP.l2d (own_sr (own_mix (p1 + (-7046029254386353131 : Int64))) (11 : Int32)))), .second, .val (.long (own_sr (own_mix (p1 + (-7046029254386353131 : Int64))) (11 : Int32))), .second, .val (.int (1 : Int32)), .val (.int (1 : Int32)), .unset] []))
  refine own_by (fun _ kz => XS.iconst X8.here hx rfl (hb hby at_110) kz) ?_
  show own_Go p.tables e below s _ _ _ (T8.setTop (mkF m 111 #[.val (.long p1), .second, .val (.ref b1), .val (.ref b3), .val (.double (own_d (own_sr (own_mix (p1 + (-7046029254386353131 : Int64))) (11 : Int32)))), .second, .val (.long (own_sr (own_mix (p1 + (-7046029254386353131 : Int64))) (11 : Int32))), .second, .val (.int (1 : Int32)), .val (.double (FP.l2d (own_sr (own_mix (p1 + (-7046029254386353131 : Int64))) (11 : Int32)))), .second, .val (.long (own_sr (own_mix (p1 + (-7046029254386353131 : Int64))) (11 : Int32))), .second, .val (.int (1 : Int32)), .val (.int (1 : Int32)), .unset] [(.int (1 : Int32))]))
  refine own_by (fun _ kz => XS.goto X8.here hx rfl (pc0 := 111) (pc' := 115) rfl (hb hby at_111) (by decide) (by decide) kz) ?_
  show own_Go p.tables e below s _ _ _ (T8.setTop (mkF m 115 #[.val (.long p1), .second, .val (.ref b1), .val (.ref b3), .val (.double (own_d (own_sr (own_mix (p1 + (-7046029254386353131 : Int64))) (11 : Int32)))), .second, .val (.long (own_sr (own_mix (p1 + (-7046029254386353131 : Int64))) (11 : Int32))), .second, .val (.int (1 : Int32)), .val (.double (FP.l2d (own_sr (own_mix (p1 + (-7046029254386353131 : Int64))) (11 : Int32)))), .second, .val (.long (own_sr (own_mix (p1 + (-7046029254386353131 : Int64))) (11 : Int32))), .second, .val (.int (1 : Int32)), .val (.int (1 : Int32)), .unset] [(.int (1 : Int32))]))
  refine own_by (fun _ kz => XS.istore X8.here hx rfl (hb hby at_115) rfl (l' := #[.val (.long p1), .second, .val (.ref b1), .val (.ref b3), .val (.double (own_d (own_sr (own_mix (p1 + (-7046029254386353131 : Int64))) (11 : Int32)))), .second, .val (.long (own_sr (own_mix (p1 + (-7046029254386353131 : Int64))) (11 : Int32))), .second, .val (.int (1 : Int32)), .val (.double (FP.l2d (own_sr (own_mix (p1 + (-7046029254386353131 : Int64))) (11 : Int32)))), .second, .val (.long (own_sr (own_mix (p1 + (-7046029254386353131 : Int64))) (11 : Int32))), .second, .val (.int (1 : Int32)), .val (.int (1 : Int32)), .val (.int (1 : Int32))]) rfl kz) ?_
  show own_Go p.tables e below s _ _ _ (T8.setTop (mkF m 117 #[.val (.long p1), .second, .val (.ref b1), .val (.ref b3), .val (.double (own_d (own_sr (own_mix (p1 + (-7046029254386353131 : Int64))) (11 : Int32)))), .second, .val (.long (own_sr (own_mix (p1 + (-7046029254386353131 : Int64))) (11 : Int32))), .second, .val (.int (1 : Int32)), .val (.double (FP.l2d (own_sr (own_mix (p1 + (-7046029254386353131 : Int64))) (11 : Int32)))), .second, .val (.long (own_sr (own_mix (p1 + (-7046029254386353131 : Int64))) (11 : Int32))), .second, .val (.int (1 : Int32)), .val (.int (1 : Int32)), .val (.int (1 : Int32))] []))
  refine own_by (fun _ kz => XS.iload X8.here hx rfl (hb hby at_117) rfl kz) ?_
  show own_Go p.tables e below s _ _ _ (T8.setTop (mkF m 119 #[.val (.long p1), .second, .val (.ref b1), .val (.ref b3), .val (.double (own_d (own_sr (own_mix (p1 + (-7046029254386353131 : Int64))) (11 : Int32)))), .second, .val (.long (own_sr (own_mix (p1 + (-7046029254386353131 : Int64))) (11 : Int32))), .second, .val (.int (1 : Int32)), .val (.double (FP.l2d (own_sr (own_mix (p1 + (-7046029254386353131 : Int64))) (11 : Int32)))), .second, .val (.long (own_sr (own_mix (p1 + (-7046029254386353131 : Int64))) (11 : Int32))), .second, .val (.int (1 : Int32)), .val (.int (1 : Int32)), .val (.int (1 : Int32))] [(.int (1 : Int32))]))
  refine own_by (fun _ kz => XS.ifNo X8.here hx rfl (hb hby at_119) rfl ((if0 _ _).trans (feq (by decide : ¬ ((1 : Int32) = (0 : Int32)))).1) kz) ?_
  show own_Go p.tables e below s _ _ _ (T8.setTop (mkF m 122 #[.val (.long p1), .second, .val (.ref b1), .val (.ref b3), .val (.double (own_d (own_sr (own_mix (p1 + (-7046029254386353131 : Int64))) (11 : Int32)))), .second, .val (.long (own_sr (own_mix (p1 + (-7046029254386353131 : Int64))) (11 : Int32))), .second, .val (.int (1 : Int32)), .val (.double (FP.l2d (own_sr (own_mix (p1 + (-7046029254386353131 : Int64))) (11 : Int32)))), .second, .val (.long (own_sr (own_mix (p1 + (-7046029254386353131 : Int64))) (11 : Int32))), .second, .val (.int (1 : Int32)), .val (.int (1 : Int32)), .val (.int (1 : Int32))] []))
  refine own_by (fun _ kz => XS.iload X8.here hx rfl (hb hby at_122) rfl kz) ?_
  show own_Go p.tables e below s _ _ _ (T8.setTop (mkF m 124 #[.val (.long p1), .second, .val (.ref b1), .val (.ref b3), .val (.double (own_d (own_sr (own_mix (p1 + (-7046029254386353131 : Int64))) (11 : Int32)))), .second, .val (.long (own_sr (own_mix (p1 + (-7046029254386353131 : Int64))) (11 : Int32))), .second, .val (.int (1 : Int32)), .val (.double (FP.l2d (own_sr (own_mix (p1 + (-7046029254386353131 : Int64))) (11 : Int32)))), .second, .val (.long (own_sr (own_mix (p1 + (-7046029254386353131 : Int64))) (11 : Int32))), .second, .val (.int (1 : Int32)), .val (.int (1 : Int32)), .val (.int (1 : Int32))] [(.int (1 : Int32))]))
  refine own_by (fun _ kz => XS.ifNo X8.here hx rfl (hb hby at_124) rfl ((if0 _ _).trans (feq (by decide : ¬ ((1 : Int32) = (0 : Int32)))).1) kz) ?_
  show own_Go p.tables e below s _ _ _ (T8.setTop (mkF m 127 #[.val (.long p1), .second, .val (.ref b1), .val (.ref b3), .val (.double (own_d (own_sr (own_mix (p1 + (-7046029254386353131 : Int64))) (11 : Int32)))), .second, .val (.long (own_sr (own_mix (p1 + (-7046029254386353131 : Int64))) (11 : Int32))), .second, .val (.int (1 : Int32)), .val (.double (FP.l2d (own_sr (own_mix (p1 + (-7046029254386353131 : Int64))) (11 : Int32)))), .second, .val (.long (own_sr (own_mix (p1 + (-7046029254386353131 : Int64))) (11 : Int32))), .second, .val (.int (1 : Int32)), .val (.int (1 : Int32)), .val (.int (1 : Int32))] []))
  refine own_by (fun _ kz => XS.iload X8.here hx rfl (hb hby at_127) rfl kz) ?_
  show own_Go p.tables e below s _ _ _ (T8.setTop (mkF m 129 #[.val (.long p1), .second, .val (.ref b1), .val (.ref b3), .val (.double (own_d (own_sr (own_mix (p1 + (-7046029254386353131 : Int64))) (11 : Int32)))), .second, .val (.long (own_sr (own_mix (p1 + (-7046029254386353131 : Int64))) (11 : Int32))), .second, .val (.int (1 : Int32)), .val (.double (FP.l2d (own_sr (own_mix (p1 + (-7046029254386353131 : Int64))) (11 : Int32)))), .second, .val (.long (own_sr (own_mix (p1 + (-7046029254386353131 : Int64))) (11 : Int32))), .second, .val (.int (1 : Int32)), .val (.int (1 : Int32)), .val (.int (1 : Int32))] [(.int (1 : Int32))]))
  refine own_by (fun _ kz => XS.ifNo X8.here hx rfl (hb hby at_129) rfl ((if0 _ _).trans (feq (by decide : ¬ ((1 : Int32) = (0 : Int32)))).1) kz) ?_
  show own_Go p.tables e below s _ _ _ (T8.setTop (mkF m 132 #[.val (.long p1), .second, .val (.ref b1), .val (.ref b3), .val (.double (own_d (own_sr (own_mix (p1 + (-7046029254386353131 : Int64))) (11 : Int32)))), .second, .val (.long (own_sr (own_mix (p1 + (-7046029254386353131 : Int64))) (11 : Int32))), .second, .val (.int (1 : Int32)), .val (.double (FP.l2d (own_sr (own_mix (p1 + (-7046029254386353131 : Int64))) (11 : Int32)))), .second, .val (.long (own_sr (own_mix (p1 + (-7046029254386353131 : Int64))) (11 : Int32))), .second, .val (.int (1 : Int32)), .val (.int (1 : Int32)), .val (.int (1 : Int32))] []))
  refine own_by (fun _ kz => XS.iload X8.here hx rfl (hb hby at_132) rfl kz) ?_
  show own_Go p.tables e below s _ _ _ (T8.setTop (mkF m 134 #[.val (.long p1), .second, .val (.ref b1), .val (.ref b3), .val (.double (own_d (own_sr (own_mix (p1 + (-7046029254386353131 : Int64))) (11 : Int32)))), .second, .val (.long (own_sr (own_mix (p1 + (-7046029254386353131 : Int64))) (11 : Int32))), .second, .val (.int (1 : Int32)), .val (.double (FP.l2d (own_sr (own_mix (p1 + (-7046029254386353131 : Int64))) (11 : Int32)))), .second, .val (.long (own_sr (own_mix (p1 + (-7046029254386353131 : Int64))) (11 : Int32))), .second, .val (.int (1 : Int32)), .val (.int (1 : Int32)), .val (.int (1 : Int32))] [(.int (1 : Int32))]))
  refine own_by (fun _ kz => XS.ifNo X8.here hx rfl (hb hby at_134) rfl ((if0 _ _).trans (feq (by decide : ¬ ((1 : Int32) = (0 : Int32)))).1) kz) ?_
  show own_Go p.tables e below s _ _ _ (T8.setTop (mkF m 137 #[.val (.long p1), .second, .val (.ref b1), .val (.ref b3), .val (.double (own_d (own_sr (own_mix (p1 + (-7046029254386353131 : Int64))) (11 : Int32)))), .second, .val (.long (own_sr (own_mix (p1 + (-7046029254386353131 : Int64))) (11 : Int32))), .second, .val (.int (1 : Int32)), .val (.double (FP.l2d (own_sr (own_mix (p1 + (-7046029254386353131 : Int64))) (11 : Int32)))), .second, .val (.long (own_sr (own_mix (p1 + (-7046029254386353131 : Int64))) (11 : Int32))), .second, .val (.int (1 : Int32)), .val (.int (1 : Int32)), .val (.int (1 : Int32))] []))
  refine own_by (fun _ kz => XS.iconst X8.here hx rfl (hb hby at_137) kz) ?_
  show own_Go p.tables e below s _ _ _ (T8.setTop (mkF m 138 #[.val (.long p1), .second, .val (.ref b1), .val (.ref b3), .val (.double (own_d (own_sr (own_mix (p1 + (-7046029254386353131 : Int64))) (11 : Int32)))), .second, .val (.long (own_sr (own_mix (p1 + (-7046029254386353131 : Int64))) (11 : Int32))), .second, .val (.int (1 : Int32)), .val (.double (FP.l2d (own_sr (own_mix (p1 + (-7046029254386353131 : Int64))) (11 : Int32)))), .second, .val (.long (own_sr (own_mix (p1 + (-7046029254386353131 : Int64))) (11 : Int32))), .second, .val (.int (1 : Int32)), .val (.int (1 : Int32)), .val (.int (1 : Int32))] [(.int (1 : Int32))]))
  refine own_by (fun _ kz => XS.goto X8.here hx rfl (pc0 := 138) (pc' := 142) rfl (hb hby at_138) (by decide) (by decide) kz) ?_
  show own_Go p.tables e below s _ _ _ (T8.setTop (mkF m 142 #[.val (.long p1), .second, .val (.ref b1), .val (.ref b3), .val (.double (own_d (own_sr (own_mix (p1 + (-7046029254386353131 : Int64))) (11 : Int32)))), .second, .val (.long (own_sr (own_mix (p1 + (-7046029254386353131 : Int64))) (11 : Int32))), .second, .val (.int (1 : Int32)), .val (.double (FP.l2d (own_sr (own_mix (p1 + (-7046029254386353131 : Int64))) (11 : Int32)))), .second, .val (.long (own_sr (own_mix (p1 + (-7046029254386353131 : Int64))) (11 : Int32))), .second, .val (.int (1 : Int32)), .val (.int (1 : Int32)), .val (.int (1 : Int32))] [(.int (1 : Int32))]))
  exact own_retZ X8 hx hlk Bd.returns (hb hby at_142) (by decide) (by decide) ⟨rfl, N8⟩
set_option maxRecDepth 65536 in
set_option maxHeartbeats 40000000 in
theorem comes_1 {Post : Tables → Env → Array Value → State → Outcome → State → Prop} (hpost : ∀ tb e args s v u, (limb_1_1.after args s (.returned v) u = true ∧ limb_1_2.after args s (.returned v) u = true ∧ True) → FrameEnd s (.returned v) u (Jvm.fieldLocs frame_1_writes args s ++ Jvm.arrayLocs frame_1_arrays args s ++ Jvm.staticLocs frame_1_statics s) 16 128 → Post tb e args s (.returned v) u) :
    ArmFor flags0 classFile x code maxLocals ret World_1 tables_1 room_1 Calls_1 rest_1 Pre_1 Post := by
  intro l hfl _ _ p e ha hc hk s m args below hf hA hF happ hP
  obtain ⟨hcalls, hrest, hpre⟩ := hP
  obtain ⟨-, -, -, hnamed, -, -, -, hat⟩ := (Spec.applies_iff hf).mp happ
  obtain ⟨hg, hn⟩ := and_e (Cond.before_iff.mp (show (Jvm.Cond.and given_1 narrow_1).before args s = true from hpre))
  obtain ⟨hcount, hr0⟩ := and_e hg
  obtain ⟨w0, rfl⟩ : ∃ w0 : Value, args = #[w0] := by
    have hs : args.size = 1 := by simpa [Cond.value, given_1] using hcount
    obtain ⟨L⟩ := args
    match L, hs with
    | [w0], _ => exact ⟨w0, rfl⟩
  have hw := fun d (hd : d ∈ tables_1) => atoms_spec (ws := Jvm.Cond.code x code maxLocals ret :: tables_1) hat d (List.mem_cons_of_mem _ hd)
  obtain ⟨i0, ev0⟩ := isL_v hr0
  obtain rfl : w0 = (.long i0) := Option.some.inj ev0
  obtain ⟨n, o, h1, h2, h3, _, L, rfl, ⟨rfl, N⟩, hq⟩ := rm0 l s _ hw tables_1 i0 s.heap s.heap.size (Nat.le_refl _) p e ha hc hk s m _ below hf ((Spec.applies_iff_loose hf).mp happ).1 ⟨rfl, State.Warmed39.refl s, rfl⟩ trivial
  refine ⟨n, _, h1, h2, h3, hpost _ _ _ _ _ _ ⟨Cond.after_iff.mpr rfl, Cond.after_iff.mpr (eq_i res_at (Term.int_eval (1)) rfl), trivial⟩ ⟨hq.1, hq.2.1, (hq.2.2.sift fun y hy => Or.inr (N y hy)).mono (by decide) (by decide)⟩⟩
theorem main_1_1 : Claimed_1_1 := comes_1 fun _ _ _ _ _ _ h hF => ⟨h.1, hF⟩
theorem main_1_2 : Claimed_1_2 := comes_1 fun _ _ _ _ _ _ h hF => ⟨h.2.1, hF⟩
end Jvm.Pilot.@@N@@
namespace Jvm.Pilot.@@N@@
open Jvm Jvm.ClassFile Sem Op Lib Jvm.Free Jvm.Stand Jvm.Pilot.@@N@@.Jvm.D
/-! MADE BY PROGRAM (witnessworld.py) out of the Statement's table words and the real class files: 9 classes; the members and pool entries that the words name. The judged class is class 1, her method 1. -/
namespace start1
open Jvm.ClassFile
def u (s : String) : CpInfo := .utf8 (stringToUtf16 s)
/-- a pool by its gaps: so many unusable entries, then the entry; so many at the end -/
def gap : Nat → List CpInfo → List CpInfo
  | 0, r => r
  | n + 1, r => .unusable :: gap n r
def poolList (es : List (Nat × CpInfo)) (last : Nat) : List CpInfo := es.foldr (fun e r => gap e.1 (e.2 :: r)) (gap last [])
def pool (es : List (Nat × CpInfo)) (last : Nat) : Array CpInfo := ⟨poolList es last⟩
def fileOf (pool : Array CpInfo) (this : Nat) (attrs : Array Attribute := #[]) (ms : Array MethodInfo := #[]) (fl : Nat := 33) (sup : Nat := 0) (ifs : Array Nat := #[]) (fds : Array FieldInfo := #[]) : ClassFile where
  minorVersion := 0
  majorVersion := 65
  constantPool := pool
  accessFlags := fl
  thisClass := this
  superClass := sup
  interfaces := ifs
  fields := fds
  methods := ms
  attributes := attrs
def plain (name : String) (sup : Option ClassId) : Class where
  name := name
  kind := .ordinary
  loader := none
  accessFlags := 33
  super := sup
  interfaces := #[]
  cf := none
  fields := #[]
  methods := #[]
  instanceTypes := #[]
  staticTypes := #[]
  resolved := #[]
  callSites := []
  init := .initialized
  statics := none
  mirror := none

def pool0 : Array CpInfo := pool [(5, u "<init>"), (0, u "()V"), (1, .class_ 10), (1, u "java/lang/Object")] 113

def k0c0 : Code := { maxStack := 0, maxLocals := 1, code := object_method_1_code, exceptionTable := #[], attributes := #[] }
def k0m0 : Method := { name := "<init>", desc := "()V", sig := { parameters := [], returnType := none }, accessFlags := 1, code := some k0c0 }
/-- java/lang/Object -/
def k0 : Class := { plain "java/lang/Object" none with
  accessFlags := 33
  interfaces := #[]
  cf := some (fileOf pool0 8 #[] #[{ accessFlags := 1, nameIndex := 5, descriptorIndex := 6, attributes := #[] }] 33 0 #[] #[])
  fields := #[]
  methods := #[k0m0]
  instanceTypes := #[]
  staticTypes := #[]
  resolved := Array.replicate 124 none
  statics := none }

def pool1 : Array CpInfo := pool [(2, .class_ 4), (1, u "java/lang/Object"), (0, u "<init>"), (0, u "()V"), (0, .class_ 8), (0, u "com/example/inferlink/inferlink/SplitMix64"), (0, .methodref 7 10), (0, .nameAndType 5 11), (0, u "(J)V"), (0, .methodref 7 13), (0, .nameAndType 14 15), (0, u "nextDouble"), (0, u "()D"), (0, .methodref 7 17), (0, .nameAndType 18 19), (0, u "nextLong"), (0, u "()J"), (0, .double 4845873199050653696), (1, .class_ 23), (0, u "com/example/inferlink/inferlink/SplitMix64NextDoublePinLaw"), (2, u "law"), (0, u "(J)Z")] 3

def k1m0 : Method := { name := "<init>", desc := "()V", sig := { parameters := [], returnType := none }, accessFlags := 1, code := none }
def k1c1 : Code := { maxStack := 4, maxLocals := 16, code := code, exceptionTable := #[], attributes := #[] }
def k1m1 : Method := { name := "law", desc := "(J)Z", sig := { parameters := [.long], returnType := some .boolean }, accessFlags := 9, code := some k1c1 }
/-- com/example/inferlink/inferlink/SplitMix64NextDoublePinLaw -/
def k1 : Class := { plain "com/example/inferlink/inferlink/SplitMix64NextDoublePinLaw" (some 0) with
  accessFlags := 49
  interfaces := #[]
  cf := some (fileOf pool1 22 #[] #[{ accessFlags := 1, nameIndex := 5, descriptorIndex := 6, attributes := #[] }, { accessFlags := 9, nameIndex := 26, descriptorIndex := 27, attributes := #[] }] 49 2 #[] #[])
  fields := #[]
  methods := #[k1m0, k1m1]
  instanceTypes := #[]
  staticTypes := #[]
  resolved := Array.replicate 31 none
  statics := none }

def pool2 : Array CpInfo := pool [(1, .methodref 2 3), (0, .class_ 4), (0, .nameAndType 5 6), (0, u "java/lang/Object"), (0, u "<init>"), (0, u "()V"), (0, .fieldref 8 9), (0, .class_ 10), (0, .nameAndType 11 12), (0, u "com/example/inferlink/inferlink/SplitMix64"), (0, u "state"), (0, u "J"), (0, .long 11400714819323198485), (1, .long 13787848793156543929), (1, .long 10723151780598845931), (1, .methodref 8 20), (0, .nameAndType 21 22), (0, u "nextLong"), (0, u "()J"), (0, .double 4368491638549381120), (1, u "STEP"), (1, u "UNIT"), (0, u "D"), (0, u "(J)V"), (2, u "nextDouble"), (0, u "()D")] 2

def k2c0 : Code := { maxStack := 3, maxLocals := 3, code := prog_28_method_1_code, exceptionTable := #[], attributes := #[] }
def k2m0 : Method := { name := "<init>", desc := "(J)V", sig := { parameters := [.long], returnType := none }, accessFlags := 0, code := some k2c0 }
def k2c1 : Code := { maxStack := 5, maxLocals := 3, code := prog_28_method_2_code, exceptionTable := #[], attributes := #[] }
def k2m1 : Method := { name := "nextLong", desc := "()J", sig := { parameters := [], returnType := some .long }, accessFlags := 0, code := some k2c1 }
def k2c2 : Code := { maxStack := 4, maxLocals := 1, code := prog_28_method_3_code, exceptionTable := #[], attributes := #[] }
def k2m2 : Method := { name := "nextDouble", desc := "()D", sig := { parameters := [], returnType := some .double }, accessFlags := 0, code := some k2c2 }
/-- com/example/inferlink/inferlink/SplitMix64 -/
def k2 : Class := { plain "com/example/inferlink/inferlink/SplitMix64" (some 0) with
  accessFlags := 48
  interfaces := #[]
  cf := some (fileOf pool2 8 #[] #[{ accessFlags := 0, nameIndex := 5, descriptorIndex := 29, attributes := #[] }, { accessFlags := 0, nameIndex := 21, descriptorIndex := 22, attributes := #[] }, { accessFlags := 0, nameIndex := 32, descriptorIndex := 33, attributes := #[] }] 48 2 #[] #[{ accessFlags := 26, nameIndex := 25, descriptorIndex := 12, attributes := #[] }, { accessFlags := 26, nameIndex := 27, descriptorIndex := 28, attributes := #[] }, { accessFlags := 2, nameIndex := 11, descriptorIndex := 12, attributes := #[] }])
  fields := #[{ name := "STEP", type := .long, accessFlags := 26, slot := 0, constantValue := 0 }, { name := "UNIT", type := .double, accessFlags := 26, slot := 1, constantValue := 0 }, { name := "state", type := .long, accessFlags := 2, slot := 0, constantValue := 0 }]
  methods := #[k2m0, k2m1, k2m2]
  instanceTypes := #[.long]
  staticTypes := #[.long, .double]
  resolved := Array.replicate 36 none
  statics := none }

def pool3 : Array CpInfo := pool [(1, u "java/lang/Cloneable"), (0, .class_ 1), (0, u "java/lang/Object"), (0, .class_ 3)] 3

/-- java/lang/Cloneable -/
def k3 : Class := { plain "java/lang/Cloneable" (some 0) with
  accessFlags := 1537
  interfaces := #[]
  cf := some (fileOf pool3 2 #[] #[] 1537 4 #[] #[])
  fields := #[]
  methods := #[]
  instanceTypes := #[]
  staticTypes := #[]
  resolved := Array.replicate 8 none
  statics := none }

def pool4 : Array CpInfo := pool [(1, u "java/io/Serializable"), (0, .class_ 1), (0, u "java/lang/Object"), (0, .class_ 3)] 3

/-- java/io/Serializable -/
def k4 : Class := { plain "java/io/Serializable" (some 0) with
  accessFlags := 1537
  interfaces := #[]
  cf := some (fileOf pool4 2 #[] #[] 1537 4 #[] #[])
  fields := #[]
  methods := #[]
  instanceTypes := #[]
  staticTypes := #[]
  resolved := Array.replicate 8 none
  statics := none }

/-- the primitive byte -/
def k5 : Class := { plain "byte" none with kind := .primitive 'B', accessFlags := 0x411 }
/-- [B -/
def k6 : Class := { plain "[B" (some 0) with kind := .array 5 .byte, interfaces := #[3, 4], accessFlags := 1041 }

/-- the primitive int -/
def k7 : Class := { plain "int" none with kind := .primitive 'I', accessFlags := 0x411 }
/-- [I -/
def k8 : Class := { plain "[I" (some 0) with kind := .array 7 .int, interfaces := #[3, 4], accessFlags := 1041 }

def heap : Heap := #[]
def classes : Array Class := #[k0, k1, k2, k3, k4, k5, k6, k7, k8]
def interned : List (Array UInt16 × Addr) := []
def slotsUsed : Nat := 0
def theMethod : MethodId := ⟨1, 1⟩
def args0 : Array Value := #[.long 5]
def aboutOver (below : List Frame) : State where
  vm := { classes := classes, interned := interned.toArray }
  heap := heap
  slotsUsed := slotsUsed
  threads := #[{ frames := .invoking theMethod args0 :: below }]
def below0 : List Frame := [.native { method := ⟨0, 0⟩, args := #[] }]
def about1 : State := aboutOver below0
def p0 : Program := .bare "" "" ""
def e0 : Env := launch0.env 0 0 0
theorem w_frames : about1.frames = Frame.invoking theMethod args0 :: below0 := rfl
set_option maxRecDepth 65536 in
theorem w_args : argsFit about1.vm theMethod args0 = true := by decide +kernel
set_option maxRecDepth 65536 in
theorem w_heap : heapFits about1 = true := by decide +kernel
set_option maxRecDepth 65536 in
theorem w_runnable : about1.curStatus? = some .runnable := by decide +kernel
set_option maxRecDepth 65536 in
theorem w_alone : about1.alone = true := by decide +kernel
set_option maxRecDepth 65536 in
theorem w_named : about1.methodNamed? x = some theMethod := by decide +kernel
set_option maxRecDepth 65536 in
theorem w_hears : about1.hears theMethod below0 = true := by decide +kernel
set_option maxRecDepth 65536 in
theorem w_ripe : about1.ripe theMethod args0 below0 = true := by decide +kernel
theorem w_running : about1.status = .running := rfl
set_option maxRecDepth 65536 in
theorem w_room : about1.hasRoom e0.platform room_1 = true :=
  launch0.hasRoom_least _ room_1 (by decide +kernel) (by decide +kernel) (by decide +kernel) (by decide +kernel) (by decide +kernel) (by decide +kernel)
theorem allAtoms_all (ts : List Jvm.Cond) (a : Array Jvm.Value) (st : Jvm.State) : (allAtoms ts).before a st = ts.all (fun c => c.before a st) := by
  induction ts with
  | nil => rfl
  | cons c t ih =>
    show (Jvm.Cond.and c (allAtoms t)).before a st = _
    rw [Jvm.Cond.before_and, ih, List.all_cons]
def words1 : List Jvm.Cond := Jvm.Cond.code x code maxLocals ret :: tables_1
/-- a 'code' word, met by the world's own term for the bytes: nothing is compared byte by byte -/
theorem code_word {y : MethodName} {bytes : ByteArray} {mx : Nat} {rt : Option FieldType} {a : Array Value} {s : State} {m : MethodId} {meth : Method} {c : Code} (h1 : s.methodNamed? y = some m) (h2 : s.vm.method? m = some meth) (h3 : meth.code = some c) (h4 : c.code = bytes)
    (h5 : (c.maxLocals == mx && c.exceptionTable.isEmpty && decide (c.maxStack ≤ mostOperands) && decide (meth.sig.returnType = rt) && !meth.locks && decide (parseMethodDescriptor y.desc = some meth.sig)) = true) : (Jvm.Cond.code y bytes mx rt).before a s = true := by
  simp only [Bool.and_eq_true, beq_iff_eq, Bool.not_eq_true', decide_eq_true_eq] at h5
  obtain ⟨⟨⟨⟨⟨g1, g2⟩, g3⟩, g4⟩, g5⟩, g6⟩ := h5
  simp [Cond.before, Cond.holds, Cond.value, h1, h2, h3, h4, g1, g2, g3, g4, g5, g6]
def isCode : Jvm.Cond → Bool
  | .code _ _ _ _ => true
  | _ => false
theorem all_split {L : List Jvm.Cond} {P : Jvm.Cond → Bool} (h1 : L.all (fun c => isCode c || P c) = true) (h2 : ∀ c ∈ L.filter isCode, P c = true) : L.all P = true := by
  refine List.all_eq_true.mpr fun c hc => ?_
  have h := List.all_eq_true.mp h1 c hc
  rcases Bool.eq_false_or_eq_true (isCode c) with hi | hi
  · exact h2 c (List.mem_filter.mpr ⟨hc, hi⟩)
  · simpa [hi] using h
set_option maxRecDepth 65536 in
theorem w_c0 : (Jvm.Cond.code x code maxLocals ret).before args0 about1 = true := code_word (m := ⟨1, 1⟩) (meth := k1m1) (c := k1c1) (by decide +kernel) rfl rfl rfl (by decide +kernel)
set_option maxRecDepth 65536 in
theorem w_c1 : (Jvm.Cond.code ({ cls := "com/example/inferlink/inferlink/SplitMix64", name := "<init>", desc := "(J)V" } : Jvm.MethodName) prog_28_method_1_code (3 : Nat) (Option.none : Option Jvm.ClassFile.FieldType)).before args0 about1 = true := code_word (m := ⟨2, 0⟩) (meth := k2m0) (c := k2c0) (by decide +kernel) rfl rfl rfl (by decide +kernel)
set_option maxRecDepth 65536 in
theorem w_c2 : (Jvm.Cond.code ({ cls := "java/lang/Object", name := "<init>", desc := "()V" } : Jvm.MethodName) object_method_1_code (1 : Nat) (Option.none : Option Jvm.ClassFile.FieldType)).before args0 about1 = true := code_word (m := ⟨0, 0⟩) (meth := k0m0) (c := k0c0) (by decide +kernel) rfl rfl rfl (by decide +kernel)
set_option maxRecDepth 65536 in
theorem w_c3 : (Jvm.Cond.code ({ cls := "com/example/inferlink/inferlink/SplitMix64", name := "nextDouble", desc := "()D" } : Jvm.MethodName) prog_28_method_3_code (1 : Nat) (Option.some Jvm.ClassFile.FieldType.double)).before args0 about1 = true := code_word (m := ⟨2, 2⟩) (meth := k2m2) (c := k2c2) (by decide +kernel) rfl rfl rfl (by decide +kernel)
set_option maxRecDepth 65536 in
theorem w_c4 : (Jvm.Cond.code ({ cls := "com/example/inferlink/inferlink/SplitMix64", name := "nextLong", desc := "()J" } : Jvm.MethodName) prog_28_method_2_code (3 : Nat) (Option.some Jvm.ClassFile.FieldType.long)).before args0 about1 = true := code_word (m := ⟨2, 1⟩) (meth := k2m1) (c := k2c1) (by decide +kernel) rfl rfl rfl (by decide +kernel)
def codes1 : List Jvm.Cond := [Jvm.Cond.code x code maxLocals ret, Jvm.Cond.code ({ cls := "com/example/inferlink/inferlink/SplitMix64", name := "<init>", desc := "(J)V" } : Jvm.MethodName) prog_28_method_1_code (3 : Nat) (Option.none : Option Jvm.ClassFile.FieldType), Jvm.Cond.code ({ cls := "java/lang/Object", name := "<init>", desc := "()V" } : Jvm.MethodName) object_method_1_code (1 : Nat) (Option.none : Option Jvm.ClassFile.FieldType), Jvm.Cond.code ({ cls := "com/example/inferlink/inferlink/SplitMix64", name := "nextDouble", desc := "()D" } : Jvm.MethodName) prog_28_method_3_code (1 : Nat) (Option.some Jvm.ClassFile.FieldType.double), Jvm.Cond.code ({ cls := "com/example/inferlink/inferlink/SplitMix64", name := "nextLong", desc := "()J" } : Jvm.MethodName) prog_28_method_2_code (3 : Nat) (Option.some Jvm.ClassFile.FieldType.long)]
set_option maxRecDepth 65536 in
theorem codes_eq : words1.filter isCode = codes1 := rfl
theorem w_codes : ∀ c ∈ words1.filter isCode, c.before args0 about1 = true := by
  rw [codes_eq]
  intro c hc
  simp only [codes1, List.mem_cons, List.not_mem_nil, or_false] at hc
  rcases hc with rfl | rfl | rfl | rfl | rfl
  · exact w_c0
  · exact w_c1
  · exact w_c2
  · exact w_c3
  · exact w_c4
set_option maxRecDepth 65536 in
theorem w_t1 : (words1.take 24).all (fun c => isCode c || c.before args0 about1) = true := by decide +kernel
set_option maxRecDepth 65536 in
theorem w_t2 : (words1.drop 24).all (fun c => isCode c || c.before args0 about1) = true := by decide +kernel
theorem w_tables : (allAtoms (Jvm.Cond.code x code maxLocals ret :: tables_1)).before args0 about1 = true := by
  rw [allAtoms_all]
  show words1.all (fun c => c.before args0 about1) = true
  refine all_split ?_ w_codes
  rw [← List.take_append_drop 24 words1, List.all_append, w_t1, w_t2]
  rfl
set_option maxRecDepth 65536 in
theorem w_case : (Jvm.Cond.and given_1 narrow_1).before args0 about1 = true := by decide +kernel
theorem w_applies : (headSpec (Jvm.Cond.code x code maxLocals ret :: tables_1) room_1).applies x e0.platform about1 = true :=
  (Spec.applies_iff w_frames).mpr ⟨w_running, w_runnable, w_alone, w_named, w_hears, w_ripe, w_room, w_tables⟩
theorem atStart : AtStart classFile x code maxLocals ret World_1 tables_1 room_1 Calls_1 rest_1 Pre_1 launch0 p0 e0 about1 theMethod args0 below0 :=
  ⟨lists_1, trivial, launch0.admits_env _ _ _, launch0.least_env, fairChoices_fair.cas, fairChoices_fair.clock, w_frames, w_args, w_heap, w_applies, trivial, trivial, w_case⟩
end start1
theorem witness_1 : WitnessClaimed_1 := ⟨start1.p0, start1.e0, start1.about1, start1.theMethod, start1.args0, start1.below0, start1.atStart⟩
end Jvm.Pilot.@@N@@
