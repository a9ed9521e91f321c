import JvmDerived
import JvmDerived.Pilot.@@N@@Statement
import JvmDerived.Pilot.@@N@@Code
set_option linter.unusedVariables false
set_option linter.unusedSimpArgs false
namespace Jvm.Pilot.@@N@@
open Jvm Jvm.ClassFile Sem Op Lib Jvm.Free Jvm.Stand Jvm.LawKit Jvm.RoadKit Bundle Jvm.Pilot.@@N@@.Jvm.D
/-- Java's >>> on longs and on ints -/
def own_sr (x : Int64) (k : Int32) : Int64 := ((x.toUInt64 >>> (k &&& 0x3f).toInt64.toUInt64).toInt64)
def own_sri (x : Int32) (k : Int32) : Int32 := ((x.toUInt32 >>> (k &&& 31).toUInt32).toInt32)
section Own
variable {p : Program} {l : Launch} {e : Env} {R : Room} {s : State} {m : MethodId} {args : Array Value} {below : List Frame} {meth : Method} {c : Code} {T : State} {locs : List Loc} {cells slots : Nat} {Z : State} {a0 : Array Value} {h : Heap} {Q : Option Value → Heap → List Loc → Prop} {kc kn : Nat}
/-- from the state A the body comes to an end that answers Q -/
def own_Go (tb : Tables) (e : Env) (below : List Frame) (s : State) (Q : Option Value → Heap → List Loc → Prop) (kc kn : Nat) (A : State) : Prop :=
  ∃ s₂ o, Steps tb e below A s₂ ∧ s₂.status = .running ∧ Ended s₂ below o ∧ ∃ v L, o = .returned v ∧ Q v s₂.heap L ∧ FrameEnd s o s₂ L kc kn
theorem own_by {tb : Tables} {A B : State} (g : ∀ t, Steps tb e below B t → Steps tb e below A t) (k : own_Go tb e below s Q kc kn B) : own_Go tb e below s Q kc kn A := by
  obtain ⟨s₂, o, h1, r⟩ := k
  exact ⟨s₂, o, g s₂ h1, r⟩
theorem own_end (X : Stand p l e R s m args below meth c T locs cells slots) {v : Option Value} (hv : meth.sig.returnType = none → v = none) (hlocks : meth.locks = false) {A : State}
    (hA : ∀ fs : List Frame, (∀ (f : JFrame) (acts : List Action), f.method = m → f.locked = none → f.entered = [] → (doReturn e (T.setTop f) acts v).1 = T.setFrames fs) → Steps p.tables e below A (T.setFrames fs)) (hk : cells ≤ kc) (hn : slots ≤ kn) (hQ : Q v T.heap locs) : own_Go p.tables e below s Q kc kn A := by
  obtain ⟨fs, hr, hrun, hended, hW, hsame⟩ := X.leave hv hlocks
  exact ⟨_, _, hA fs hr, hrun, hended, _, _, rfl, hQ, ⟨_, rfl⟩, hW, hsame.mono hk hn⟩
theorem own_retZ (X : Stand p l e R s m args below meth c T locs cells slots) (hx : p.tables.exec = Jvm.exec) (hlocks : meth.locks = false) (hret : meth.sig.returnType = some .boolean) {pc : Nat} {Ls : Array Slot} {z : Int32} {rest : List Value} (hd : decode c.code pc = .ok (.ireturn, 1)) (hk : cells ≤ kc) (hn : slots ≤ kn) (hQ : Q (some (.int (z &&& 1))) T.heap locs) : own_Go p.tables e below s Q kc kn (T.setTop (mkF m pc Ls (.int z :: rest))) :=
  own_end X (v := some (.int (z &&& 1))) (fun q => by rw [hret] at q; cases q) hlocks (fun fs hr => retN X hx (t := .boolean) hret (by simp) hd hr) hk hn hQ
theorem own_retI (X : Stand p l e R s m args below meth c T locs cells slots) (hx : p.tables.exec = Jvm.exec) (hlocks : meth.locks = false) (hret : meth.sig.returnType = some .int) {pc : Nat} {Ls : Array Slot} {z : Int32} {rest : List Value} (hd : decode c.code pc = .ok (.ireturn, 1)) (hk : cells ≤ kc) (hn : slots ≤ kn) (hQ : Q (some (.int z)) T.heap locs) : own_Go p.tables e below s Q kc kn (T.setTop (mkF m pc Ls (.int z :: rest))) :=
  own_end X (v := some (.int z)) (fun q => by rw [hret] at q; cases q) hlocks (fun fs hr => retOut X hx hret rfl (Or.inl ⟨rfl, Or.inl rfl, z, rfl⟩) hd hr) hk hn hQ
theorem own_retJ (X : Stand p l e R s m args below meth c T locs cells slots) (hx : p.tables.exec = Jvm.exec) (hlocks : meth.locks = false) (hret : meth.sig.returnType = some .long) {pc : Nat} {Ls : Array Slot} {z : Int64} {rest : List Value} (hd : decode c.code pc = .ok (.lreturn, 1)) (hk : cells ≤ kc) (hn : slots ≤ kn) (hQ : Q (some (.long z)) T.heap locs) : own_Go p.tables e below s Q kc kn (T.setTop (mkF m pc Ls (.long z :: rest))) :=
  own_end X (v := some (.long z)) (fun q => by rw [hret] at q; cases q) hlocks (fun fs hr => retOut X hx hret rfl (Or.inr (Or.inl ⟨rfl, rfl, z, rfl⟩)) hd hr) hk hn hQ
theorem own_retA (X : Stand p l e R s m args below meth c T locs cells slots) (hx : p.tables.exec = Jvm.exec) (hlocks : meth.locks = false) {t : FieldType} (hret : meth.sig.returnType = some t) (ht : t.isReference = true) {pc : Nat} {Ls : Array Slot} {a : Addr} {rest : List Value} (hd : decode c.code pc = .ok (.areturn, 1)) (hk : cells ≤ kc) (hn : slots ≤ kn) (hQ : Q (some (.ref a)) T.heap locs) : own_Go p.tables e below s Q kc kn (T.setTop (mkF m pc Ls (.ref a :: rest))) :=
  own_end X (v := some (.ref a)) (fun q => by rw [hret] at q; cases q) hlocks (fun fs hr => retOut X hx hret (by cases t <;> first | rfl | cases ht) (Or.inr (Or.inr (Or.inr (Or.inr ⟨rfl, ht, rfl⟩)))) hd hr) hk hn hQ
theorem own_retV (X : Stand p l e R s m args below meth c T locs cells slots) (hx : p.tables.exec = Jvm.exec) (hlocks : meth.locks = false) (hret : meth.sig.returnType = none) {pc : Nat} {Ls : Array Slot} (hd : decode c.code pc = .ok (.return_, 1)) (hk : cells ≤ kc) (hn : slots ≤ kn) (hQ : Q none T.heap locs) : own_Go p.tables e below s Q kc kn (T.setTop (mkF m pc Ls [])) :=
  own_end X (v := none) (fun _ => rfl) hlocks (fun fs hr => X.returnOut hx hret hd hr) hk hn hQ
/-- what a body of this text answers: from these arguments, at this heap -/
abbrev own_Met (l : Launch) (Z : State) (y : MethodName) (bytes : ByteArray) (maxL : Nat) (ret : Option FieldType) (ws : List Jvm.Cond) (rm : Room) (as' : Array Value) (h0 : Heap) (Q : Option Value → Heap → List Loc → Prop) : Prop :=
  MetFree l y (head1 (Jvm.Cond.code y bytes maxL ret :: ws) rm) (fun a U => a = as' ∧ Z.Warmed39 U.vm ∧ U.heap = h0) (fun _ _ _ _ _ => True) (fun _ U o U' => ∃ v L, o = .returned v ∧ Q v U'.heap L ∧ FrameEnd U o U' L rm.cells rm.slots)
theorem own_callS (X : Stand p l e R s m args below meth c T locs cells slots) (hx : p.tables.exec = Jvm.exec) (hZ : Z.Warmed39 s.vm) {own : String} {index : Nat} {y : MethodName} {bytes : ByteArray} {maxL : Nat} {ret : Option FieldType} {rm : Room} {as' : Array Value}
    (hown : s.vm.findClass own = some m.cls) (w1 : (Jvm.Cond.methodLink own index y).before a0 Z = true) (w2 : (Jvm.Cond.static y).before a0 Z = true) (w3 : (Jvm.Cond.initialized y.cls).before a0 Z = true) (w4 : (Jvm.Cond.code y bytes maxL ret).before a0 Z = true)
    (hy : y.cls ≠ "java/lang/invoke/MethodHandle" ∧ y.cls ≠ "java/lang/invoke/VarHandle") (hM : own_Met l Z y bytes maxL ret [] rm as' h Q) {W : Nat} (hf : rm.frames + 1 ≤ R.frames) (hl : W + (maxL + 11) + rm.locals ≤ R.locals) (eT : T.heap = h)
    {g : JFrame} (hg : g.method = m) (hsize : g.locals.size = c.maxLocals) {argsL rest : List Value} (hlen : ∀ sig, parseMethodDescriptor y.desc = some sig → argsL.length = sig.parameters.length) (hstack : g.stack = argsL.reverse ++ rest) (has : argsL.toArray = as')
    (hW : 2 * g.monitorRoom + (rest.map fun v => v.category).sum ≤ W) (hdg : decode c.code g.pc = .ok (.invokestatic index, 3)) (hc : cells + rm.cells ≤ R.cells) (hn : slots + rm.slots ≤ R.slots) :
    ∃ (v : Option Value) (T' : State) (L : List Loc), Stand p l e R s m args below meth c T' (locs ++ L) (cells + rm.cells) (slots + rm.slots) ∧ Q v T'.heap L ∧ ∀ t, Steps p.tables e below (T'.setTop { g with pc := g.pc + 3, stack := v.toList ++ rest }) t → Steps p.tables e below (T.setTop g) t := by
  subst eT
  obtain ⟨v, vm₁, ⟨T', L', k', n'⟩, -, X', ⟨Lc, hQ, l1, y1, z1⟩, st⟩ := Jvm.LawKit.callS X hx (y := y) hown (mvT hZ w1) (mvT hZ w2) (mvT hZ w3) (mvT hZ w4) hy (backOf (W := W) hM hZ w4 w3 hf hl) hg hsize (argsL := argsL) (rest := rest) hlen hstack hW hdg (fun _ _ => ⟨has, rfl, hc, hn⟩)
  dsimp only [Pt.U, Pt.locs, Pt.cells, Pt.slots] at X' l1 y1 z1 st hQ
  subst l1 y1 z1
  exact ⟨v, T', Lc, X', hQ, st⟩
theorem own_callI (X : Stand p l e R s m args below meth c T locs cells slots) (hx : p.tables.exec = Jvm.exec) (hZ : Z.Warmed39 s.vm) {own : String} {index : Nat} {y : MethodName} {bytes : ByteArray} {maxL : Nat} {rm : Room} {as' : Array Value} (hy1 : y.name = "<init>")
    (hown : s.vm.findClass own = some m.cls) (w1 : (Jvm.Cond.methodLink own index y).before a0 Z = true) (w2 : (Jvm.Cond.instanceMethod y).before a0 Z = true) (w3 : (Jvm.Cond.initialized y.cls).before a0 Z = true) (w4 : (Jvm.Cond.code y bytes maxL none).before a0 Z = true)
    (hy : y.cls ≠ "java/lang/invoke/MethodHandle" ∧ y.cls ≠ "java/lang/invoke/VarHandle") (hM : own_Met l Z y bytes maxL none [] rm as' h Q) {W : Nat} (hf : rm.frames + 1 ≤ R.frames) (hl : W + (maxL + 11) + rm.locals ≤ R.locals) (eT : T.heap = h)
    {g : JFrame} (hg : g.method = m) (hsize : g.locals.size = c.maxLocals) {a : Addr} {argsL rest : List Value} (hlen : ∀ sig, parseMethodDescriptor y.desc = some sig → argsL.length = sig.parameters.length) (hstack : g.stack = argsL.reverse ++ .ref a :: rest) (has : (Value.ref a :: argsL).toArray = as')
    (hW : 2 * g.monitorRoom + (rest.map fun v => v.category).sum ≤ W) (hdg : decode c.code g.pc = .ok (.invokespecial index, 3)) (hc : cells + rm.cells ≤ R.cells) (hn : slots + rm.slots ≤ R.slots) :
    ∃ (v : Option Value) (T' : State) (L : List Loc), Stand p l e R s m args below meth c T' (locs ++ L) (cells + rm.cells) (slots + rm.slots) ∧ Q v T'.heap L ∧ ∀ t, Steps p.tables e below (T'.setTop { g with pc := g.pc + 3, stack := v.toList ++ rest }) t → Steps p.tables e below (T.setTop g) t := by
  subst eT
  obtain ⟨v, vm₁, ⟨T', L', k', n'⟩, -, X', ⟨Lc, hQ, l1, y1, z1⟩, st⟩ := X.specialBack hx (y := y) hy1 hown (mvT hZ w1) (mvT hZ w2) (mvT hZ w4) hy (backOf (W := W) hM hZ w4 w3 hf hl) hg hsize (Steps.refl _) (a := a) (argsL := argsL) (rest := rest) hlen hstack hW hdg (fun _ _ => ⟨has, rfl, hc, hn⟩)
  dsimp only [Pt.U, Pt.locs, Pt.cells, Pt.slots] at X' l1 y1 z1 st hQ
  subst l1 y1 z1
  exact ⟨v, T', Lc, X', hQ, fun t k => st.trans k⟩
theorem own_callV (X : Stand p l e R s m args below meth c T locs cells slots) (hx : p.tables.exec = Jvm.exec) (hZ : Z.Warmed39 s.vm) {own : String} {index : Nat} {y : MethodName} {bytes : ByteArray} {maxL : Nat} {ret : Option FieldType} {rm : Room} {as' : Array Value}
    (hown : s.vm.findClass own = some m.cls) (w1 : (Jvm.Cond.methodLink own index y).before a0 Z = true) (w5 : (Jvm.Cond.declares y).before a0 Z = true) (w6 : (Jvm.Cond.selects y.cls y y).before a0 Z = true) (w2 : (Jvm.Cond.instanceMethod y).before a0 Z = true) (w3 : (Jvm.Cond.initialized y.cls).before a0 Z = true) (w4 : (Jvm.Cond.code y bytes maxL ret).before a0 Z = true)
    (hy : y.cls ≠ "java/lang/invoke/MethodHandle" ∧ y.cls ≠ "java/lang/invoke/VarHandle") (hM : own_Met l Z y bytes maxL ret [] rm as' h Q) {W : Nat} (hf : rm.frames + 1 ≤ R.frames) (hl : W + (maxL + 11) + rm.locals ≤ R.locals) (eT : T.heap = h) {a : Addr} (E : Exa Z h a y.cls)
    {g : JFrame} (hg : g.method = m) (hsize : g.locals.size = c.maxLocals) {argsL rest : List Value} (hlen : ∀ sig, parseMethodDescriptor y.desc = some sig → argsL.length = sig.parameters.length) (hstack : g.stack = argsL.reverse ++ .ref a :: rest) (has : (Value.ref a :: argsL).toArray = as')
    (hW : 2 * g.monitorRoom + (rest.map fun v => v.category).sum ≤ W) (hdg : decode c.code g.pc = .ok (.invokevirtual index, 3)) (hc : cells + rm.cells ≤ R.cells) (hn : slots + rm.slots ≤ R.slots) :
    ∃ (v : Option Value) (T' : State) (L : List Loc), Stand p l e R s m args below meth c T' (locs ++ L) (cells + rm.cells) (slots + rm.slots) ∧ Q v T'.heap L ∧ ∀ t, Steps p.tables e below (T'.setTop { g with pc := g.pc + 3, stack := v.toList ++ rest }) t → Steps p.tables e below (T.setTop g) t := by
  subst eT
  obtain ⟨cq, kq, qa, qb, qc⟩ := isOf hZ rfl E
  obtain ⟨v, vm₁, ⟨T', L', k', n'⟩, -, X', ⟨Lc, hQ, l1, y1, z1⟩, st⟩ := X.virtualBack hx (y := y) (z := y) hown (mvT hZ w1) (mvT hZ w5) (notFace_of_selects (args := #[]) (mvT hZ w6)) (mvT hZ w6) (mvT hZ w2) hy (backOf (W := W) hM hZ w4 w3 hf hl) qa qc hg hsize (Steps.refl _) (argsL := argsL) (rest := rest) hlen hstack hW hdg (fun _ _ => ⟨has, rfl, hc, hn⟩)
  dsimp only [Pt.U, Pt.locs, Pt.cells, Pt.slots] at X' l1 y1 z1 st hQ
  subst l1 y1 z1
  exact ⟨v, T', Lc, X', hQ, fun t k => st.trans k⟩
end Own

/-! the plain law -/
def own_clamp (x : Int32) : Int32 := if (2147483646 : Int32) < x then (2147483646 : Int32) else x
def own_pts (a b c d : Int32) : Int64 := (((((2 : Int64) * (a.toInt64)) + (b.toInt64)) - ((32 : Int64) * (c.toInt64))) - ((16 : Int64) * (d.toInt64)))
def own_delta (et sel : Int32) : Int64 := if sel = 2 then 0 else if et = 0 then (if sel = 0 then -32 else 1) else (if sel = 0 then 2 else -16)
def own_of (sel : Int32) (vT vF vU : Addr) : Addr := if sel = 0 then vT else if sel = 1 then vF else vU
theorem own_direct (a b c d : Int32) : own_pts a b c d = (((((a.toInt64) <<< ((1 : Int32) &&& 0x3f).toInt64) + (b.toInt64)) - ((c.toInt64) <<< ((5 : Int32) &&& 0x3f).toInt64)) - ((d.toInt64) <<< ((4 : Int32) &&& 0x3f).toInt64)) := by
  unfold own_pts
  rw [shlmL (k := ((1 : Int32) &&& 0x3f).toInt64) (m := 2) (by decide), shlmL (k := ((5 : Int32) &&& 0x3f).toInt64) (m := 32) (by decide), shlmL (k := ((4 : Int32) &&& 0x3f).toInt64) (m := 16) (by decide), Int64.mul_comm 2, Int64.mul_comm 32, Int64.mul_comm 16]
/-- what plus does to the four numbers that count -/
def own_Step (p1 p2 vT vU : Addr) (a b c d a' b' c' d' : Int32) : Prop :=
  (p2 = vU ∧ a' = a ∧ b' = b ∧ c' = c ∧ d' = d) ∨ (¬ p2 = vU ∧ p2 = vT ∧ p2 = p1 ∧ a' = a + 1 ∧ b' = b ∧ c' = c ∧ d' = d) ∨ (¬ p2 = vU ∧ p2 = vT ∧ ¬ p2 = p1 ∧ a' = a ∧ b' = b ∧ c' = c + 1 ∧ d' = d) ∨
  (¬ p2 = vU ∧ ¬ p2 = vT ∧ p2 = p1 ∧ a' = a ∧ b' = b + 1 ∧ c' = c ∧ d' = d) ∨ (¬ p2 = vU ∧ ¬ p2 = vT ∧ ¬ p2 = p1 ∧ a' = a ∧ b' = b ∧ c' = c ∧ d' = d + 1)
theorem own_clamp_le (x : Int32) : (own_clamp x).toInt < 2147483647 := by
  unfold own_clamp
  split
  · decide
  · rename_i h
    rw [Int32.lt_iff_toInt_lt] at h
    have : (2147483646 : Int32).toInt = 2147483646 := by decide
    omega
theorem own_up {x : Int32} (h : x.toInt < 2147483647) : (x + 1).toInt64 = x.toInt64 + 1 := by
  apply Int64.toInt_inj.mp
  have h1 := c_iadd x 1
  have h2 := c_ladd x.toInt64 1
  have h3 : (1 : Int32).toInt = 1 := by decide
  have h4 : (1 : Int64).toInt = 1 := by decide
  have r1 := rng32 x
  have r2 := rng32 (x + 1)
  have r3 := rng64 (x.toInt64 + 1)
  rw [c_i2l] at h2 ⊢
  omega
theorem own_d (A B C D : Int64) : (2 * (A + 1) + B - 32 * C - 16 * D) - (2 * A + B - 32 * C - 16 * D) = 2 ∧ (2 * A + (B + 1) - 32 * C - 16 * D) - (2 * A + B - 32 * C - 16 * D) = 1 ∧ (2 * A + B - 32 * (C + 1) - 16 * D) - (2 * A + B - 32 * C - 16 * D) = -32 ∧ (2 * A + B - 32 * C - 16 * (D + 1)) - (2 * A + B - 32 * C - 16 * D) = -16 ∧ (2 * A + B - 32 * C - 16 * D) - (2 * A + B - 32 * C - 16 * D) = 0 := by
  refine ⟨?_, ?_, ?_, ?_, ?_⟩ <;> grind
theorem own_sel (k : Int32) : (((own_sri k (1 : Int32)) - ((own_sri k (1 : Int32)) / (3 : Int32)) * (3 : Int32)) = 0) ∨ (((own_sri k (1 : Int32)) - ((own_sri k (1 : Int32)) / (3 : Int32)) * (3 : Int32)) = 1) ∨ (((own_sri k (1 : Int32)) - ((own_sri k (1 : Int32)) / (3 : Int32)) * (3 : Int32)) = 2) := by
  have h0 := c_iushr k 1 1 (by decide) (by decide)
  have h1 : (own_sri k 1).toInt = (k.toInt % 4294967296) / ((2 ^ 1 : Nat) : Int) := h0
  have r := rng32 (own_sri k 1)
  have p : 0 ≤ (own_sri k 1).toInt := by rw [h1]; omega
  have e3 : (3 : Int32).toInt = 3 := by decide
  have d := (c_idiv (own_sri k 1) 3 3 e3 (by decide)).1 p
  generalize own_sri k 1 = x at *
  have m := c_imul (x / 3) 3
  have sb := c_isub x (x / 3 * 3)
  have r2 := rng32 (x / 3)
  have r3 := rng32 (x / 3 * 3)
  have r4 := rng32 (x - x / 3 * 3)
  have z0 : (0 : Int32).toInt = 0 := by decide
  have z1 : (1 : Int32).toInt = 1 := by decide
  have z2 : (2 : Int32).toInt = 2 := by decide
  rw [e3] at m
  have : (x - x / 3 * 3).toInt = 0 ∨ (x - x / 3 * 3).toInt = 1 ∨ (x - x / 3 * 3).toInt = 2 := by omega
  rcases this with h | h | h
  · exact Or.inl (Int32.toInt_inj.mp (by rw [h, z0]))
  · exact Or.inr (Or.inl (Int32.toInt_inj.mp (by rw [h, z1])))
  · exact Or.inr (Or.inr (Int32.toInt_inj.mp (by rw [h, z2])))
theorem own_after {vT vF vU : Addr} (nTF : ¬ vT = vF) (nTU : ¬ vT = vU) (nFU : ¬ vF = vU) {et sel : Int32} (hs : sel = 0 ∨ sel = 1 ∨ sel = 2) {p1 : Addr} (hp : (et = 1 ∧ p1 = vT) ∨ (et = 0 ∧ p1 = vF)) {a b c d a' b' c' d' : Int32} (ha : a.toInt < 2147483647) (hb : b.toInt < 2147483647) (hc : c.toInt < 2147483647) (hd : d.toInt < 2147483647)
    (S : own_Step p1 (own_of sel vT vF vU) vT vU a b c d a' b' c' d') : own_pts a' b' c' d' - own_pts a b c d = own_delta et sel := by
  have D := own_d a.toInt64 b.toInt64 c.toInt64 d.toInt64
  have nFT : ¬ vF = vT := fun q => nTF q.symm
  have nUT : ¬ vU = vT := fun q => nTU q.symm
  have nUF : ¬ vU = vF := fun q => nFU q.symm
  have z10 : ¬ (1 : Int32) = 0 := by decide
  have z20 : ¬ (2 : Int32) = 0 := by decide
  have z21 : ¬ (2 : Int32) = 1 := by decide
  have z02 : ¬ (0 : Int32) = 2 := by decide
  have z12 : ¬ (1 : Int32) = 2 := by decide
  rcases hs with rfl | rfl | rfl <;> rcases hp with ⟨rfl, rfl⟩ | ⟨rfl, rfl⟩ <;>
    simp only [own_Step, own_of, own_delta, nTF, nTU, nFU, nFT, nUT, nUF, z10, z20, z21, z02, z12, if_true, if_false, false_and, true_and, and_false, not_true, not_false_iff, false_or, or_false] at S ⊢ <;>
    obtain ⟨rfl, rfl, rfl, rfl⟩ := S <;> unfold own_pts <;> (try rw [own_up ha]) <;> (try rw [own_up hb]) <;> (try rw [own_up hc]) <;> (try rw [own_up hd]) <;>
    first | exact D.1 | exact D.2.1 | exact D.2.2.1 | exact D.2.2.2.1 | exact D.2.2.2.2

theorem d2_0 : decode jdk_30_method_1_code 0 = .ok (.aload_n 0, 1) := by decide +kernel
theorem d2_1 : decode jdk_30_method_1_code 1 = .ok (.invokespecial 1, 3) := by decide +kernel
theorem d2_4 : decode jdk_30_method_1_code 4 = .ok (.return_, 1) := by decide +kernel
theorem pf_2 : plainFor (⟨"java/lang/Record", "<init>", "()V"⟩ : MethodName) = true := by first | exact plainFor_of_name (by first | (simp [plainName, overriddenIn]; done) | decide +kernel) | decide +kernel
theorem pd_2 : parseMethodDescriptor "()V" = some ⟨[], none⟩ := by decide +kernel
theorem ef_2 (m : MethodId) (p0 : Addr) : entryFrame m #[(.ref p0)] 1 = mkF m 0 #[.val (.ref p0)] [] := by first | (simp [entryFrame, mkF, argsToLocals, Value.category]; done) | rfl
def Q2 (p0 : Addr) (h0 : Heap) (n0 : Nat) (v : Option Value) (h : Heap) (L : List Loc) : Prop := v = none ∧ Fr n0 L ∧ h = h0
set_option maxRecDepth 65536 in
set_option maxHeartbeats 40000000 in
theorem rm2 (l : Launch) (Z : State) (a0 : Array Value) (hw : ∀ d ∈ tables_1, d.before a0 Z = true) (ws : List Jvm.Cond) (p0 : Addr) (h0 : Heap) (n0 : Nat) (Z0 : n0 ≤ h0.size)  :
    own_Met l Z (⟨"java/lang/Record", "<init>", "()V"⟩ : MethodName) jdk_30_method_1_code 1 none ws ({ frames := 1, cells := 0, slots := 0, locals := 12 } : Room) #[(.ref p0)] h0 (Q2 p0 h0 n0) := by
  refine MetFree.of_bodySF pf_2 hisR ?_
  intro p e s m args below meth c s₁ Bd hml0 hP hK
  obtain ⟨rfl, hZ, hh⟩ := hP
  have hx := Bd.exec
  have hby := Bd.bytes
  have hlk : meth.locks = false := BodyLoose.notSynchronized Bd
  have hml : c.maxLocals = 1 := hml0
  have hown : s.vm.findClass "java/lang/Record" = some m.cls := findClass_of_methodNamed Bd.named
  have hnm := (name_of_methodNamed Bd.named Bd.method).1
  have X0 : Stand p l e ({ frames := 1, cells := 0, slots := 0, locals := 12 } : Room) s m #[(.ref p0)] below meth c s₁ [] 0 0 := Stand.of_body Bd
  have e0 : s₁.heap = h0 := by rw [← hh, Bd.state]; rfl
  have N0 := Fr.nil n0
  show own_Go p.tables e below s (Q2 p0 h0 n0) ({ frames := 1, cells := 0, slots := 0, locals := 12 } : Room).cells ({ frames := 1, cells := 0, slots := 0, locals := 12 } : Room).slots _
  refine own_by (fun _ k => castTop (ef_2 m p0) k) ?_
  show own_Go p.tables e below s _ _ _ (s₁.setTop (mkF m 0 #[.val (.ref p0)] []))
  refine own_by (fun _ k => XS.aloadN X0.here hx rfl (hb hby d2_0) rfl rfl k) ?_
  show own_Go p.tables e below s _ _ _ (s₁.setTop (mkF m 1 #[.val (.ref p0)] [(.ref p0)]))
  obtain ⟨T1, X1, e1, st1⟩ := initO X0 hx hZ hown (hw _ (List.mem_of_getElem? (i := 11) rfl)) (hw _ (List.mem_of_getElem? (i := 12) rfl)) (hw _ (List.mem_of_getElem? (i := 13) rfl)) e0 (g := (mkF m 1 #[.val (.ref p0)] [(.ref p0)])) rfl (by rw [hml]; rfl) rfl (hb hby d2_1) (by decide) (W := 0) (by show 2 * 0 + _ ≤ _; exact Nat.le_of_eq rfl) (by decide)
  refine own_by st1 ?_
  show own_Go p.tables e below s _ _ _ (T1.setTop (mkF m 4 #[.val (.ref p0)] []))
  exact own_retV X1 hx hlk Bd.returns (hb hby d2_4) (by decide) (by decide) ⟨rfl, N0, e1⟩
theorem d1_0 : decode prog_221_method_1_code 0 = .ok (.aload_n 0, 1) := by decide +kernel
theorem d1_1 : decode prog_221_method_1_code 1 = .ok (.invokespecial 1, 3) := by decide +kernel
theorem d1_4 : decode prog_221_method_1_code 4 = .ok (.aload_n 0, 1) := by decide +kernel
theorem d1_5 : decode prog_221_method_1_code 5 = .ok (.iload_n 1, 1) := by decide +kernel
theorem d1_6 : decode prog_221_method_1_code 6 = .ok (.putfield 7, 3) := by decide +kernel
theorem d1_9 : decode prog_221_method_1_code 9 = .ok (.aload_n 0, 1) := by decide +kernel
theorem d1_10 : decode prog_221_method_1_code 10 = .ok (.iload_n 2, 1) := by decide +kernel
theorem d1_11 : decode prog_221_method_1_code 11 = .ok (.putfield 13, 3) := by decide +kernel
theorem d1_14 : decode prog_221_method_1_code 14 = .ok (.aload_n 0, 1) := by decide +kernel
theorem d1_15 : decode prog_221_method_1_code 15 = .ok (.iload_n 3, 1) := by decide +kernel
theorem d1_16 : decode prog_221_method_1_code 16 = .ok (.putfield 16, 3) := by decide +kernel
theorem d1_19 : decode prog_221_method_1_code 19 = .ok (.aload_n 0, 1) := by decide +kernel
theorem d1_20 : decode prog_221_method_1_code 20 = .ok (.iload 4, 2) := by decide +kernel
theorem d1_22 : decode prog_221_method_1_code 22 = .ok (.putfield 19, 3) := by decide +kernel
theorem d1_25 : decode prog_221_method_1_code 25 = .ok (.aload_n 0, 1) := by decide +kernel
theorem d1_26 : decode prog_221_method_1_code 26 = .ok (.iload 5, 2) := by decide +kernel
theorem d1_28 : decode prog_221_method_1_code 28 = .ok (.putfield 22, 3) := by decide +kernel
theorem d1_31 : decode prog_221_method_1_code 31 = .ok (.return_, 1) := by decide +kernel
theorem pf_1 : plainFor (⟨"com/example/proofhound/proofhound/suite/Score", "<init>", "(IIIII)V"⟩ : MethodName) = true := by first | exact plainFor_of_name (by first | (simp [plainName, overriddenIn]; done) | decide +kernel) | decide +kernel
theorem pd_1 : parseMethodDescriptor "(IIIII)V" = some ⟨[.int, .int, .int, .int, .int], none⟩ := by decide +kernel
theorem ef_1 (m : MethodId) (p0 : Addr) (p1 : Int32) (p2 : Int32) (p3 : Int32) (p4 : Int32) (p5 : Int32) : entryFrame m #[(.ref p0), (.int p1), (.int p2), (.int p3), (.int p4), (.int p5)] 6 = mkF m 0 #[.val (.ref p0), .val (.int p1), .val (.int p2), .val (.int p3), .val (.int p4), .val (.int p5)] [] := by first | (simp [entryFrame, mkF, argsToLocals, Value.category]; done) | rfl
def Q1 (Z : State) (p0 : Addr) (p1 : Int32) (p2 : Int32) (p3 : Int32) (p4 : Int32) (p5 : Int32) (h0 : Heap) (n0 : Nat) (v : Option Value) (h : Heap) (L : List Loc) : Prop := v = none ∧ Fr n0 L ∧ Keep h0 h [p0] ∧ Fld Z h p0 "com/example/proofhound/proofhound/suite/Score" "correctTrue" "I" (.int p1) ∧ Fld Z h p0 "com/example/proofhound/proofhound/suite/Score" "correctFalse" "I" (.int p2) ∧ Fld Z h p0 "com/example/proofhound/proofhound/suite/Score" "wrongTrue" "I" (.int p3) ∧ Fld Z h p0 "com/example/proofhound/proofhound/suite/Score" "wrongFalse" "I" (.int p4) ∧ Fld Z h p0 "com/example/proofhound/proofhound/suite/Score" "unknown" "I" (.int p5)
set_option maxRecDepth 65536 in
set_option maxHeartbeats 40000000 in
theorem rm1 (l : Launch) (Z : State) (a0 : Array Value) (hw : ∀ d ∈ tables_1, d.before a0 Z = true) (ws : List Jvm.Cond) (p0 : Addr) (p1 : Int32) (p2 : Int32) (p3 : Int32) (p4 : Int32) (p5 : Int32) (h0 : Heap) (n0 : Nat) (Z0 : n0 ≤ h0.size) (Ex0 : Exa Z h0 p0 "com/example/proofhound/proofhound/suite/Score") (FacorrectTrue : Fld Z h0 p0 "com/example/proofhound/proofhound/suite/Score" "correctTrue" "I" (.int (0 : Int32))) (FacorrectFalse : Fld Z h0 p0 "com/example/proofhound/proofhound/suite/Score" "correctFalse" "I" (.int (0 : Int32))) (FawrongTrue : Fld Z h0 p0 "com/example/proofhound/proofhound/suite/Score" "wrongTrue" "I" (.int (0 : Int32))) (FawrongFalse : Fld Z h0 p0 "com/example/proofhound/proofhound/suite/Score" "wrongFalse" "I" (.int (0 : Int32))) (Faunknown : Fld Z h0 p0 "com/example/proofhound/proofhound/suite/Score" "unknown" "I" (.int (0 : Int32))) (ge0 : n0 ≤ p0) :
    own_Met l Z (⟨"com/example/proofhound/proofhound/suite/Score", "<init>", "(IIIII)V"⟩ : MethodName) prog_221_method_1_code 6 none ws ({ frames := 2, cells := 0, slots := 0, locals := 24 } : Room) #[(.ref p0), (.int p1), (.int p2), (.int p3), (.int p4), (.int p5)] h0 (Q1 Z p0 p1 p2 p3 p4 p5 h0 n0) := by
  refine MetFree.of_bodySF pf_1 hisR ?_
  intro p e s m args below meth c s₁ Bd hml0 hP hK
  obtain ⟨rfl, hZ, hh⟩ := hP
  have hx := Bd.exec
  have hby := Bd.bytes
  have hlk : meth.locks = false := BodyLoose.notSynchronized Bd
  have hml : c.maxLocals = 6 := hml0
  have hown : s.vm.findClass "com/example/proofhound/proofhound/suite/Score" = some m.cls := findClass_of_methodNamed Bd.named
  have hnm := (name_of_methodNamed Bd.named Bd.method).1
  have X0 : Stand p l e ({ frames := 2, cells := 0, slots := 0, locals := 24 } : Room) s m #[(.ref p0), (.int p1), (.int p2), (.int p3), (.int p4), (.int p5)] below meth c s₁ [] 0 0 := Stand.of_body Bd
  have e0 : s₁.heap = h0 := by rw [← hh, Bd.state]; rfl
  have N0 := Fr.nil n0
  have K0 := Keep.refl h0 [p0]
  show own_Go p.tables e below s (Q1 Z p0 p1 p2 p3 p4 p5 h0 n0) ({ frames := 2, cells := 0, slots := 0, locals := 24 } : Room).cells ({ frames := 2, cells := 0, slots := 0, locals := 24 } : Room).slots _
  refine own_by (fun _ k => castTop (ef_1 m p0 p1 p2 p3 p4 p5) k) ?_
  show own_Go p.tables e below s _ _ _ (s₁.setTop (mkF m 0 #[.val (.ref p0), .val (.int p1), .val (.int p2), .val (.int p3), .val (.int p4), .val (.int p5)] []))
  refine own_by (fun _ k => XS.aloadN X0.here hx rfl (hb hby d1_0) rfl rfl k) ?_
  show own_Go p.tables e below s _ _ _ (s₁.setTop (mkF m 1 #[.val (.ref p0), .val (.int p1), .val (.int p2), .val (.int p3), .val (.int p4), .val (.int p5)] [(.ref p0)]))
  obtain ⟨v1, T1, L1, X1, q1, st1⟩ := own_callI X0 hx hZ rfl hown (hw _ (List.mem_of_getElem? (i := 6) rfl)) (hw _ (List.mem_of_getElem? (i := 7) rfl)) (hw _ (List.mem_of_getElem? (i := 9) rfl)) (hw _ (List.mem_of_getElem? (i := 10) rfl)) (by decide) (rm2 l Z a0 hw [] p0 h0 n0 Z0) (W := 0) (by decide) (by decide) e0 (g := (mkF m 1 #[.val (.ref p0), .val (.int p1), .val (.int p2), .val (.int p3), .val (.int p4), .val (.int p5)] [(.ref p0)])) rfl (by rw [hml]; rfl) (a := p0) (argsL := []) (rest := []) (lenOf pd_2 rfl) rfl rfl (by show 2 * 0 + _ ≤ _; exact Nat.le_of_eq rfl) (hb hby d1_1) (by decide) (by decide)
  obtain ⟨rfl, Nq1, hh1⟩ := q1
  have N1 := Fr.app N0 Nq1
  refine own_by st1 ?_
  show own_Go p.tables e below s _ _ _ (T1.setTop (mkF m 4 #[.val (.ref p0), .val (.int p1), .val (.int p2), .val (.int p3), .val (.int p4), .val (.int p5)] []))
  refine own_by (fun _ k => XS.aloadN X1.here hx rfl (hb hby d1_4) rfl rfl k) ?_
  show own_Go p.tables e below s _ _ _ (T1.setTop (mkF m 5 #[.val (.ref p0), .val (.int p1), .val (.int p2), .val (.int p3), .val (.int p4), .val (.int p5)] [(.ref p0)]))
  refine own_by (fun _ k => XS.iloadN X1.here hx rfl (hb hby d1_5) rfl k) ?_
  show own_Go p.tables e below s _ _ _ (T1.setTop (mkF m 6 #[.val (.ref p0), .val (.int p1), .val (.int p2), .val (.int p3), .val (.int p4), .val (.int p5)] [(.int p1), (.ref p0)]))
  obtain ⟨T2, h2, X2, e2, W2, st2⟩ := putF X1 hx hZ hown (host := "") (Or.inl (hw _ (List.mem_of_getElem? (i := 14) rfl))) Via.refl hh1 FacorrectTrue Ex0 (Or.inr ⟨ (hw _ (List.mem_of_getElem? (i := 15) rfl)), rfl, hnm⟩) (hw _ (List.mem_of_getElem? (i := 1) rfl)) (ty := .int) (by decide) rfl rfl (g := (mkF m 6 #[.val (.ref p0), .val (.int p1), .val (.int p2), .val (.int p3), .val (.int p4), .val (.int p5)] [(.int p1), (.ref p0)])) rfl rfl (hb hby d1_6)
  have N2 := Fr.snoc X2 N1 ge0
  have Z2 : n0 ≤ h2.size := by rw [W2.size]; exact Z0
  have K2 := K0.wr W2 (Or.inl (List.mem_of_getElem? (i := 0) rfl))
  have Ex0_h2 := Ex0.wr W2
  have FacorrectTrue_h2 := FacorrectTrue.same W2
  have FacorrectFalse_h2 := FacorrectFalse.other W2 (Or.inr (slot_ne (Or.inr (hw _ (List.mem_of_getElem? (i := 17) rfl))) (Or.inr (hw _ (List.mem_of_getElem? (i := 15) rfl))) (by decide) (by decide : parseFieldDescriptor "I" = some .int) (by decide : parseFieldDescriptor "I" = some .int)))
  have FawrongTrue_h2 := FawrongTrue.other W2 (Or.inr (slot_ne (Or.inr (hw _ (List.mem_of_getElem? (i := 19) rfl))) (Or.inr (hw _ (List.mem_of_getElem? (i := 15) rfl))) (by decide) (by decide : parseFieldDescriptor "I" = some .int) (by decide : parseFieldDescriptor "I" = some .int)))
  have FawrongFalse_h2 := FawrongFalse.other W2 (Or.inr (slot_ne (Or.inr (hw _ (List.mem_of_getElem? (i := 21) rfl))) (Or.inr (hw _ (List.mem_of_getElem? (i := 15) rfl))) (by decide) (by decide : parseFieldDescriptor "I" = some .int) (by decide : parseFieldDescriptor "I" = some .int)))
  have Faunknown_h2 := Faunknown.other W2 (Or.inr (slot_ne (Or.inr (hw _ (List.mem_of_getElem? (i := 23) rfl))) (Or.inr (hw _ (List.mem_of_getElem? (i := 15) rfl))) (by decide) (by decide : parseFieldDescriptor "I" = some .int) (by decide : parseFieldDescriptor "I" = some .int)))
  refine own_by st2 ?_
  show own_Go p.tables e below s _ _ _ (T2.setTop (mkF m 9 #[.val (.ref p0), .val (.int p1), .val (.int p2), .val (.int p3), .val (.int p4), .val (.int p5)] []))
  refine own_by (fun _ k => XS.aloadN X2.here hx rfl (hb hby d1_9) rfl rfl k) ?_
  show own_Go p.tables e below s _ _ _ (T2.setTop (mkF m 10 #[.val (.ref p0), .val (.int p1), .val (.int p2), .val (.int p3), .val (.int p4), .val (.int p5)] [(.ref p0)]))
  refine own_by (fun _ k => XS.iloadN X2.here hx rfl (hb hby d1_10) rfl k) ?_
  show own_Go p.tables e below s _ _ _ (T2.setTop (mkF m 11 #[.val (.ref p0), .val (.int p1), .val (.int p2), .val (.int p3), .val (.int p4), .val (.int p5)] [(.int p2), (.ref p0)]))
  obtain ⟨T3, h3, X3, e3, W3, st3⟩ := putF X2 hx hZ hown (host := "") (Or.inl (hw _ (List.mem_of_getElem? (i := 16) rfl))) Via.refl e2 FacorrectFalse_h2 Ex0_h2 (Or.inr ⟨ (hw _ (List.mem_of_getElem? (i := 17) rfl)), rfl, hnm⟩) (hw _ (List.mem_of_getElem? (i := 1) rfl)) (ty := .int) (by decide) rfl rfl (g := (mkF m 11 #[.val (.ref p0), .val (.int p1), .val (.int p2), .val (.int p3), .val (.int p4), .val (.int p5)] [(.int p2), (.ref p0)])) rfl rfl (hb hby d1_11)
  have N3 := Fr.snoc X3 N2 ge0
  have Z3 : n0 ≤ h3.size := by rw [W3.size]; exact Z2
  have K3 := K2.wr W3 (Or.inl (List.mem_of_getElem? (i := 0) rfl))
  have Ex0_h3 := Ex0_h2.wr W3
  have FacorrectTrue_h3 := FacorrectTrue_h2.other W3 (Or.inr (slot_ne (Or.inr (hw _ (List.mem_of_getElem? (i := 15) rfl))) (Or.inr (hw _ (List.mem_of_getElem? (i := 17) rfl))) (by decide) (by decide : parseFieldDescriptor "I" = some .int) (by decide : parseFieldDescriptor "I" = some .int)))
  have FacorrectFalse_h3 := FacorrectFalse_h2.same W3
  have FawrongTrue_h3 := FawrongTrue_h2.other W3 (Or.inr (slot_ne (Or.inr (hw _ (List.mem_of_getElem? (i := 19) rfl))) (Or.inr (hw _ (List.mem_of_getElem? (i := 17) rfl))) (by decide) (by decide : parseFieldDescriptor "I" = some .int) (by decide : parseFieldDescriptor "I" = some .int)))
  have FawrongFalse_h3 := FawrongFalse_h2.other W3 (Or.inr (slot_ne (Or.inr (hw _ (List.mem_of_getElem? (i := 21) rfl))) (Or.inr (hw _ (List.mem_of_getElem? (i := 17) rfl))) (by decide) (by decide : parseFieldDescriptor "I" = some .int) (by decide : parseFieldDescriptor "I" = some .int)))
  have Faunknown_h3 := Faunknown_h2.other W3 (Or.inr (slot_ne (Or.inr (hw _ (List.mem_of_getElem? (i := 23) rfl))) (Or.inr (hw _ (List.mem_of_getElem? (i := 17) rfl))) (by decide) (by decide : parseFieldDescriptor "I" = some .int) (by decide : parseFieldDescriptor "I" = some .int)))
  refine own_by st3 ?_
  show own_Go p.tables e below s _ _ _ (T3.setTop (mkF m 14 #[.val (.ref p0), .val (.int p1), .val (.int p2), .val (.int p3), .val (.int p4), .val (.int p5)] []))
  refine own_by (fun _ k => XS.aloadN X3.here hx rfl (hb hby d1_14) rfl rfl k) ?_
  show own_Go p.tables e below s _ _ _ (T3.setTop (mkF m 15 #[.val (.ref p0), .val (.int p1), .val (.int p2), .val (.int p3), .val (.int p4), .val (.int p5)] [(.ref p0)]))
  refine own_by (fun _ k => XS.iloadN X3.here hx rfl (hb hby d1_15) rfl k) ?_
  show own_Go p.tables e below s _ _ _ (T3.setTop (mkF m 16 #[.val (.ref p0), .val (.int p1), .val (.int p2), .val (.int p3), .val (.int p4), .val (.int p5)] [(.int p3), (.ref p0)]))
  obtain ⟨T4, h4, X4, e4, W4, st4⟩ := putF X3 hx hZ hown (host := "") (Or.inl (hw _ (List.mem_of_getElem? (i := 18) rfl))) Via.refl e3 FawrongTrue_h3 Ex0_h3 (Or.inr ⟨ (hw _ (List.mem_of_getElem? (i := 19) rfl)), rfl, hnm⟩) (hw _ (List.mem_of_getElem? (i := 1) rfl)) (ty := .int) (by decide) rfl rfl (g := (mkF m 16 #[.val (.ref p0), .val (.int p1), .val (.int p2), .val (.int p3), .val (.int p4), .val (.int p5)] [(.int p3), (.ref p0)])) rfl rfl (hb hby d1_16)
  have N4 := Fr.snoc X4 N3 ge0
  have Z4 : n0 ≤ h4.size := by rw [W4.size]; exact Z3
  have K4 := K3.wr W4 (Or.inl (List.mem_of_getElem? (i := 0) rfl))
  have Ex0_h4 := Ex0_h3.wr W4
  have FacorrectTrue_h4 := FacorrectTrue_h3.other W4 (Or.inr (slot_ne (Or.inr (hw _ (List.mem_of_getElem? (i := 15) rfl))) (Or.inr (hw _ (List.mem_of_getElem? (i := 19) rfl))) (by decide) (by decide : parseFieldDescriptor "I" = some .int) (by decide : parseFieldDescriptor "I" = some .int)))
  have FacorrectFalse_h4 := FacorrectFalse_h3.other W4 (Or.inr (slot_ne (Or.inr (hw _ (List.mem_of_getElem? (i := 17) rfl))) (Or.inr (hw _ (List.mem_of_getElem? (i := 19) rfl))) (by decide) (by decide : parseFieldDescriptor "I" = some .int) (by decide : parseFieldDescriptor "I" = some .int)))
  have FawrongTrue_h4 := FawrongTrue_h3.same W4
  have FawrongFalse_h4 := FawrongFalse_h3.other W4 (Or.inr (slot_ne (Or.inr (hw _ (List.mem_of_getElem? (i := 21) rfl))) (Or.inr (hw _ (List.mem_of_getElem? (i := 19) rfl))) (by decide) (by decide : parseFieldDescriptor "I" = some .int) (by decide : parseFieldDescriptor "I" = some .int)))
  have Faunknown_h4 := Faunknown_h3.other W4 (Or.inr (slot_ne (Or.inr (hw _ (List.mem_of_getElem? (i := 23) rfl))) (Or.inr (hw _ (List.mem_of_getElem? (i := 19) rfl))) (by decide) (by decide : parseFieldDescriptor "I" = some .int) (by decide : parseFieldDescriptor "I" = some .int)))
  refine own_by st4 ?_
  show own_Go p.tables e below s _ _ _ (T4.setTop (mkF m 19 #[.val (.ref p0), .val (.int p1), .val (.int p2), .val (.int p3), .val (.int p4), .val (.int p5)] []))
  refine own_by (fun _ k => XS.aloadN X4.here hx rfl (hb hby d1_19) rfl rfl k) ?_
  show own_Go p.tables e below s _ _ _ (T4.setTop (mkF m 20 #[.val (.ref p0), .val (.int p1), .val (.int p2), .val (.int p3), .val (.int p4), .val (.int p5)] [(.ref p0)]))
  refine own_by (fun _ k => XS.iload X4.here hx rfl (hb hby d1_20) rfl k) ?_
  show own_Go p.tables e below s _ _ _ (T4.setTop (mkF m 22 #[.val (.ref p0), .val (.int p1), .val (.int p2), .val (.int p3), .val (.int p4), .val (.int p5)] [(.int p4), (.ref p0)]))
  obtain ⟨T5, h5, X5, e5, W5, st5⟩ := putF X4 hx hZ hown (host := "") (Or.inl (hw _ (List.mem_of_getElem? (i := 20) rfl))) Via.refl e4 FawrongFalse_h4 Ex0_h4 (Or.inr ⟨ (hw _ (List.mem_of_getElem? (i := 21) rfl)), rfl, hnm⟩) (hw _ (List.mem_of_getElem? (i := 1) rfl)) (ty := .int) (by decide) rfl rfl (g := (mkF m 22 #[.val (.ref p0), .val (.int p1), .val (.int p2), .val (.int p3), .val (.int p4), .val (.int p5)] [(.int p4), (.ref p0)])) rfl rfl (hb hby d1_22)
  have N5 := Fr.snoc X5 N4 ge0
  have Z5 : n0 ≤ h5.size := by rw [W5.size]; exact Z4
  have K5 := K4.wr W5 (Or.inl (List.mem_of_getElem? (i := 0) rfl))
  have Ex0_h5 := Ex0_h4.wr W5
  have FacorrectTrue_h5 := FacorrectTrue_h4.other W5 (Or.inr (slot_ne (Or.inr (hw _ (List.mem_of_getElem? (i := 15) rfl))) (Or.inr (hw _ (List.mem_of_getElem? (i := 21) rfl))) (by decide) (by decide : parseFieldDescriptor "I" = some .int) (by decide : parseFieldDescriptor "I" = some .int)))
  have FacorrectFalse_h5 := FacorrectFalse_h4.other W5 (Or.inr (slot_ne (Or.inr (hw _ (List.mem_of_getElem? (i := 17) rfl))) (Or.inr (hw _ (List.mem_of_getElem? (i := 21) rfl))) (by decide) (by decide : parseFieldDescriptor "I" = some .int) (by decide : parseFieldDescriptor "I" = some .int)))
  have FawrongTrue_h5 := FawrongTrue_h4.other W5 (Or.inr (slot_ne (Or.inr (hw _ (List.mem_of_getElem? (i := 19) rfl))) (Or.inr (hw _ (List.mem_of_getElem? (i := 21) rfl))) (by decide) (by decide : parseFieldDescriptor "I" = some .int) (by decide : parseFieldDescriptor "I" = some .int)))
  have FawrongFalse_h5 := FawrongFalse_h4.same W5
  have Faunknown_h5 := Faunknown_h4.other W5 (Or.inr (slot_ne (Or.inr (hw _ (List.mem_of_getElem? (i := 23) rfl))) (Or.inr (hw _ (List.mem_of_getElem? (i := 21) rfl))) (by decide) (by decide : parseFieldDescriptor "I" = some .int) (by decide : parseFieldDescriptor "I" = some .int)))
  refine own_by st5 ?_
  show own_Go p.tables e below s _ _ _ (T5.setTop (mkF m 25 #[.val (.ref p0), .val (.int p1), .val (.int p2), .val (.int p3), .val (.int p4), .val (.int p5)] []))
  refine own_by (fun _ k => XS.aloadN X5.here hx rfl (hb hby d1_25) rfl rfl k) ?_
  show own_Go p.tables e below s _ _ _ (T5.setTop (mkF m 26 #[.val (.ref p0), .val (.int p1), .val (.int p2), .val (.int p3), .val (.int p4), .val (.int p5)] [(.ref p0)]))
  refine own_by (fun _ k => XS.iload X5.here hx rfl (hb hby d1_26) rfl k) ?_
  show own_Go p.tables e below s _ _ _ (T5.setTop (mkF m 28 #[.val (.ref p0), .val (.int p1), .val (.int p2), .val (.int p3), .val (.int p4), .val (.int p5)] [(.int p5), (.ref p0)]))
  obtain ⟨T6, h6, X6, e6, W6, st6⟩ := putF X5 hx hZ hown (host := "") (Or.inl (hw _ (List.mem_of_getElem? (i := 22) rfl))) Via.refl e5 Faunknown_h5 Ex0_h5 (Or.inr ⟨ (hw _ (List.mem_of_getElem? (i := 23) rfl)), rfl, hnm⟩) (hw _ (List.mem_of_getElem? (i := 1) rfl)) (ty := .int) (by decide) rfl rfl (g := (mkF m 28 #[.val (.ref p0), .val (.int p1), .val (.int p2), .val (.int p3), .val (.int p4), .val (.int p5)] [(.int p5), (.ref p0)])) rfl rfl (hb hby d1_28)
  have N6 := Fr.snoc X6 N5 ge0
  have Z6 : n0 ≤ h6.size := by rw [W6.size]; exact Z5
  have K6 := K5.wr W6 (Or.inl (List.mem_of_getElem? (i := 0) rfl))
  have Ex0_h6 := Ex0_h5.wr W6
  have FacorrectTrue_h6 := FacorrectTrue_h5.other W6 (Or.inr (slot_ne (Or.inr (hw _ (List.mem_of_getElem? (i := 15) rfl))) (Or.inr (hw _ (List.mem_of_getElem? (i := 23) rfl))) (by decide) (by decide : parseFieldDescriptor "I" = some .int) (by decide : parseFieldDescriptor "I" = some .int)))
  have FacorrectFalse_h6 := FacorrectFalse_h5.other W6 (Or.inr (slot_ne (Or.inr (hw _ (List.mem_of_getElem? (i := 17) rfl))) (Or.inr (hw _ (List.mem_of_getElem? (i := 23) rfl))) (by decide) (by decide : parseFieldDescriptor "I" = some .int) (by decide : parseFieldDescriptor "I" = some .int)))
  have FawrongTrue_h6 := FawrongTrue_h5.other W6 (Or.inr (slot_ne (Or.inr (hw _ (List.mem_of_getElem? (i := 19) rfl))) (Or.inr (hw _ (List.mem_of_getElem? (i := 23) rfl))) (by decide) (by decide : parseFieldDescriptor "I" = some .int) (by decide : parseFieldDescriptor "I" = some .int)))
  have FawrongFalse_h6 := FawrongFalse_h5.other W6 (Or.inr (slot_ne (Or.inr (hw _ (List.mem_of_getElem? (i := 21) rfl))) (Or.inr (hw _ (List.mem_of_getElem? (i := 23) rfl))) (by decide) (by decide : parseFieldDescriptor "I" = some .int) (by decide : parseFieldDescriptor "I" = some .int)))
  have Faunknown_h6 := Faunknown_h5.same W6
  refine own_by st6 ?_
  show own_Go p.tables e below s _ _ _ (T6.setTop (mkF m 31 #[.val (.ref p0), .val (.int p1), .val (.int p2), .val (.int p3), .val (.int p4), .val (.int p5)] []))
  exact own_retV X6 hx hlk Bd.returns (hb hby d1_31) (by decide) (by decide) ⟨rfl, N6, by rw [e6]; exact K6, by rw [e6]; exact FacorrectTrue_h6, by rw [e6]; exact FacorrectFalse_h6, by rw [e6]; exact FawrongTrue_h6, by rw [e6]; exact FawrongFalse_h6, by rw [e6]; exact Faunknown_h6⟩
theorem d4_0 : decode prog_221_method_3_code 0 = .ok (.ldc2_w 44, 3) := by decide +kernel
theorem d4_3 : decode prog_221_method_3_code 3 = .ok (.aload_n 0, 1) := by decide +kernel
theorem d4_4 : decode prog_221_method_3_code 4 = .ok (.getfield 7, 3) := by decide +kernel
theorem d4_7 : decode prog_221_method_3_code 7 = .ok (.i2l, 1) := by decide +kernel
theorem d4_8 : decode prog_221_method_3_code 8 = .ok (.lmul, 1) := by decide +kernel
theorem d4_9 : decode prog_221_method_3_code 9 = .ok (.aload_n 0, 1) := by decide +kernel
theorem d4_10 : decode prog_221_method_3_code 10 = .ok (.getfield 13, 3) := by decide +kernel
theorem d4_13 : decode prog_221_method_3_code 13 = .ok (.i2l, 1) := by decide +kernel
theorem d4_14 : decode prog_221_method_3_code 14 = .ok (.ladd, 1) := by decide +kernel
theorem d4_15 : decode prog_221_method_3_code 15 = .ok (.ldc2_w 46, 3) := by decide +kernel
theorem d4_18 : decode prog_221_method_3_code 18 = .ok (.aload_n 0, 1) := by decide +kernel
theorem d4_19 : decode prog_221_method_3_code 19 = .ok (.getfield 16, 3) := by decide +kernel
theorem d4_22 : decode prog_221_method_3_code 22 = .ok (.i2l, 1) := by decide +kernel
theorem d4_23 : decode prog_221_method_3_code 23 = .ok (.lmul, 1) := by decide +kernel
theorem d4_24 : decode prog_221_method_3_code 24 = .ok (.lsub, 1) := by decide +kernel
theorem d4_25 : decode prog_221_method_3_code 25 = .ok (.ldc2_w 48, 3) := by decide +kernel
theorem d4_28 : decode prog_221_method_3_code 28 = .ok (.aload_n 0, 1) := by decide +kernel
theorem d4_29 : decode prog_221_method_3_code 29 = .ok (.getfield 19, 3) := by decide +kernel
theorem d4_32 : decode prog_221_method_3_code 32 = .ok (.i2l, 1) := by decide +kernel
theorem d4_33 : decode prog_221_method_3_code 33 = .ok (.lmul, 1) := by decide +kernel
theorem d4_34 : decode prog_221_method_3_code 34 = .ok (.lsub, 1) := by decide +kernel
theorem d4_35 : decode prog_221_method_3_code 35 = .ok (.lreturn, 1) := by decide +kernel
theorem pf_4 : plainFor (⟨"com/example/proofhound/proofhound/suite/Score", "points", "()J"⟩ : MethodName) = true := by first | exact plainFor_of_name (by first | (simp [plainName, overriddenIn]; done) | decide +kernel) | decide +kernel
theorem pd_4 : parseMethodDescriptor "()J" = some ⟨[], some .long⟩ := by decide +kernel
theorem ef_4 (m : MethodId) (p0 : Addr) : entryFrame m #[(.ref p0)] 1 = mkF m 0 #[.val (.ref p0)] [] := by first | (simp [entryFrame, mkF, argsToLocals, Value.category]; done) | rfl
def Q4 (xa : Int32) (xb : Int32) (xc : Int32) (xd : Int32) (h0 : Heap) (n0 : Nat) (v : Option Value) (h : Heap) (L : List Loc) : Prop := v = some (.long (own_pts xa xb xc xd)) ∧ Fr n0 L ∧ h = h0
set_option maxRecDepth 65536 in
set_option maxHeartbeats 40000000 in
theorem rm4 (l : Launch) (Z : State) (a0 : Array Value) (hw : ∀ d ∈ tables_1, d.before a0 Z = true) (ws : List Jvm.Cond) (p0 : Addr) (h0 : Heap) (n0 : Nat) (Z0 : n0 ≤ h0.size) (xa xb xc xd : Int32) (FacorrectTrue : Fld Z h0 p0 "com/example/proofhound/proofhound/suite/Score" "correctTrue" "I" (.int xa)) (FacorrectFalse : Fld Z h0 p0 "com/example/proofhound/proofhound/suite/Score" "correctFalse" "I" (.int xb)) (FawrongTrue : Fld Z h0 p0 "com/example/proofhound/proofhound/suite/Score" "wrongTrue" "I" (.int xc)) (FawrongFalse : Fld Z h0 p0 "com/example/proofhound/proofhound/suite/Score" "wrongFalse" "I" (.int xd)) :
    own_Met l Z (⟨"com/example/proofhound/proofhound/suite/Score", "points", "()J"⟩ : MethodName) prog_221_method_3_code 1 (some .long) ws ({ frames := 0, cells := 0, slots := 0, locals := 0 } : Room) #[(.ref p0)] h0 (Q4 xa xb xc xd h0 n0) := by
  refine MetFree.of_bodySF pf_4 hisR ?_
  intro p e s m args below meth c s₁ Bd hml0 hP hK
  obtain ⟨rfl, hZ, hh⟩ := hP
  have hx := Bd.exec
  have hby := Bd.bytes
  have hlk : meth.locks = false := BodyLoose.notSynchronized Bd
  have hml : c.maxLocals = 1 := hml0
  have hown : s.vm.findClass "com/example/proofhound/proofhound/suite/Score" = some m.cls := findClass_of_methodNamed Bd.named
  have hnm := (name_of_methodNamed Bd.named Bd.method).1
  have X0 : Stand p l e ({ frames := 0, cells := 0, slots := 0, locals := 0 } : Room) s m #[(.ref p0)] below meth c s₁ [] 0 0 := Stand.of_body Bd
  have e0 : s₁.heap = h0 := by rw [← hh, Bd.state]; rfl
  have N0 := Fr.nil n0
  show own_Go p.tables e below s (Q4 xa xb xc xd h0 n0) ({ frames := 0, cells := 0, slots := 0, locals := 0 } : Room).cells ({ frames := 0, cells := 0, slots := 0, locals := 0 } : Room).slots _
  refine own_by (fun _ k => castTop (ef_4 m p0) k) ?_
  show own_Go p.tables e below s _ _ _ (s₁.setTop (mkF m 0 #[.val (.ref p0)] []))
  refine own_by (fun _ k => X0.ldc2Long hx hown (mvT hZ (hw _ (List.mem_of_getElem? (i := 29) rfl))) (g := (mkF m 0 #[.val (.ref p0)] [])) rfl (hb hby d4_0) _ k) ?_
  show own_Go p.tables e below s _ _ _ (s₁.setTop (mkF m 3 #[.val (.ref p0)] [(.long (2 : Int64))]))
  refine own_by (fun _ k => XS.aloadN X0.here hx rfl (hb hby d4_3) rfl rfl k) ?_
  show own_Go p.tables e below s _ _ _ (s₁.setTop (mkF m 4 #[.val (.ref p0)] [(.ref p0), (.long (2 : Int64))]))
  obtain ⟨T1, X1, e1, st1⟩ := getF X0 hx hZ hown (host := "") (Or.inl (hw _ (List.mem_of_getElem? (i := 14) rfl))) Via.refl e0 FacorrectTrue (g := (mkF m 4 #[.val (.ref p0)] [(.ref p0), (.long (2 : Int64))])) rfl rfl (hb hby d4_4)
  refine own_by st1 ?_
  show own_Go p.tables e below s _ _ _ (T1.setTop (mkF m 7 #[.val (.ref p0)] [(.int xa), (.long (2 : Int64))]))
  refine own_by (fun _ k => XS.i2l X1.here hx rfl (hb hby d4_7) rfl k) ?_
  show own_Go p.tables e below s _ _ _ (T1.setTop (mkF m 8 #[.val (.ref p0)] [(.long (xa.toInt64)), (.long (2 : Int64))]))
  refine own_by (fun _ k => XS.lmul X1.here hx rfl (hb hby d4_8) rfl k) ?_
  show own_Go p.tables e below s _ _ _ (T1.setTop (mkF m 9 #[.val (.ref p0)] [(.long ((2 : Int64) * (xa.toInt64)))]))
  refine own_by (fun _ k => XS.aloadN X1.here hx rfl (hb hby d4_9) rfl rfl k) ?_
  show own_Go p.tables e below s _ _ _ (T1.setTop (mkF m 10 #[.val (.ref p0)] [(.ref p0), (.long ((2 : Int64) * (xa.toInt64)))]))
  obtain ⟨T2, X2, e2, st2⟩ := getF X1 hx hZ hown (host := "") (Or.inl (hw _ (List.mem_of_getElem? (i := 16) rfl))) Via.refl e1 FacorrectFalse (g := (mkF m 10 #[.val (.ref p0)] [(.ref p0), (.long ((2 : Int64) * (xa.toInt64)))])) rfl rfl (hb hby d4_10)
  refine own_by st2 ?_
  show own_Go p.tables e below s _ _ _ (T2.setTop (mkF m 13 #[.val (.ref p0)] [(.int xb), (.long ((2 : Int64) * (xa.toInt64)))]))
  refine own_by (fun _ k => XS.i2l X2.here hx rfl (hb hby d4_13) rfl k) ?_
  show own_Go p.tables e below s _ _ _ (T2.setTop (mkF m 14 #[.val (.ref p0)] [(.long (xb.toInt64)), (.long ((2 : Int64) * (xa.toInt64)))]))
  refine own_by (fun _ k => XS.ladd X2.here hx rfl (hb hby d4_14) rfl k) ?_
  show own_Go p.tables e below s _ _ _ (T2.setTop (mkF m 15 #[.val (.ref p0)] [(.long (((2 : Int64) * (xa.toInt64)) + (xb.toInt64)))]))
  refine own_by (fun _ k => X2.ldc2Long hx hown (mvT hZ (hw _ (List.mem_of_getElem? (i := 30) rfl))) (g := (mkF m 15 #[.val (.ref p0)] [(.long (((2 : Int64) * (xa.toInt64)) + (xb.toInt64)))])) rfl (hb hby d4_15) _ k) ?_
  show own_Go p.tables e below s _ _ _ (T2.setTop (mkF m 18 #[.val (.ref p0)] [(.long (32 : Int64)), (.long (((2 : Int64) * (xa.toInt64)) + (xb.toInt64)))]))
  refine own_by (fun _ k => XS.aloadN X2.here hx rfl (hb hby d4_18) rfl rfl k) ?_
  show own_Go p.tables e below s _ _ _ (T2.setTop (mkF m 19 #[.val (.ref p0)] [(.ref p0), (.long (32 : Int64)), (.long (((2 : Int64) * (xa.toInt64)) + (xb.toInt64)))]))
  obtain ⟨T3, X3, e3, st3⟩ := getF X2 hx hZ hown (host := "") (Or.inl (hw _ (List.mem_of_getElem? (i := 18) rfl))) Via.refl e2 FawrongTrue (g := (mkF m 19 #[.val (.ref p0)] [(.ref p0), (.long (32 : Int64)), (.long (((2 : Int64) * (xa.toInt64)) + (xb.toInt64)))])) rfl rfl (hb hby d4_19)
  refine own_by st3 ?_
  show own_Go p.tables e below s _ _ _ (T3.setTop (mkF m 22 #[.val (.ref p0)] [(.int xc), (.long (32 : Int64)), (.long (((2 : Int64) * (xa.toInt64)) + (xb.toInt64)))]))
  refine own_by (fun _ k => XS.i2l X3.here hx rfl (hb hby d4_22) rfl k) ?_
  show own_Go p.tables e below s _ _ _ (T3.setTop (mkF m 23 #[.val (.ref p0)] [(.long (xc.toInt64)), (.long (32 : Int64)), (.long (((2 : Int64) * (xa.toInt64)) + (xb.toInt64)))]))
  refine own_by (fun _ k => XS.lmul X3.here hx rfl (hb hby d4_23) rfl k) ?_
  show own_Go p.tables e below s _ _ _ (T3.setTop (mkF m 24 #[.val (.ref p0)] [(.long ((32 : Int64) * (xc.toInt64))), (.long (((2 : Int64) * (xa.toInt64)) + (xb.toInt64)))]))
  refine own_by (fun _ k => XS.lsub X3.here hx rfl (hb hby d4_24) rfl k) ?_
  show own_Go p.tables e below s _ _ _ (T3.setTop (mkF m 25 #[.val (.ref p0)] [(.long ((((2 : Int64) * (xa.toInt64)) + (xb.toInt64)) - ((32 : Int64) * (xc.toInt64))))]))
  refine own_by (fun _ k => X3.ldc2Long hx hown (mvT hZ (hw _ (List.mem_of_getElem? (i := 31) rfl))) (g := (mkF m 25 #[.val (.ref p0)] [(.long ((((2 : Int64) * (xa.toInt64)) + (xb.toInt64)) - ((32 : Int64) * (xc.toInt64))))])) rfl (hb hby d4_25) _ k) ?_
  show own_Go p.tables e below s _ _ _ (T3.setTop (mkF m 28 #[.val (.ref p0)] [(.long (16 : Int64)), (.long ((((2 : Int64) * (xa.toInt64)) + (xb.toInt64)) - ((32 : Int64) * (xc.toInt64))))]))
  refine own_by (fun _ k => XS.aloadN X3.here hx rfl (hb hby d4_28) rfl rfl k) ?_
  show own_Go p.tables e below s _ _ _ (T3.setTop (mkF m 29 #[.val (.ref p0)] [(.ref p0), (.long (16 : Int64)), (.long ((((2 : Int64) * (xa.toInt64)) + (xb.toInt64)) - ((32 : Int64) * (xc.toInt64))))]))
  obtain ⟨T4, X4, e4, st4⟩ := getF X3 hx hZ hown (host := "") (Or.inl (hw _ (List.mem_of_getElem? (i := 20) rfl))) Via.refl e3 FawrongFalse (g := (mkF m 29 #[.val (.ref p0)] [(.ref p0), (.long (16 : Int64)), (.long ((((2 : Int64) * (xa.toInt64)) + (xb.toInt64)) - ((32 : Int64) * (xc.toInt64))))])) rfl rfl (hb hby d4_29)
  refine own_by st4 ?_
  show own_Go p.tables e below s _ _ _ (T4.setTop (mkF m 32 #[.val (.ref p0)] [(.int xd), (.long (16 : Int64)), (.long ((((2 : Int64) * (xa.toInt64)) + (xb.toInt64)) - ((32 : Int64) * (xc.toInt64))))]))
  refine own_by (fun _ k => XS.i2l X4.here hx rfl (hb hby d4_32) rfl k) ?_
  show own_Go p.tables e below s _ _ _ (T4.setTop (mkF m 33 #[.val (.ref p0)] [(.long (xd.toInt64)), (.long (16 : Int64)), (.long ((((2 : Int64) * (xa.toInt64)) + (xb.toInt64)) - ((32 : Int64) * (xc.toInt64))))]))
  refine own_by (fun _ k => XS.lmul X4.here hx rfl (hb hby d4_33) rfl k) ?_
  show own_Go p.tables e below s _ _ _ (T4.setTop (mkF m 34 #[.val (.ref p0)] [(.long ((16 : Int64) * (xd.toInt64))), (.long ((((2 : Int64) * (xa.toInt64)) + (xb.toInt64)) - ((32 : Int64) * (xc.toInt64))))]))
  refine own_by (fun _ k => XS.lsub X4.here hx rfl (hb hby d4_34) rfl k) ?_
  show own_Go p.tables e below s _ _ _ (T4.setTop (mkF m 35 #[.val (.ref p0)] [(.long (((((2 : Int64) * (xa.toInt64)) + (xb.toInt64)) - ((32 : Int64) * (xc.toInt64))) - ((16 : Int64) * (xd.toInt64))))]))
  exact own_retJ X4 hx hlk Bd.returns (hb hby d4_35) (by decide) (by decide) ⟨rfl, N0, e4⟩
theorem d6_0 : decode jdk_29_method_69_code 0 = .ok (.iload_n 0, 1) := by decide +kernel
theorem d6_1 : decode jdk_29_method_69_code 1 = .ok (.iload_n 1, 1) := by decide +kernel
theorem d6_2 : decode jdk_29_method_69_code 2 = .ok (.if_icmp .gt 7, 3) := by decide +kernel
theorem d6_5 : decode jdk_29_method_69_code 5 = .ok (.iload_n 0, 1) := by decide +kernel
theorem d6_6 : decode jdk_29_method_69_code 6 = .ok (.goto 4, 3) := by decide +kernel
theorem d6_9 : decode jdk_29_method_69_code 9 = .ok (.iload_n 1, 1) := by decide +kernel
theorem d6_10 : decode jdk_29_method_69_code 10 = .ok (.ireturn, 1) := by decide +kernel
theorem pf_6 : plainFor (⟨"java/lang/Math", "min", "(II)I"⟩ : MethodName) = true := by first | exact plainFor_of_name (by first | (simp [plainName, overriddenIn]; done) | decide +kernel) | decide +kernel
theorem pd_6 : parseMethodDescriptor "(II)I" = some ⟨[.int, .int], some .int⟩ := by decide +kernel
theorem ef_6 (m : MethodId) (p1 : Int32) (p2 : Int32) : entryFrame m #[(.int p1), (.int p2)] 2 = mkF m 0 #[.val (.int p1), .val (.int p2)] [] := by first | (simp [entryFrame, mkF, argsToLocals, Value.category]; done) | rfl
def Q6 (p1 : Int32) (p2 : Int32) (h0 : Heap) (n0 : Nat) (v : Option Value) (h : Heap) (L : List Loc) : Prop := v = some (.int (if p2 < p1 then p2 else p1)) ∧ Fr n0 L ∧ h = h0
set_option maxRecDepth 65536 in
set_option maxHeartbeats 40000000 in
theorem rm6 (l : Launch) (Z : State) (a0 : Array Value) (hw : ∀ d ∈ tables_1, d.before a0 Z = true) (ws : List Jvm.Cond) (p1 : Int32) (p2 : Int32) (h0 : Heap) (n0 : Nat) (Z0 : n0 ≤ h0.size)  :
    own_Met l Z (⟨"java/lang/Math", "min", "(II)I"⟩ : MethodName) jdk_29_method_69_code 2 (some .int) ws ({ frames := 0, cells := 0, slots := 0, locals := 0 } : Room) #[(.int p1), (.int p2)] h0 (Q6 p1 p2 h0 n0) := by
  refine MetFree.of_bodySF pf_6 hisR ?_
  intro p e s m args below meth c s₁ Bd hml0 hP hK
  obtain ⟨rfl, hZ, hh⟩ := hP
  have hx := Bd.exec
  have hby := Bd.bytes
  have hlk : meth.locks = false := BodyLoose.notSynchronized Bd
  have hml : c.maxLocals = 2 := hml0
  have hown : s.vm.findClass "java/lang/Math" = some m.cls := findClass_of_methodNamed Bd.named
  have hnm := (name_of_methodNamed Bd.named Bd.method).1
  have X0 : Stand p l e ({ frames := 0, cells := 0, slots := 0, locals := 0 } : Room) s m #[(.int p1), (.int p2)] below meth c s₁ [] 0 0 := Stand.of_body Bd
  have e0 : s₁.heap = h0 := by rw [← hh, Bd.state]; rfl
  have N0 := Fr.nil n0
  show own_Go p.tables e below s (Q6 p1 p2 h0 n0) ({ frames := 0, cells := 0, slots := 0, locals := 0 } : Room).cells ({ frames := 0, cells := 0, slots := 0, locals := 0 } : Room).slots _
  refine own_by (fun _ k => castTop (ef_6 m p1 p2) k) ?_
  show own_Go p.tables e below s _ _ _ (s₁.setTop (mkF m 0 #[.val (.int p1), .val (.int p2)] []))
  refine own_by (fun _ k => XS.iloadN X0.here hx rfl (hb hby d6_0) rfl k) ?_
  show own_Go p.tables e below s _ _ _ (s₁.setTop (mkF m 1 #[.val (.int p1), .val (.int p2)] [(.int p1)]))
  refine own_by (fun _ k => XS.iloadN X0.here hx rfl (hb hby d6_1) rfl k) ?_
  show own_Go p.tables e below s _ _ _ (s₁.setTop (mkF m 2 #[.val (.int p1), .val (.int p2)] [(.int p2), (.int p1)]))
  by_cases hc2_1 : p2 < p1
  · refine own_by (fun _ k => XS.icmpYes X0.here hx rfl (pc0 := 2) (pc' := 9) rfl (hb hby d6_2) rfl (tlt hc2_1).2.2.1 (by decide) (by decide) k) ?_
    show own_Go p.tables e below s _ _ _ (s₁.setTop (mkF m 9 #[.val (.int p1), .val (.int p2)] []))
    refine own_by (fun _ k => XS.iloadN X0.here hx rfl (hb hby d6_9) rfl k) ?_
    show own_Go p.tables e below s _ _ _ (s₁.setTop (mkF m 10 #[.val (.int p1), .val (.int p2)] [(.int p2)]))
    exact own_retI X0 hx hlk Bd.returns (hb hby d6_10) (by decide) (by decide) ⟨by rw [if_pos hc2_1], N0, e0⟩
  · refine own_by (fun _ k => XS.icmpNo X0.here hx rfl (hb hby d6_2) rfl (flt hc2_1).2.2.1 k) ?_
    show own_Go p.tables e below s _ _ _ (s₁.setTop (mkF m 5 #[.val (.int p1), .val (.int p2)] []))
    refine own_by (fun _ k => XS.iloadN X0.here hx rfl (hb hby d6_5) rfl k) ?_
    show own_Go p.tables e below s _ _ _ (s₁.setTop (mkF m 6 #[.val (.int p1), .val (.int p2)] [(.int p1)]))
    refine own_by (fun _ k => XS.goto X0.here hx rfl (pc0 := 6) (pc' := 10) rfl (hb hby d6_6) (by decide) (by decide) k) ?_
    show own_Go p.tables e below s _ _ _ (s₁.setTop (mkF m 10 #[.val (.int p1), .val (.int p2)] [(.int p1)]))
    exact own_retI X0 hx hlk Bd.returns (hb hby d6_10) (by decide) (by decide) ⟨by rw [if_neg hc2_1], N0, e0⟩
theorem d5_0 : decode method_2_code 0 = .ok (.iload_n 0, 1) := by decide +kernel
theorem d5_1 : decode method_2_code 1 = .ok (.ldc 9, 2) := by decide +kernel
theorem d5_3 : decode method_2_code 3 = .ok (.invokestatic 10, 3) := by decide +kernel
theorem d5_6 : decode method_2_code 6 = .ok (.ireturn, 1) := by decide +kernel
theorem pf_5 : plainFor (⟨"com/example/proofhound/proofhound/suite/ScorePointsPinLaw", "clamp", "(I)I"⟩ : MethodName) = true := by first | exact plainFor_of_name (by first | (simp [plainName, overriddenIn]; done) | decide +kernel) | decide +kernel
theorem pd_5 : parseMethodDescriptor "(I)I" = some ⟨[.int], some .int⟩ := by decide +kernel
theorem ef_5 (m : MethodId) (p1 : Int32) : entryFrame m #[(.int p1)] 1 = mkF m 0 #[.val (.int p1)] [] := by first | (simp [entryFrame, mkF, argsToLocals, Value.category]; done) | rfl
def Q5 (p1 : Int32) (h0 : Heap) (n0 : Nat) (v : Option Value) (h : Heap) (L : List Loc) : Prop := v = some (.int (own_clamp p1)) ∧ Fr n0 L ∧ h = h0
set_option maxRecDepth 65536 in
set_option maxHeartbeats 40000000 in
theorem rm5 (l : Launch) (Z : State) (a0 : Array Value) (hw : ∀ d ∈ tables_1, d.before a0 Z = true) (ws : List Jvm.Cond) (p1 : Int32) (h0 : Heap) (n0 : Nat) (Z0 : n0 ≤ h0.size)  :
    own_Met l Z (⟨"com/example/proofhound/proofhound/suite/ScorePointsPinLaw", "clamp", "(I)I"⟩ : MethodName) method_2_code 1 (some .int) ws ({ frames := 1, cells := 0, slots := 0, locals := 13 } : Room) #[(.int p1)] h0 (Q5 p1 h0 n0) := by
  refine MetFree.of_bodySF pf_5 hisR ?_
  intro p e s m args below meth c s₁ Bd hml0 hP hK
  obtain ⟨rfl, hZ, hh⟩ := hP
  have hx := Bd.exec
  have hby := Bd.bytes
  have hlk : meth.locks = false := BodyLoose.notSynchronized Bd
  have hml : c.maxLocals = 1 := hml0
  have hown : s.vm.findClass "com/example/proofhound/proofhound/suite/ScorePointsPinLaw" = some m.cls := findClass_of_methodNamed Bd.named
  have hnm := (name_of_methodNamed Bd.named Bd.method).1
  have X0 : Stand p l e ({ frames := 1, cells := 0, slots := 0, locals := 13 } : Room) s m #[(.int p1)] below meth c s₁ [] 0 0 := Stand.of_body Bd
  have e0 : s₁.heap = h0 := by rw [← hh, Bd.state]; rfl
  have N0 := Fr.nil n0
  show own_Go p.tables e below s (Q5 p1 h0 n0) ({ frames := 1, cells := 0, slots := 0, locals := 13 } : Room).cells ({ frames := 1, cells := 0, slots := 0, locals := 13 } : Room).slots _
  refine own_by (fun _ k => castTop (ef_5 m p1) k) ?_
  show own_Go p.tables e below s _ _ _ (s₁.setTop (mkF m 0 #[.val (.int p1)] []))
  refine own_by (fun _ k => XS.iloadN X0.here hx rfl (hb hby d5_0) rfl k) ?_
  show own_Go p.tables e below s _ _ _ (s₁.setTop (mkF m 1 #[.val (.int p1)] [(.int p1)]))
  refine own_by (fun _ k => X0.ldcInt hx hown (mvT hZ (hw _ (List.mem_of_getElem? (i := 36) rfl))) (g := (mkF m 1 #[.val (.int p1)] [(.int p1)])) rfl (hb hby d5_1) _ k) ?_
  show own_Go p.tables e below s _ _ _ (s₁.setTop (mkF m 3 #[.val (.int p1)] [(.int (2147483646 : Int32)), (.int p1)]))
  obtain ⟨v1, T1, L1, X1, q1, st1⟩ := own_callS X0 hx hZ hown (hw _ (List.mem_of_getElem? (i := 37) rfl)) (hw _ (List.mem_of_getElem? (i := 38) rfl)) (hw _ (List.mem_of_getElem? (i := 39) rfl)) (hw _ (List.mem_of_getElem? (i := 40) rfl)) (by decide) (rm6 l Z a0 hw [] p1 (2147483646 : Int32) h0 n0 Z0) (W := 0) (by decide) (by decide) e0 (g := (mkF m 3 #[.val (.int p1)] [(.int (2147483646 : Int32)), (.int p1)])) rfl (by rw [hml]; rfl) (argsL := [(.int p1), (.int (2147483646 : Int32))]) (rest := []) (lenOf pd_6 rfl) rfl rfl (by show 2 * 0 + _ ≤ _; exact Nat.le_of_eq rfl) (hb hby d5_3) (by decide) (by decide)
  obtain ⟨rfl, Nq1, hh1⟩ := q1
  have N1 := Fr.app N0 Nq1
  refine own_by st1 ?_
  show own_Go p.tables e below s _ _ _ (T1.setTop (mkF m 6 #[.val (.int p1)] [(.int (own_clamp p1))]))
  exact own_retI X1 hx hlk Bd.returns (hb hby d5_6) (by decide) (by decide) ⟨rfl, N1, hh1⟩
theorem d7_0 : decode method_3_code 0 = .ok (.iload_n 0, 1) := by decide +kernel
theorem d7_1 : decode method_3_code 1 = .ok (.ifCond .ne 7, 3) := by decide +kernel
theorem d7_4 : decode method_3_code 4 = .ok (.getstatic 16, 3) := by decide +kernel
theorem d7_7 : decode method_3_code 7 = .ok (.areturn, 1) := by decide +kernel
theorem d7_8 : decode method_3_code 8 = .ok (.iload_n 0, 1) := by decide +kernel
theorem d7_9 : decode method_3_code 9 = .ok (.iconst 1, 1) := by decide +kernel
theorem d7_10 : decode method_3_code 10 = .ok (.if_icmp .ne 7, 3) := by decide +kernel
theorem d7_13 : decode method_3_code 13 = .ok (.getstatic 22, 3) := by decide +kernel
theorem d7_16 : decode method_3_code 16 = .ok (.areturn, 1) := by decide +kernel
theorem d7_17 : decode method_3_code 17 = .ok (.getstatic 25, 3) := by decide +kernel
theorem d7_20 : decode method_3_code 20 = .ok (.areturn, 1) := by decide +kernel
theorem pf_7 : plainFor (⟨"com/example/proofhound/proofhound/suite/ScorePointsPinLaw", "obtainedOf", "(I)Lcom/example/proofhound/proofhound/verdict/Verdict;"⟩ : MethodName) = true := by first | exact plainFor_of_name (by first | (simp [plainName, overriddenIn]; done) | decide +kernel) | decide +kernel
theorem pd_7 : parseMethodDescriptor "(I)Lcom/example/proofhound/proofhound/verdict/Verdict;" = some ⟨[.int], some (.object "com/example/proofhound/proofhound/verdict/Verdict")⟩ := by decide +kernel
theorem ef_7 (m : MethodId) (p1 : Int32) : entryFrame m #[(.int p1)] 1 = mkF m 0 #[.val (.int p1)] [] := by first | (simp [entryFrame, mkF, argsToLocals, Value.category]; done) | rfl
def Q7 (p1 : Int32) (vT : Addr) (vF : Addr) (vU : Addr) (h0 : Heap) (n0 : Nat) (v : Option Value) (h : Heap) (L : List Loc) : Prop := v = some (.ref (own_of p1 vT vF vU)) ∧ Fr n0 L ∧ h = h0
set_option maxRecDepth 65536 in
set_option maxHeartbeats 40000000 in
theorem rm7 (l : Launch) (Z : State) (a0 : Array Value) (hw : ∀ d ∈ tables_1, d.before a0 Z = true) (ws : List Jvm.Cond) (p1 : Int32) (h0 : Heap) (n0 : Nat) (Z0 : n0 ≤ h0.size) (vT vF vU : Addr) (STRUE : Sta Z h0 "com/example/proofhound/proofhound/verdict/Verdict" "TRUE" "Lcom/example/proofhound/proofhound/verdict/Verdict;" (.ref vT)) (SFALSE : Sta Z h0 "com/example/proofhound/proofhound/verdict/Verdict" "FALSE" "Lcom/example/proofhound/proofhound/verdict/Verdict;" (.ref vF)) (SUNKNOWN : Sta Z h0 "com/example/proofhound/proofhound/verdict/Verdict" "UNKNOWN" "Lcom/example/proofhound/proofhound/verdict/Verdict;" (.ref vU)) :
    own_Met l Z (⟨"com/example/proofhound/proofhound/suite/ScorePointsPinLaw", "obtainedOf", "(I)Lcom/example/proofhound/proofhound/verdict/Verdict;"⟩ : MethodName) method_3_code 1 (some (.object "com/example/proofhound/proofhound/verdict/Verdict")) ws ({ frames := 0, cells := 0, slots := 0, locals := 0 } : Room) #[(.int p1)] h0 (Q7 p1 vT vF vU h0 n0) := by
  refine MetFree.of_bodySF pf_7 hisR ?_
  intro p e s m args below meth c s₁ Bd hml0 hP hK
  obtain ⟨rfl, hZ, hh⟩ := hP
  have hx := Bd.exec
  have hby := Bd.bytes
  have hlk : meth.locks = false := BodyLoose.notSynchronized Bd
  have hml : c.maxLocals = 1 := hml0
  have hown : s.vm.findClass "com/example/proofhound/proofhound/suite/ScorePointsPinLaw" = some m.cls := findClass_of_methodNamed Bd.named
  have hnm := (name_of_methodNamed Bd.named Bd.method).1
  have X0 : Stand p l e ({ frames := 0, cells := 0, slots := 0, locals := 0 } : Room) s m #[(.int p1)] below meth c s₁ [] 0 0 := Stand.of_body Bd
  have e0 : s₁.heap = h0 := by rw [← hh, Bd.state]; rfl
  have N0 := Fr.nil n0
  show own_Go p.tables e below s (Q7 p1 vT vF vU h0 n0) ({ frames := 0, cells := 0, slots := 0, locals := 0 } : Room).cells ({ frames := 0, cells := 0, slots := 0, locals := 0 } : Room).slots _
  refine own_by (fun _ k => castTop (ef_7 m p1) k) ?_
  show own_Go p.tables e below s _ _ _ (s₁.setTop (mkF m 0 #[.val (.int p1)] []))
  refine own_by (fun _ k => XS.iloadN X0.here hx rfl (hb hby d7_0) rfl k) ?_
  show own_Go p.tables e below s _ _ _ (s₁.setTop (mkF m 1 #[.val (.int p1)] [(.int p1)]))
  by_cases hc1_1 : p1 = (0 : Int32)
  · refine own_by (fun _ k => XS.ifNo X0.here hx rfl (hb hby d7_1) rfl ((if0 _ _).trans (teq hc1_1).2) k) ?_
    show own_Go p.tables e below s _ _ _ (s₁.setTop (mkF m 4 #[.val (.int p1)] []))
    obtain ⟨T2, X2, e2, st2⟩ := getS2 X0 hx hZ hown (host := "") (Or.inl (hw _ (List.mem_of_getElem? (i := 61) rfl))) Via.refl e0 STRUE (g := (mkF m 4 #[.val (.int p1)] [])) rfl (hb hby d7_4)
    refine own_by st2 ?_
    show own_Go p.tables e below s _ _ _ (T2.setTop (mkF m 7 #[.val (.int p1)] [(.ref vT)]))
    exact own_retA X2 hx hlk Bd.returns rfl (hb hby d7_7) (by decide) (by decide) ⟨by simp only [own_of, hc1_1, if_true, if_false]; try rfl, N0, e2⟩
  · refine own_by (fun _ k => XS.ifYes X0.here hx rfl (pc0 := 1) (pc' := 8) rfl (hb hby d7_1) rfl ((if0 _ _).trans (feq hc1_1).2) (by decide) (by decide) k) ?_
    show own_Go p.tables e below s _ _ _ (s₁.setTop (mkF m 8 #[.val (.int p1)] []))
    refine own_by (fun _ k => XS.iloadN X0.here hx rfl (hb hby d7_8) rfl k) ?_
    show own_Go p.tables e below s _ _ _ (s₁.setTop (mkF m 9 #[.val (.int p1)] [(.int p1)]))
    refine own_by (fun _ k => XS.iconst X0.here hx rfl (hb hby d7_9) k) ?_
    show own_Go p.tables e below s _ _ _ (s₁.setTop (mkF m 10 #[.val (.int p1)] [(.int (1 : Int32)), (.int p1)]))
    by_cases hc10_3 : p1 = (1 : Int32)
    · refine own_by (fun _ k => XS.icmpNo X0.here hx rfl (hb hby d7_10) rfl (teq hc10_3).2 k) ?_
      show own_Go p.tables e below s _ _ _ (s₁.setTop (mkF m 13 #[.val (.int p1)] []))
      obtain ⟨T4, X4, e4, st4⟩ := getS2 X0 hx hZ hown (host := "") (Or.inl (hw _ (List.mem_of_getElem? (i := 41) rfl))) Via.refl e0 SFALSE (g := (mkF m 13 #[.val (.int p1)] [])) rfl (hb hby d7_13)
      refine own_by st4 ?_
      show own_Go p.tables e below s _ _ _ (T4.setTop (mkF m 16 #[.val (.int p1)] [(.ref vF)]))
      exact own_retA X4 hx hlk Bd.returns rfl (hb hby d7_16) (by decide) (by decide) ⟨by simp only [own_of, hc1_1, hc10_3, if_true, if_false]; try rfl, N0, e4⟩
    · refine own_by (fun _ k => XS.icmpYes X0.here hx rfl (pc0 := 10) (pc' := 17) rfl (hb hby d7_10) rfl (feq hc10_3).2 (by decide) (by decide) k) ?_
      show own_Go p.tables e below s _ _ _ (s₁.setTop (mkF m 17 #[.val (.int p1)] []))
      obtain ⟨T5, X5, e5, st5⟩ := getS2 X0 hx hZ hown (host := "") (Or.inl (hw _ (List.mem_of_getElem? (i := 65) rfl))) Via.refl e0 SUNKNOWN (g := (mkF m 17 #[.val (.int p1)] [])) rfl (hb hby d7_17)
      refine own_by st5 ?_
      show own_Go p.tables e below s _ _ _ (T5.setTop (mkF m 20 #[.val (.int p1)] [(.ref vU)]))
      exact own_retA X5 hx hlk Bd.returns rfl (hb hby d7_20) (by decide) (by decide) ⟨by simp only [own_of, hc1_1, hc10_3, if_true, if_false]; try rfl, N0, e5⟩
theorem d9_0 : decode method_4_code 0 = .ok (.iload_n 1, 1) := by decide +kernel
theorem d9_1 : decode method_4_code 1 = .ok (.iconst 2, 1) := by decide +kernel
theorem d9_2 : decode method_4_code 2 = .ok (.if_icmp .ne 5, 3) := by decide +kernel
theorem d9_5 : decode method_4_code 5 = .ok (.lconst 0, 1) := by decide +kernel
theorem d9_6 : decode method_4_code 6 = .ok (.lreturn, 1) := by decide +kernel
theorem d9_7 : decode method_4_code 7 = .ok (.iload_n 0, 1) := by decide +kernel
theorem d9_8 : decode method_4_code 8 = .ok (.ifCond .eq 17, 3) := by decide +kernel
theorem d9_11 : decode method_4_code 11 = .ok (.iload_n 1, 1) := by decide +kernel
theorem d9_12 : decode method_4_code 12 = .ok (.ifCond .ne 9, 3) := by decide +kernel
theorem d9_15 : decode method_4_code 15 = .ok (.ldc2_w 28, 3) := by decide +kernel
theorem d9_18 : decode method_4_code 18 = .ok (.goto 6, 3) := by decide +kernel
theorem d9_21 : decode method_4_code 21 = .ok (.ldc2_w 30, 3) := by decide +kernel
theorem d9_24 : decode method_4_code 24 = .ok (.lreturn, 1) := by decide +kernel
theorem d9_25 : decode method_4_code 25 = .ok (.iload_n 1, 1) := by decide +kernel
theorem d9_26 : decode method_4_code 26 = .ok (.ifCond .ne 9, 3) := by decide +kernel
theorem d9_29 : decode method_4_code 29 = .ok (.ldc2_w 32, 3) := by decide +kernel
theorem d9_32 : decode method_4_code 32 = .ok (.goto 4, 3) := by decide +kernel
theorem d9_35 : decode method_4_code 35 = .ok (.lconst 1, 1) := by decide +kernel
theorem d9_36 : decode method_4_code 36 = .ok (.lreturn, 1) := by decide +kernel
theorem pf_9 : plainFor (⟨"com/example/proofhound/proofhound/suite/ScorePointsPinLaw", "delta", "(ZI)J"⟩ : MethodName) = true := by first | exact plainFor_of_name (by first | (simp [plainName, overriddenIn]; done) | decide +kernel) | decide +kernel
theorem pd_9 : parseMethodDescriptor "(ZI)J" = some ⟨[.boolean, .int], some .long⟩ := by decide +kernel
theorem ef_9 (m : MethodId) (p1 : Int32) (p2 : Int32) : entryFrame m #[(.int p1), (.int p2)] 2 = mkF m 0 #[.val (.int p1), .val (.int p2)] [] := by first | (simp [entryFrame, mkF, argsToLocals, Value.category]; done) | rfl
def Q9 (p1 : Int32) (p2 : Int32) (h0 : Heap) (n0 : Nat) (v : Option Value) (h : Heap) (L : List Loc) : Prop := v = some (.long (own_delta p1 p2)) ∧ Fr n0 L ∧ h = h0
set_option maxRecDepth 65536 in
set_option maxHeartbeats 40000000 in
theorem rm9 (l : Launch) (Z : State) (a0 : Array Value) (hw : ∀ d ∈ tables_1, d.before a0 Z = true) (ws : List Jvm.Cond) (p1 : Int32) (p2 : Int32) (h0 : Heap) (n0 : Nat) (Z0 : n0 ≤ h0.size)  :
    own_Met l Z (⟨"com/example/proofhound/proofhound/suite/ScorePointsPinLaw", "delta", "(ZI)J"⟩ : MethodName) method_4_code 2 (some .long) ws ({ frames := 0, cells := 0, slots := 0, locals := 0 } : Room) #[(.int p1), (.int p2)] h0 (Q9 p1 p2 h0 n0) := by
  refine MetFree.of_bodySF pf_9 hisR ?_
  intro p e s m args below meth c s₁ Bd hml0 hP hK
  obtain ⟨rfl, hZ, hh⟩ := hP
  have hx := Bd.exec
  have hby := Bd.bytes
  have hlk : meth.locks = false := BodyLoose.notSynchronized Bd
  have hml : c.maxLocals = 2 := hml0
  have hown : s.vm.findClass "com/example/proofhound/proofhound/suite/ScorePointsPinLaw" = some m.cls := findClass_of_methodNamed Bd.named
  have hnm := (name_of_methodNamed Bd.named Bd.method).1
  have X0 : Stand p l e ({ frames := 0, cells := 0, slots := 0, locals := 0 } : Room) s m #[(.int p1), (.int p2)] below meth c s₁ [] 0 0 := Stand.of_body Bd
  have e0 : s₁.heap = h0 := by rw [← hh, Bd.state]; rfl
  have N0 := Fr.nil n0
  show own_Go p.tables e below s (Q9 p1 p2 h0 n0) ({ frames := 0, cells := 0, slots := 0, locals := 0 } : Room).cells ({ frames := 0, cells := 0, slots := 0, locals := 0 } : Room).slots _
  refine own_by (fun _ k => castTop (ef_9 m p1 p2) k) ?_
  show own_Go p.tables e below s _ _ _ (s₁.setTop (mkF m 0 #[.val (.int p1), .val (.int p2)] []))
  refine own_by (fun _ k => XS.iloadN X0.here hx rfl (hb hby d9_0) rfl k) ?_
  show own_Go p.tables e below s _ _ _ (s₁.setTop (mkF m 1 #[.val (.int p1), .val (.int p2)] [(.int p2)]))
  refine own_by (fun _ k => XS.iconst X0.here hx rfl (hb hby d9_1) k) ?_
  show own_Go p.tables e below s _ _ _ (s₁.setTop (mkF m 2 #[.val (.int p1), .val (.int p2)] [(.int (2 : Int32)), (.int p2)]))
  by_cases hc2_1 : p2 = (2 : Int32)
  · refine own_by (fun _ k => XS.icmpNo X0.here hx rfl (hb hby d9_2) rfl (teq hc2_1).2 k) ?_
    show own_Go p.tables e below s _ _ _ (s₁.setTop (mkF m 5 #[.val (.int p1), .val (.int p2)] []))
    refine own_by (fun _ k => XS.lconst X0.here hx rfl (hb hby d9_5) k) ?_
    show own_Go p.tables e below s _ _ _ (s₁.setTop (mkF m 6 #[.val (.int p1), .val (.int p2)] [(.long (0 : Int64))]))
    exact own_retJ X0 hx hlk Bd.returns (hb hby d9_6) (by decide) (by decide) ⟨by simp only [own_delta, hc2_1, if_true, if_false]; try rfl, N0, e0⟩
  · refine own_by (fun _ k => XS.icmpYes X0.here hx rfl (pc0 := 2) (pc' := 7) rfl (hb hby d9_2) rfl (feq hc2_1).2 (by decide) (by decide) k) ?_
    show own_Go p.tables e below s _ _ _ (s₁.setTop (mkF m 7 #[.val (.int p1), .val (.int p2)] []))
    refine own_by (fun _ k => XS.iloadN X0.here hx rfl (hb hby d9_7) rfl k) ?_
    show own_Go p.tables e below s _ _ _ (s₁.setTop (mkF m 8 #[.val (.int p1), .val (.int p2)] [(.int p1)]))
    by_cases hc8_2 : p1 = (0 : Int32)
    · refine own_by (fun _ k => XS.ifYes X0.here hx rfl (pc0 := 8) (pc' := 25) rfl (hb hby d9_8) rfl ((if0 _ _).trans (teq hc8_2).1) (by decide) (by decide) k) ?_
      show own_Go p.tables e below s _ _ _ (s₁.setTop (mkF m 25 #[.val (.int p1), .val (.int p2)] []))
      refine own_by (fun _ k => XS.iloadN X0.here hx rfl (hb hby d9_25) rfl k) ?_
      show own_Go p.tables e below s _ _ _ (s₁.setTop (mkF m 26 #[.val (.int p1), .val (.int p2)] [(.int p2)]))
      by_cases hc26_3 : p2 = (0 : Int32)
      · refine own_by (fun _ k => XS.ifNo X0.here hx rfl (hb hby d9_26) rfl ((if0 _ _).trans (teq hc26_3).2) k) ?_
        show own_Go p.tables e below s _ _ _ (s₁.setTop (mkF m 29 #[.val (.int p1), .val (.int p2)] []))
        refine own_by (fun _ k => X0.ldc2Long hx hown (mvT hZ (hw _ (List.mem_of_getElem? (i := 63) rfl))) (g := (mkF m 29 #[.val (.int p1), .val (.int p2)] [])) rfl (hb hby d9_29) _ k) ?_
        show own_Go p.tables e below s _ _ _ (s₁.setTop (mkF m 32 #[.val (.int p1), .val (.int p2)] [(.long (-32 : Int64))]))
        refine own_by (fun _ k => XS.goto X0.here hx rfl (pc0 := 32) (pc' := 36) rfl (hb hby d9_32) (by decide) (by decide) k) ?_
        show own_Go p.tables e below s _ _ _ (s₁.setTop (mkF m 36 #[.val (.int p1), .val (.int p2)] [(.long (-32 : Int64))]))
        exact own_retJ X0 hx hlk Bd.returns (hb hby d9_36) (by decide) (by decide) ⟨by simp only [own_delta, hc2_1, hc8_2, hc26_3, if_true, if_false]; try rfl, N0, e0⟩
      · refine own_by (fun _ k => XS.ifYes X0.here hx rfl (pc0 := 26) (pc' := 35) rfl (hb hby d9_26) rfl ((if0 _ _).trans (feq hc26_3).2) (by decide) (by decide) k) ?_
        show own_Go p.tables e below s _ _ _ (s₁.setTop (mkF m 35 #[.val (.int p1), .val (.int p2)] []))
        refine own_by (fun _ k => XS.lconst X0.here hx rfl (hb hby d9_35) k) ?_
        show own_Go p.tables e below s _ _ _ (s₁.setTop (mkF m 36 #[.val (.int p1), .val (.int p2)] [(.long (1 : Int64))]))
        exact own_retJ X0 hx hlk Bd.returns (hb hby d9_36) (by decide) (by decide) ⟨by simp only [own_delta, hc2_1, hc8_2, hc26_3, if_true, if_false]; try rfl, N0, e0⟩
    · refine own_by (fun _ k => XS.ifNo X0.here hx rfl (hb hby d9_8) rfl ((if0 _ _).trans (feq hc8_2).1) k) ?_
      show own_Go p.tables e below s _ _ _ (s₁.setTop (mkF m 11 #[.val (.int p1), .val (.int p2)] []))
      refine own_by (fun _ k => XS.iloadN X0.here hx rfl (hb hby d9_11) rfl k) ?_
      show own_Go p.tables e below s _ _ _ (s₁.setTop (mkF m 12 #[.val (.int p1), .val (.int p2)] [(.int p2)]))
      by_cases hc12_4 : p2 = (0 : Int32)
      · refine own_by (fun _ k => XS.ifNo X0.here hx rfl (hb hby d9_12) rfl ((if0 _ _).trans (teq hc12_4).2) k) ?_
        show own_Go p.tables e below s _ _ _ (s₁.setTop (mkF m 15 #[.val (.int p1), .val (.int p2)] []))
        refine own_by (fun _ k => X0.ldc2Long hx hown (mvT hZ (hw _ (List.mem_of_getElem? (i := 64) rfl))) (g := (mkF m 15 #[.val (.int p1), .val (.int p2)] [])) rfl (hb hby d9_15) _ k) ?_
        show own_Go p.tables e below s _ _ _ (s₁.setTop (mkF m 18 #[.val (.int p1), .val (.int p2)] [(.long (2 : Int64))]))
        refine own_by (fun _ k => XS.goto X0.here hx rfl (pc0 := 18) (pc' := 24) rfl (hb hby d9_18) (by decide) (by decide) k) ?_
        show own_Go p.tables e below s _ _ _ (s₁.setTop (mkF m 24 #[.val (.int p1), .val (.int p2)] [(.long (2 : Int64))]))
        exact own_retJ X0 hx hlk Bd.returns (hb hby d9_24) (by decide) (by decide) ⟨by simp only [own_delta, hc2_1, hc8_2, hc12_4, if_true, if_false]; try rfl, N0, e0⟩
      · refine own_by (fun _ k => XS.ifYes X0.here hx rfl (pc0 := 12) (pc' := 21) rfl (hb hby d9_12) rfl ((if0 _ _).trans (feq hc12_4).2) (by decide) (by decide) k) ?_
        show own_Go p.tables e below s _ _ _ (s₁.setTop (mkF m 21 #[.val (.int p1), .val (.int p2)] []))
        refine own_by (fun _ k => X0.ldc2Long hx hown (mvT hZ (hw _ (List.mem_of_getElem? (i := 62) rfl))) (g := (mkF m 21 #[.val (.int p1), .val (.int p2)] [])) rfl (hb hby d9_21) _ k) ?_
        show own_Go p.tables e below s _ _ _ (s₁.setTop (mkF m 24 #[.val (.int p1), .val (.int p2)] [(.long (-16 : Int64))]))
        exact own_retJ X0 hx hlk Bd.returns (hb hby d9_24) (by decide) (by decide) ⟨by simp only [own_delta, hc2_1, hc8_2, hc12_4, if_true, if_false]; try rfl, N0, e0⟩
theorem d8_0 : decode prog_221_method_2_code 0 = .ok (.aload_n 1, 1) := by decide +kernel
theorem d8_1 : decode prog_221_method_2_code 1 = .ok (.getstatic 25, 3) := by decide +kernel
theorem d8_4 : decode prog_221_method_2_code 4 = .ok (.if_acmp .ne 13, 3) := by decide +kernel
theorem d8_7 : decode prog_221_method_2_code 7 = .ok (.new 31, 3) := by decide +kernel
theorem d8_10 : decode prog_221_method_2_code 10 = .ok (.dup, 1) := by decide +kernel
theorem d8_11 : decode prog_221_method_2_code 11 = .ok (.ldc 33, 2) := by decide +kernel
theorem d8_13 : decode prog_221_method_2_code 13 = .ok (.invokespecial 35, 3) := by decide +kernel
theorem d8_16 : decode prog_221_method_2_code 16 = .ok (.athrow, 1) := by decide +kernel
theorem d8_17 : decode prog_221_method_2_code 17 = .ok (.aload_n 2, 1) := by decide +kernel
theorem d8_18 : decode prog_221_method_2_code 18 = .ok (.getstatic 25, 3) := by decide +kernel
theorem d8_21 : decode prog_221_method_2_code 21 = .ok (.if_acmp .ne 33, 3) := by decide +kernel
theorem d8_24 : decode prog_221_method_2_code 24 = .ok (.new 8, 3) := by decide +kernel
theorem d8_27 : decode prog_221_method_2_code 27 = .ok (.dup, 1) := by decide +kernel
theorem d8_28 : decode prog_221_method_2_code 28 = .ok (.aload_n 0, 1) := by decide +kernel
theorem d8_29 : decode prog_221_method_2_code 29 = .ok (.getfield 7, 3) := by decide +kernel
theorem d8_32 : decode prog_221_method_2_code 32 = .ok (.aload_n 0, 1) := by decide +kernel
theorem d8_33 : decode prog_221_method_2_code 33 = .ok (.getfield 13, 3) := by decide +kernel
theorem d8_36 : decode prog_221_method_2_code 36 = .ok (.aload_n 0, 1) := by decide +kernel
theorem d8_37 : decode prog_221_method_2_code 37 = .ok (.getfield 16, 3) := by decide +kernel
theorem d8_40 : decode prog_221_method_2_code 40 = .ok (.aload_n 0, 1) := by decide +kernel
theorem d8_41 : decode prog_221_method_2_code 41 = .ok (.getfield 19, 3) := by decide +kernel
theorem d8_44 : decode prog_221_method_2_code 44 = .ok (.aload_n 0, 1) := by decide +kernel
theorem d8_45 : decode prog_221_method_2_code 45 = .ok (.getfield 22, 3) := by decide +kernel
theorem d8_48 : decode prog_221_method_2_code 48 = .ok (.iconst 1, 1) := by decide +kernel
theorem d8_49 : decode prog_221_method_2_code 49 = .ok (.iadd, 1) := by decide +kernel
theorem d8_50 : decode prog_221_method_2_code 50 = .ok (.invokespecial 38, 3) := by decide +kernel
theorem d8_53 : decode prog_221_method_2_code 53 = .ok (.areturn, 1) := by decide +kernel
theorem d8_54 : decode prog_221_method_2_code 54 = .ok (.aload_n 2, 1) := by decide +kernel
theorem d8_55 : decode prog_221_method_2_code 55 = .ok (.aload_n 1, 1) := by decide +kernel
theorem d8_56 : decode prog_221_method_2_code 56 = .ok (.if_acmp .ne 7, 3) := by decide +kernel
theorem d8_59 : decode prog_221_method_2_code 59 = .ok (.iconst 1, 1) := by decide +kernel
theorem d8_60 : decode prog_221_method_2_code 60 = .ok (.goto 4, 3) := by decide +kernel
theorem d8_63 : decode prog_221_method_2_code 63 = .ok (.iconst 0, 1) := by decide +kernel
theorem d8_64 : decode prog_221_method_2_code 64 = .ok (.istore_n 3, 1) := by decide +kernel
theorem d8_65 : decode prog_221_method_2_code 65 = .ok (.aload_n 2, 1) := by decide +kernel
theorem d8_66 : decode prog_221_method_2_code 66 = .ok (.getstatic 41, 3) := by decide +kernel
theorem d8_69 : decode prog_221_method_2_code 69 = .ok (.if_acmp .ne 69, 3) := by decide +kernel
theorem d8_72 : decode prog_221_method_2_code 72 = .ok (.iload_n 3, 1) := by decide +kernel
theorem d8_73 : decode prog_221_method_2_code 73 = .ok (.ifCond .eq 35, 3) := by decide +kernel
theorem d8_76 : decode prog_221_method_2_code 76 = .ok (.new 8, 3) := by decide +kernel
theorem d8_79 : decode prog_221_method_2_code 79 = .ok (.dup, 1) := by decide +kernel
theorem d8_80 : decode prog_221_method_2_code 80 = .ok (.aload_n 0, 1) := by decide +kernel
theorem d8_81 : decode prog_221_method_2_code 81 = .ok (.getfield 7, 3) := by decide +kernel
theorem d8_84 : decode prog_221_method_2_code 84 = .ok (.iconst 1, 1) := by decide +kernel
theorem d8_85 : decode prog_221_method_2_code 85 = .ok (.iadd, 1) := by decide +kernel
theorem d8_86 : decode prog_221_method_2_code 86 = .ok (.aload_n 0, 1) := by decide +kernel
theorem d8_87 : decode prog_221_method_2_code 87 = .ok (.getfield 13, 3) := by decide +kernel
theorem d8_90 : decode prog_221_method_2_code 90 = .ok (.aload_n 0, 1) := by decide +kernel
theorem d8_91 : decode prog_221_method_2_code 91 = .ok (.getfield 16, 3) := by decide +kernel
theorem d8_94 : decode prog_221_method_2_code 94 = .ok (.aload_n 0, 1) := by decide +kernel
theorem d8_95 : decode prog_221_method_2_code 95 = .ok (.getfield 19, 3) := by decide +kernel
theorem d8_98 : decode prog_221_method_2_code 98 = .ok (.aload_n 0, 1) := by decide +kernel
theorem d8_99 : decode prog_221_method_2_code 99 = .ok (.getfield 22, 3) := by decide +kernel
theorem d8_102 : decode prog_221_method_2_code 102 = .ok (.invokespecial 38, 3) := by decide +kernel
theorem d8_105 : decode prog_221_method_2_code 105 = .ok (.goto 32, 3) := by decide +kernel
theorem d8_108 : decode prog_221_method_2_code 108 = .ok (.new 8, 3) := by decide +kernel
theorem d8_111 : decode prog_221_method_2_code 111 = .ok (.dup, 1) := by decide +kernel
theorem d8_112 : decode prog_221_method_2_code 112 = .ok (.aload_n 0, 1) := by decide +kernel
theorem d8_113 : decode prog_221_method_2_code 113 = .ok (.getfield 7, 3) := by decide +kernel
theorem d8_116 : decode prog_221_method_2_code 116 = .ok (.aload_n 0, 1) := by decide +kernel
theorem d8_117 : decode prog_221_method_2_code 117 = .ok (.getfield 13, 3) := by decide +kernel
theorem d8_120 : decode prog_221_method_2_code 120 = .ok (.aload_n 0, 1) := by decide +kernel
theorem d8_121 : decode prog_221_method_2_code 121 = .ok (.getfield 16, 3) := by decide +kernel
theorem d8_124 : decode prog_221_method_2_code 124 = .ok (.iconst 1, 1) := by decide +kernel
theorem d8_125 : decode prog_221_method_2_code 125 = .ok (.iadd, 1) := by decide +kernel
theorem d8_126 : decode prog_221_method_2_code 126 = .ok (.aload_n 0, 1) := by decide +kernel
theorem d8_127 : decode prog_221_method_2_code 127 = .ok (.getfield 19, 3) := by decide +kernel
theorem d8_130 : decode prog_221_method_2_code 130 = .ok (.aload_n 0, 1) := by decide +kernel
theorem d8_131 : decode prog_221_method_2_code 131 = .ok (.getfield 22, 3) := by decide +kernel
theorem d8_134 : decode prog_221_method_2_code 134 = .ok (.invokespecial 38, 3) := by decide +kernel
theorem d8_137 : decode prog_221_method_2_code 137 = .ok (.areturn, 1) := by decide +kernel
theorem d8_138 : decode prog_221_method_2_code 138 = .ok (.iload_n 3, 1) := by decide +kernel
theorem d8_139 : decode prog_221_method_2_code 139 = .ok (.ifCond .eq 35, 3) := by decide +kernel
theorem d8_142 : decode prog_221_method_2_code 142 = .ok (.new 8, 3) := by decide +kernel
theorem d8_145 : decode prog_221_method_2_code 145 = .ok (.dup, 1) := by decide +kernel
theorem d8_146 : decode prog_221_method_2_code 146 = .ok (.aload_n 0, 1) := by decide +kernel
theorem d8_147 : decode prog_221_method_2_code 147 = .ok (.getfield 7, 3) := by decide +kernel
theorem d8_150 : decode prog_221_method_2_code 150 = .ok (.aload_n 0, 1) := by decide +kernel
theorem d8_151 : decode prog_221_method_2_code 151 = .ok (.getfield 13, 3) := by decide +kernel
theorem d8_154 : decode prog_221_method_2_code 154 = .ok (.iconst 1, 1) := by decide +kernel
theorem d8_155 : decode prog_221_method_2_code 155 = .ok (.iadd, 1) := by decide +kernel
theorem d8_156 : decode prog_221_method_2_code 156 = .ok (.aload_n 0, 1) := by decide +kernel
theorem d8_157 : decode prog_221_method_2_code 157 = .ok (.getfield 16, 3) := by decide +kernel
theorem d8_160 : decode prog_221_method_2_code 160 = .ok (.aload_n 0, 1) := by decide +kernel
theorem d8_161 : decode prog_221_method_2_code 161 = .ok (.getfield 19, 3) := by decide +kernel
theorem d8_164 : decode prog_221_method_2_code 164 = .ok (.aload_n 0, 1) := by decide +kernel
theorem d8_165 : decode prog_221_method_2_code 165 = .ok (.getfield 22, 3) := by decide +kernel
theorem d8_168 : decode prog_221_method_2_code 168 = .ok (.invokespecial 38, 3) := by decide +kernel
theorem d8_171 : decode prog_221_method_2_code 171 = .ok (.goto 32, 3) := by decide +kernel
theorem d8_174 : decode prog_221_method_2_code 174 = .ok (.new 8, 3) := by decide +kernel
theorem d8_177 : decode prog_221_method_2_code 177 = .ok (.dup, 1) := by decide +kernel
theorem d8_178 : decode prog_221_method_2_code 178 = .ok (.aload_n 0, 1) := by decide +kernel
theorem d8_179 : decode prog_221_method_2_code 179 = .ok (.getfield 7, 3) := by decide +kernel
theorem d8_182 : decode prog_221_method_2_code 182 = .ok (.aload_n 0, 1) := by decide +kernel
theorem d8_183 : decode prog_221_method_2_code 183 = .ok (.getfield 13, 3) := by decide +kernel
theorem d8_186 : decode prog_221_method_2_code 186 = .ok (.aload_n 0, 1) := by decide +kernel
theorem d8_187 : decode prog_221_method_2_code 187 = .ok (.getfield 16, 3) := by decide +kernel
theorem d8_190 : decode prog_221_method_2_code 190 = .ok (.aload_n 0, 1) := by decide +kernel
theorem d8_191 : decode prog_221_method_2_code 191 = .ok (.getfield 19, 3) := by decide +kernel
theorem d8_194 : decode prog_221_method_2_code 194 = .ok (.iconst 1, 1) := by decide +kernel
theorem d8_195 : decode prog_221_method_2_code 195 = .ok (.iadd, 1) := by decide +kernel
theorem d8_196 : decode prog_221_method_2_code 196 = .ok (.aload_n 0, 1) := by decide +kernel
theorem d8_197 : decode prog_221_method_2_code 197 = .ok (.getfield 22, 3) := by decide +kernel
theorem d8_200 : decode prog_221_method_2_code 200 = .ok (.invokespecial 38, 3) := by decide +kernel
theorem d8_203 : decode prog_221_method_2_code 203 = .ok (.areturn, 1) := by decide +kernel
theorem pf_8 : plainFor (⟨"com/example/proofhound/proofhound/suite/Score", "plus", "(Lcom/example/proofhound/proofhound/verdict/Verdict;Lcom/example/proofhound/proofhound/verdict/Verdict;)Lcom/example/proofhound/proofhound/suite/Score;"⟩ : MethodName) = true := by first | exact plainFor_of_name (by first | (simp [plainName, overriddenIn]; done) | decide +kernel) | decide +kernel
theorem pd_8 : parseMethodDescriptor "(Lcom/example/proofhound/proofhound/verdict/Verdict;Lcom/example/proofhound/proofhound/verdict/Verdict;)Lcom/example/proofhound/proofhound/suite/Score;" = some ⟨[(.object "com/example/proofhound/proofhound/verdict/Verdict"), (.object "com/example/proofhound/proofhound/verdict/Verdict")], some (.object "com/example/proofhound/proofhound/suite/Score")⟩ := by decide +kernel
theorem ef_8 (m : MethodId) (p0 : Addr) (p1 : Addr) (p2 : Addr) : entryFrame m #[(.ref p0), (.ref p1), (.ref p2)] 4 = mkF m 0 #[.val (.ref p0), .val (.ref p1), .val (.ref p2), .unset] [] := by first | (simp [entryFrame, mkF, argsToLocals, Value.category]; done) | rfl
def Q8 (Z : State) (p1 : Addr) (p2 : Addr) (vT : Addr) (vU : Addr) (xa : Int32) (xb : Int32) (xc : Int32) (xd : Int32) (h0 : Heap) (n0 : Nat) (v : Option Value) (h : Heap) (L : List Loc) : Prop := ∃ (r : Addr) (a' b' c' d' : Int32), v = some (.ref r) ∧ Fr n0 L ∧ Keep h0 h [] ∧ h0.size ≤ r ∧ Exa Z h r "com/example/proofhound/proofhound/suite/Score" ∧ Fld Z h r "com/example/proofhound/proofhound/suite/Score" "correctTrue" "I" (.int a') ∧ Fld Z h r "com/example/proofhound/proofhound/suite/Score" "correctFalse" "I" (.int b') ∧ Fld Z h r "com/example/proofhound/proofhound/suite/Score" "wrongTrue" "I" (.int c') ∧ Fld Z h r "com/example/proofhound/proofhound/suite/Score" "wrongFalse" "I" (.int d') ∧ own_Step p1 p2 vT vU xa xb xc xd a' b' c' d'
set_option maxRecDepth 65536 in
set_option maxHeartbeats 40000000 in
theorem rm8 (l : Launch) (Z : State) (a0 : Array Value) (hw : ∀ d ∈ tables_1, d.before a0 Z = true) (ws : List Jvm.Cond) (p0 : Addr) (p1 : Addr) (p2 : Addr) (h0 : Heap) (n0 : Nat) (Z0 : n0 ≤ h0.size) (vT vU : Addr) (STRUE : Sta Z h0 "com/example/proofhound/proofhound/verdict/Verdict" "TRUE" "Lcom/example/proofhound/proofhound/verdict/Verdict;" (.ref vT)) (SUNKNOWN : Sta Z h0 "com/example/proofhound/proofhound/verdict/Verdict" "UNKNOWN" "Lcom/example/proofhound/proofhound/verdict/Verdict;" (.ref vU)) (hne : ¬ p1 = vU) (xa xb xc xd xu : Int32) (Ex0 : Exa Z h0 p0 "com/example/proofhound/proofhound/suite/Score") (FacorrectTrue : Fld Z h0 p0 "com/example/proofhound/proofhound/suite/Score" "correctTrue" "I" (.int xa)) (FacorrectFalse : Fld Z h0 p0 "com/example/proofhound/proofhound/suite/Score" "correctFalse" "I" (.int xb)) (FawrongTrue : Fld Z h0 p0 "com/example/proofhound/proofhound/suite/Score" "wrongTrue" "I" (.int xc)) (FawrongFalse : Fld Z h0 p0 "com/example/proofhound/proofhound/suite/Score" "wrongFalse" "I" (.int xd)) (Faunknown : Fld Z h0 p0 "com/example/proofhound/proofhound/suite/Score" "unknown" "I" (.int xu)) (ge0 : n0 ≤ p0) :
    own_Met l Z (⟨"com/example/proofhound/proofhound/suite/Score", "plus", "(Lcom/example/proofhound/proofhound/verdict/Verdict;Lcom/example/proofhound/proofhound/verdict/Verdict;)Lcom/example/proofhound/proofhound/suite/Score;"⟩ : MethodName) prog_221_method_2_code 4 (some (.object "com/example/proofhound/proofhound/suite/Score")) ws ({ frames := 3, cells := 1, slots := 5, locals := 42 } : Room) #[(.ref p0), (.ref p1), (.ref p2)] h0 (Q8 Z p1 p2 vT vU xa xb xc xd h0 n0) := by
  refine MetFree.of_bodySF pf_8 hisR ?_
  intro p e s m args below meth c s₁ Bd hml0 hP hK
  obtain ⟨rfl, hZ, hh⟩ := hP
  have hx := Bd.exec
  have hby := Bd.bytes
  have hlk : meth.locks = false := BodyLoose.notSynchronized Bd
  have hml : c.maxLocals = 4 := hml0
  have hown : s.vm.findClass "com/example/proofhound/proofhound/suite/Score" = some m.cls := findClass_of_methodNamed Bd.named
  have hnm := (name_of_methodNamed Bd.named Bd.method).1
  have X0 : Stand p l e ({ frames := 3, cells := 1, slots := 5, locals := 42 } : Room) s m #[(.ref p0), (.ref p1), (.ref p2)] below meth c s₁ [] 0 0 := Stand.of_body Bd
  have e0 : s₁.heap = h0 := by rw [← hh, Bd.state]; rfl
  have N0 := Fr.nil n0
  have K0 := Keep.refl h0 []
  show own_Go p.tables e below s (Q8 Z p1 p2 vT vU xa xb xc xd h0 n0) ({ frames := 3, cells := 1, slots := 5, locals := 42 } : Room).cells ({ frames := 3, cells := 1, slots := 5, locals := 42 } : Room).slots _
  refine own_by (fun _ k => castTop (ef_8 m p0 p1 p2) k) ?_
  show own_Go p.tables e below s _ _ _ (s₁.setTop (mkF m 0 #[.val (.ref p0), .val (.ref p1), .val (.ref p2), .unset] []))
  refine own_by (fun _ k => XS.aloadN X0.here hx rfl (hb hby d8_0) rfl rfl k) ?_
  show own_Go p.tables e below s _ _ _ (s₁.setTop (mkF m 1 #[.val (.ref p0), .val (.ref p1), .val (.ref p2), .unset] [(.ref p1)]))
  obtain ⟨T1, X1, e1, st1⟩ := getS2 X0 hx hZ hown (host := "") (Or.inl (hw _ (List.mem_of_getElem? (i := 52) rfl))) Via.refl e0 SUNKNOWN (g := (mkF m 1 #[.val (.ref p0), .val (.ref p1), .val (.ref p2), .unset] [(.ref p1)])) rfl (hb hby d8_1)
  refine own_by st1 ?_
  show own_Go p.tables e below s _ _ _ (T1.setTop (mkF m 4 #[.val (.ref p0), .val (.ref p1), .val (.ref p2), .unset] [(.ref vU), (.ref p1)]))
  refine own_by (fun _ k => Jvm.RoadKit.acmp (g := (mkF m 4 #[.val (.ref p0), .val (.ref p1), .val (.ref p2), .unset] [(.ref vU), (.ref p1)])) X1 hx rfl rfl rfl (pc0 := 4) (pc' := 17) (same := false) rfl (hb hby d8_4) rfl (decide_eq_false fun q => hne (Value.ref.inj q)) (by decide) (by decide) k) ?_
  show own_Go p.tables e below s _ _ _ (T1.setTop (mkF m 17 #[.val (.ref p0), .val (.ref p1), .val (.ref p2), .unset] []))
  refine own_by (fun _ k => XS.aloadN X1.here hx rfl (hb hby d8_17) rfl rfl k) ?_
  show own_Go p.tables e below s _ _ _ (T1.setTop (mkF m 18 #[.val (.ref p0), .val (.ref p1), .val (.ref p2), .unset] [(.ref p2)]))
  obtain ⟨T2, X2, e2, st2⟩ := getS2 X1 hx hZ hown (host := "") (Or.inl (hw _ (List.mem_of_getElem? (i := 52) rfl))) Via.refl e1 SUNKNOWN (g := (mkF m 18 #[.val (.ref p0), .val (.ref p1), .val (.ref p2), .unset] [(.ref p2)])) rfl (hb hby d8_18)
  refine own_by st2 ?_
  show own_Go p.tables e below s _ _ _ (T2.setTop (mkF m 21 #[.val (.ref p0), .val (.ref p1), .val (.ref p2), .unset] [(.ref vU), (.ref p2)]))
  by_cases ha21_3 : p2 = vU
  · refine own_by (fun _ k => Jvm.RoadKit.acmp (g := (mkF m 21 #[.val (.ref p0), .val (.ref p1), .val (.ref p2), .unset] [(.ref vU), (.ref p2)])) X2 hx rfl rfl rfl (pc0 := 21) (pc' := 24) (same := true) rfl (hb hby d8_21) rfl (decide_eq_true (congrArg Value.ref ha21_3)) (by decide) (by decide) k) ?_
    show own_Go p.tables e below s _ _ _ (T2.setTop (mkF m 24 #[.val (.ref p0), .val (.ref p1), .val (.ref p2), .unset] []))
    obtain ⟨T4, h4, X4, e4, E4, A4, D4, -, st4⟩ := newO X2 hx hZ hown (hw _ (List.mem_of_getElem? (i := 56) rfl)) (hw _ (List.mem_of_getElem? (i := 1) rfl)) (hw _ (List.mem_of_getElem? (i := 2) rfl)) e2 (g := (mkF m 24 #[.val (.ref p0), .val (.ref p1), .val (.ref p2), .unset] [])) rfl (hb hby d8_24) (by decide) (by decide)
    obtain ⟨b4, g4⟩ : ∃ z, z = h0.size := ⟨_, rfl⟩
    rw [← g4] at A4 D4 st4
    have ge_b4 : n0 ≤ b4 := Nat.le_trans Z0 (Nat.le_of_eq g4.symm)
    have sz_b4 : h0.size ≤ b4 := Nat.le_trans K0.1 (Nat.le_of_eq g4.symm)
    have ne_p0_b4 : p0 ≠ b4 := by rw [g4]; exact Nat.ne_of_lt Ex0.lt
    have Z4 : n0 ≤ h4.size := Nat.le_trans Z0 E4.1
    have K4 := K0.ext E4
    have Ex0_h4 := Ex0.ext E4
    have FacorrectTrue_h4 := FacorrectTrue.ext E4
    have FacorrectFalse_h4 := FacorrectFalse.ext E4
    have FawrongTrue_h4 := FawrongTrue.ext E4
    have FawrongFalse_h4 := FawrongFalse.ext E4
    have Faunknown_h4 := Faunknown.ext E4
    have F4_correctTrue : Fld Z h4 b4 "com/example/proofhound/proofhound/suite/Score" "correctTrue" "I" (.int (0 : Int32)) := D4 (Or.inr (hw _ (List.mem_of_getElem? (i := 15) rfl))) (ty := .int) (by decide)
    have F4_correctFalse : Fld Z h4 b4 "com/example/proofhound/proofhound/suite/Score" "correctFalse" "I" (.int (0 : Int32)) := D4 (Or.inr (hw _ (List.mem_of_getElem? (i := 17) rfl))) (ty := .int) (by decide)
    have F4_wrongTrue : Fld Z h4 b4 "com/example/proofhound/proofhound/suite/Score" "wrongTrue" "I" (.int (0 : Int32)) := D4 (Or.inr (hw _ (List.mem_of_getElem? (i := 19) rfl))) (ty := .int) (by decide)
    have F4_wrongFalse : Fld Z h4 b4 "com/example/proofhound/proofhound/suite/Score" "wrongFalse" "I" (.int (0 : Int32)) := D4 (Or.inr (hw _ (List.mem_of_getElem? (i := 21) rfl))) (ty := .int) (by decide)
    have F4_unknown : Fld Z h4 b4 "com/example/proofhound/proofhound/suite/Score" "unknown" "I" (.int (0 : Int32)) := D4 (Or.inr (hw _ (List.mem_of_getElem? (i := 23) rfl))) (ty := .int) (by decide)
    refine own_by st4 ?_
    show own_Go p.tables e below s _ _ _ (T4.setTop (mkF m 27 #[.val (.ref p0), .val (.ref p1), .val (.ref p2), .unset] [(.ref b4)]))
    refine own_by (fun _ k => XS.dup X4.here hx rfl (hb hby d8_27) rfl rfl k) ?_
    show own_Go p.tables e below s _ _ _ (T4.setTop (mkF m 28 #[.val (.ref p0), .val (.ref p1), .val (.ref p2), .unset] [(.ref b4), (.ref b4)]))
    refine own_by (fun _ k => XS.aloadN X4.here hx rfl (hb hby d8_28) rfl rfl k) ?_
    show own_Go p.tables e below s _ _ _ (T4.setTop (mkF m 29 #[.val (.ref p0), .val (.ref p1), .val (.ref p2), .unset] [(.ref p0), (.ref b4), (.ref b4)]))
    obtain ⟨T5, X5, e5, st5⟩ := getF X4 hx hZ hown (host := "") (Or.inl (hw _ (List.mem_of_getElem? (i := 14) rfl))) Via.refl e4 FacorrectTrue_h4 (g := (mkF m 29 #[.val (.ref p0), .val (.ref p1), .val (.ref p2), .unset] [(.ref p0), (.ref b4), (.ref b4)])) rfl rfl (hb hby d8_29)
    refine own_by st5 ?_
    show own_Go p.tables e below s _ _ _ (T5.setTop (mkF m 32 #[.val (.ref p0), .val (.ref p1), .val (.ref p2), .unset] [(.int xa), (.ref b4), (.ref b4)]))
    refine own_by (fun _ k => XS.aloadN X5.here hx rfl (hb hby d8_32) rfl rfl k) ?_
    show own_Go p.tables e below s _ _ _ (T5.setTop (mkF m 33 #[.val (.ref p0), .val (.ref p1), .val (.ref p2), .unset] [(.ref p0), (.int xa), (.ref b4), (.ref b4)]))
    obtain ⟨T6, X6, e6, st6⟩ := getF X5 hx hZ hown (host := "") (Or.inl (hw _ (List.mem_of_getElem? (i := 16) rfl))) Via.refl e5 FacorrectFalse_h4 (g := (mkF m 33 #[.val (.ref p0), .val (.ref p1), .val (.ref p2), .unset] [(.ref p0), (.int xa), (.ref b4), (.ref b4)])) rfl rfl (hb hby d8_33)
    refine own_by st6 ?_
    show own_Go p.tables e below s _ _ _ (T6.setTop (mkF m 36 #[.val (.ref p0), .val (.ref p1), .val (.ref p2), .unset] [(.int xb), (.int xa), (.ref b4), (.ref b4)]))
    refine own_by (fun _ k => XS.aloadN X6.here hx rfl (hb hby d8_36) rfl rfl k) ?_
    show own_Go p.tables e below s _ _ _ (T6.setTop (mkF m 37 #[.val (.ref p0), .val (.ref p1), .val (.ref p2), .unset] [(.ref p0), (.int xb), (.int xa), (.ref b4), (.ref b4)]))
    obtain ⟨T7, X7, e7, st7⟩ := getF X6 hx hZ hown (host := "") (Or.inl (hw _ (List.mem_of_getElem? (i := 18) rfl))) Via.refl e6 FawrongTrue_h4 (g := (mkF m 37 #[.val (.ref p0), .val (.ref p1), .val (.ref p2), .unset] [(.ref p0), (.int xb), (.int xa), (.ref b4), (.ref b4)])) rfl rfl (hb hby d8_37)
    refine own_by st7 ?_
    show own_Go p.tables e below s _ _ _ (T7.setTop (mkF m 40 #[.val (.ref p0), .val (.ref p1), .val (.ref p2), .unset] [(.int xc), (.int xb), (.int xa), (.ref b4), (.ref b4)]))
    refine own_by (fun _ k => XS.aloadN X7.here hx rfl (hb hby d8_40) rfl rfl k) ?_
    show own_Go p.tables e below s _ _ _ (T7.setTop (mkF m 41 #[.val (.ref p0), .val (.ref p1), .val (.ref p2), .unset] [(.ref p0), (.int xc), (.int xb), (.int xa), (.ref b4), (.ref b4)]))
    obtain ⟨T8, X8, e8, st8⟩ := getF X7 hx hZ hown (host := "") (Or.inl (hw _ (List.mem_of_getElem? (i := 20) rfl))) Via.refl e7 FawrongFalse_h4 (g := (mkF m 41 #[.val (.ref p0), .val (.ref p1), .val (.ref p2), .unset] [(.ref p0), (.int xc), (.int xb), (.int xa), (.ref b4), (.ref b4)])) rfl rfl (hb hby d8_41)
    refine own_by st8 ?_
    show own_Go p.tables e below s _ _ _ (T8.setTop (mkF m 44 #[.val (.ref p0), .val (.ref p1), .val (.ref p2), .unset] [(.int xd), (.int xc), (.int xb), (.int xa), (.ref b4), (.ref b4)]))
    refine own_by (fun _ k => XS.aloadN X8.here hx rfl (hb hby d8_44) rfl rfl k) ?_
    show own_Go p.tables e below s _ _ _ (T8.setTop (mkF m 45 #[.val (.ref p0), .val (.ref p1), .val (.ref p2), .unset] [(.ref p0), (.int xd), (.int xc), (.int xb), (.int xa), (.ref b4), (.ref b4)]))
    obtain ⟨T9, X9, e9, st9⟩ := getF X8 hx hZ hown (host := "") (Or.inl (hw _ (List.mem_of_getElem? (i := 22) rfl))) Via.refl e8 Faunknown_h4 (g := (mkF m 45 #[.val (.ref p0), .val (.ref p1), .val (.ref p2), .unset] [(.ref p0), (.int xd), (.int xc), (.int xb), (.int xa), (.ref b4), (.ref b4)])) rfl rfl (hb hby d8_45)
    refine own_by st9 ?_
    show own_Go p.tables e below s _ _ _ (T9.setTop (mkF m 48 #[.val (.ref p0), .val (.ref p1), .val (.ref p2), .unset] [(.int xu), (.int xd), (.int xc), (.int xb), (.int xa), (.ref b4), (.ref b4)]))
    refine own_by (fun _ k => XS.iconst X9.here hx rfl (hb hby d8_48) k) ?_
    show own_Go p.tables e below s _ _ _ (T9.setTop (mkF m 49 #[.val (.ref p0), .val (.ref p1), .val (.ref p2), .unset] [(.int (1 : Int32)), (.int xu), (.int xd), (.int xc), (.int xb), (.int xa), (.ref b4), (.ref b4)]))
    refine own_by (fun _ k => XS.iadd X9.here hx rfl (hb hby d8_49) rfl k) ?_
    show own_Go p.tables e below s _ _ _ (T9.setTop (mkF m 50 #[.val (.ref p0), .val (.ref p1), .val (.ref p2), .unset] [(.int (xu + (1 : Int32))), (.int xd), (.int xc), (.int xb), (.int xa), (.ref b4), (.ref b4)]))
    obtain ⟨v10, T10, L10, X10, q10, st10⟩ := own_callI X9 hx hZ rfl hown (hw _ (List.mem_of_getElem? (i := 57) rfl)) (hw _ (List.mem_of_getElem? (i := 4) rfl)) (hw _ (List.mem_of_getElem? (i := 2) rfl)) (hw _ (List.mem_of_getElem? (i := 5) rfl)) (by decide) (rm1 l Z a0 hw [] b4 xa xb xc xd (xu + (1 : Int32)) h4 n0 Z4 A4 F4_correctTrue F4_correctFalse F4_wrongTrue F4_wrongFalse F4_unknown ge_b4) (W := 1) (by decide) (by decide) e9 (g := (mkF m 50 #[.val (.ref p0), .val (.ref p1), .val (.ref p2), .unset] [(.int (xu + (1 : Int32))), (.int xd), (.int xc), (.int xb), (.int xa), (.ref b4), (.ref b4)])) rfl (by rw [hml]; rfl) (a := b4) (argsL := [(.int xa), (.int xb), (.int xc), (.int xd), (.int (xu + (1 : Int32)))]) (rest := [(.ref b4)]) (lenOf pd_1 rfl) rfl rfl (by show 2 * 0 + _ ≤ _; exact Nat.le_of_eq rfl) (hb hby d8_50) (by decide) (by decide)
    obtain ⟨rfl, Nq10, Kq10, Fx10, Fy10, Fz10, Fw10, Fu10⟩ := q10
    have N10 := Fr.app N0 Nq10
    have Z10 : n0 ≤ T10.heap.size := Nat.le_trans Z4 Kq10.1
    have K10 := K4.trans Kq10 (allS (Or.inr sz_b4) all0)
    have Ex0_h10 := Ex0_h4.keep Kq10
    have FacorrectTrue_h10 := FacorrectTrue_h4.keep Kq10 (ninS ne_p0_b4 nin0)
    have FacorrectFalse_h10 := FacorrectFalse_h4.keep Kq10 (ninS ne_p0_b4 nin0)
    have FawrongTrue_h10 := FawrongTrue_h4.keep Kq10 (ninS ne_p0_b4 nin0)
    have FawrongFalse_h10 := FawrongFalse_h4.keep Kq10 (ninS ne_p0_b4 nin0)
    have Faunknown_h10 := Faunknown_h4.keep Kq10 (ninS ne_p0_b4 nin0)
    have A4_h10 := A4.keep Kq10
    refine own_by st10 ?_
    show own_Go p.tables e below s _ _ _ (T10.setTop (mkF m 53 #[.val (.ref p0), .val (.ref p1), .val (.ref p2), .unset] [(.ref b4)]))
    exact own_retA X10 hx hlk Bd.returns rfl (hb hby d8_53) (by decide) (by decide) ⟨_, _, _, _, _, rfl, N10, K10, sz_b4, A4_h10, Fx10, Fy10, Fz10, Fw10, Or.inl ⟨ha21_3, rfl, rfl, rfl, rfl⟩⟩
  · refine own_by (fun _ k => Jvm.RoadKit.acmp (g := (mkF m 21 #[.val (.ref p0), .val (.ref p1), .val (.ref p2), .unset] [(.ref vU), (.ref p2)])) X2 hx rfl rfl rfl (pc0 := 21) (pc' := 54) (same := false) rfl (hb hby d8_21) rfl (decide_eq_false fun q => ha21_3 (Value.ref.inj q)) (by decide) (by decide) k) ?_
    show own_Go p.tables e below s _ _ _ (T2.setTop (mkF m 54 #[.val (.ref p0), .val (.ref p1), .val (.ref p2), .unset] []))
    refine own_by (fun _ k => XS.aloadN X2.here hx rfl (hb hby d8_54) rfl rfl k) ?_
    show own_Go p.tables e below s _ _ _ (T2.setTop (mkF m 55 #[.val (.ref p0), .val (.ref p1), .val (.ref p2), .unset] [(.ref p2)]))
    refine own_by (fun _ k => XS.aloadN X2.here hx rfl (hb hby d8_55) rfl rfl k) ?_
    show own_Go p.tables e below s _ _ _ (T2.setTop (mkF m 56 #[.val (.ref p0), .val (.ref p1), .val (.ref p2), .unset] [(.ref p1), (.ref p2)]))
    by_cases ha56_11 : p2 = p1
    · refine own_by (fun _ k => Jvm.RoadKit.acmp (g := (mkF m 56 #[.val (.ref p0), .val (.ref p1), .val (.ref p2), .unset] [(.ref p1), (.ref p2)])) X2 hx rfl rfl rfl (pc0 := 56) (pc' := 59) (same := true) rfl (hb hby d8_56) rfl (decide_eq_true (congrArg Value.ref ha56_11)) (by decide) (by decide) k) ?_
      show own_Go p.tables e below s _ _ _ (T2.setTop (mkF m 59 #[.val (.ref p0), .val (.ref p1), .val (.ref p2), .unset] []))
      refine own_by (fun _ k => XS.iconst X2.here hx rfl (hb hby d8_59) k) ?_
      show own_Go p.tables e below s _ _ _ (T2.setTop (mkF m 60 #[.val (.ref p0), .val (.ref p1), .val (.ref p2), .unset] [(.int (1 : Int32))]))
      refine own_by (fun _ k => XS.goto X2.here hx rfl (pc0 := 60) (pc' := 64) rfl (hb hby d8_60) (by decide) (by decide) k) ?_
      show own_Go p.tables e below s _ _ _ (T2.setTop (mkF m 64 #[.val (.ref p0), .val (.ref p1), .val (.ref p2), .unset] [(.int (1 : Int32))]))
      refine own_by (fun _ k => XS.istoreN X2.here hx rfl (hb hby d8_64) rfl (l' := #[.val (.ref p0), .val (.ref p1), .val (.ref p2), .val (.int (1 : Int32))]) rfl k) ?_
      show own_Go p.tables e below s _ _ _ (T2.setTop (mkF m 65 #[.val (.ref p0), .val (.ref p1), .val (.ref p2), .val (.int (1 : Int32))] []))
      refine own_by (fun _ k => XS.aloadN X2.here hx rfl (hb hby d8_65) rfl rfl k) ?_
      show own_Go p.tables e below s _ _ _ (T2.setTop (mkF m 66 #[.val (.ref p0), .val (.ref p1), .val (.ref p2), .val (.int (1 : Int32))] [(.ref p2)]))
      obtain ⟨T12, X12, e12, st12⟩ := getS2 X2 hx hZ hown (host := "") (Or.inl (hw _ (List.mem_of_getElem? (i := 54) rfl))) Via.refl e2 STRUE (g := (mkF m 66 #[.val (.ref p0), .val (.ref p1), .val (.ref p2), .val (.int (1 : Int32))] [(.ref p2)])) rfl (hb hby d8_66)
      refine own_by st12 ?_
      show own_Go p.tables e below s _ _ _ (T12.setTop (mkF m 69 #[.val (.ref p0), .val (.ref p1), .val (.ref p2), .val (.int (1 : Int32))] [(.ref vT), (.ref p2)]))
      by_cases ha69_13 : p2 = vT
      · refine own_by (fun _ k => Jvm.RoadKit.acmp (g := (mkF m 69 #[.val (.ref p0), .val (.ref p1), .val (.ref p2), .val (.int (1 : Int32))] [(.ref vT), (.ref p2)])) X12 hx rfl rfl rfl (pc0 := 69) (pc' := 72) (same := true) rfl (hb hby d8_69) rfl (decide_eq_true (congrArg Value.ref ha69_13)) (by decide) (by decide) k) ?_
        show own_Go p.tables e below s _ _ _ (T12.setTop (mkF m 72 #[.val (.ref p0), .val (.ref p1), .val (.ref p2), .val (.int (1 : Int32))] []))
        refine own_by (fun _ k => XS.iloadN X12.here hx rfl (hb hby d8_72) rfl k) ?_
        show own_Go p.tables e below s _ _ _ (T12.setTop (mkF m 73 #[.val (.ref p0), .val (.ref p1), .val (.ref p2), .val (.int (1 : Int32))] [(.int (1 : Int32))]))
        refine own_by (fun _ k => XS.ifNo X12.here hx rfl (hb hby d8_73) rfl ((if0 _ _).trans (feq (by decide : ¬ ((1 : Int32) = (0 : Int32)))).1) k) ?_
        show own_Go p.tables e below s _ _ _ (T12.setTop (mkF m 76 #[.val (.ref p0), .val (.ref p1), .val (.ref p2), .val (.int (1 : Int32))] []))
        obtain ⟨T14, h14, X14, e14, E14, A14, D14, -, st14⟩ := newO X12 hx hZ hown (hw _ (List.mem_of_getElem? (i := 56) rfl)) (hw _ (List.mem_of_getElem? (i := 1) rfl)) (hw _ (List.mem_of_getElem? (i := 2) rfl)) e12 (g := (mkF m 76 #[.val (.ref p0), .val (.ref p1), .val (.ref p2), .val (.int (1 : Int32))] [])) rfl (hb hby d8_76) (by decide) (by decide)
        obtain ⟨b14, g14⟩ : ∃ z, z = h0.size := ⟨_, rfl⟩
        rw [← g14] at A14 D14 st14
        have ge_b14 : n0 ≤ b14 := Nat.le_trans Z0 (Nat.le_of_eq g14.symm)
        have sz_b14 : h0.size ≤ b14 := Nat.le_trans K0.1 (Nat.le_of_eq g14.symm)
        have ne_p0_b14 : p0 ≠ b14 := by rw [g14]; exact Nat.ne_of_lt Ex0.lt
        have Z14 : n0 ≤ h14.size := Nat.le_trans Z0 E14.1
        have K14 := K0.ext E14
        have Ex0_h14 := Ex0.ext E14
        have FacorrectTrue_h14 := FacorrectTrue.ext E14
        have FacorrectFalse_h14 := FacorrectFalse.ext E14
        have FawrongTrue_h14 := FawrongTrue.ext E14
        have FawrongFalse_h14 := FawrongFalse.ext E14
        have Faunknown_h14 := Faunknown.ext E14
        have F14_correctTrue : Fld Z h14 b14 "com/example/proofhound/proofhound/suite/Score" "correctTrue" "I" (.int (0 : Int32)) := D14 (Or.inr (hw _ (List.mem_of_getElem? (i := 15) rfl))) (ty := .int) (by decide)
        have F14_correctFalse : Fld Z h14 b14 "com/example/proofhound/proofhound/suite/Score" "correctFalse" "I" (.int (0 : Int32)) := D14 (Or.inr (hw _ (List.mem_of_getElem? (i := 17) rfl))) (ty := .int) (by decide)
        have F14_wrongTrue : Fld Z h14 b14 "com/example/proofhound/proofhound/suite/Score" "wrongTrue" "I" (.int (0 : Int32)) := D14 (Or.inr (hw _ (List.mem_of_getElem? (i := 19) rfl))) (ty := .int) (by decide)
        have F14_wrongFalse : Fld Z h14 b14 "com/example/proofhound/proofhound/suite/Score" "wrongFalse" "I" (.int (0 : Int32)) := D14 (Or.inr (hw _ (List.mem_of_getElem? (i := 21) rfl))) (ty := .int) (by decide)
        have F14_unknown : Fld Z h14 b14 "com/example/proofhound/proofhound/suite/Score" "unknown" "I" (.int (0 : Int32)) := D14 (Or.inr (hw _ (List.mem_of_getElem? (i := 23) rfl))) (ty := .int) (by decide)
        refine own_by st14 ?_
        show own_Go p.tables e below s _ _ _ (T14.setTop (mkF m 79 #[.val (.ref p0), .val (.ref p1), .val (.ref p2), .val (.int (1 : Int32))] [(.ref b14)]))
        refine own_by (fun _ k => XS.dup X14.here hx rfl (hb hby d8_79) rfl rfl k) ?_
        show own_Go p.tables e below s _ _ _ (T14.setTop (mkF m 80 #[.val (.ref p0), .val (.ref p1), .val (.ref p2), .val (.int (1 : Int32))] [(.ref b14), (.ref b14)]))
        refine own_by (fun _ k => XS.aloadN X14.here hx rfl (hb hby d8_80) rfl rfl k) ?_
        show own_Go p.tables e below s _ _ _ (T14.setTop (mkF m 81 #[.val (.ref p0), .val (.ref p1), .val (.ref p2), .val (.int (1 : Int32))] [(.ref p0), (.ref b14), (.ref b14)]))
        obtain ⟨T15, X15, e15, st15⟩ := getF X14 hx hZ hown (host := "") (Or.inl (hw _ (List.mem_of_getElem? (i := 14) rfl))) Via.refl e14 FacorrectTrue_h14 (g := (mkF m 81 #[.val (.ref p0), .val (.ref p1), .val (.ref p2), .val (.int (1 : Int32))] [(.ref p0), (.ref b14), (.ref b14)])) rfl rfl (hb hby d8_81)
        refine own_by st15 ?_
        show own_Go p.tables e below s _ _ _ (T15.setTop (mkF m 84 #[.val (.ref p0), .val (.ref p1), .val (.ref p2), .val (.int (1 : Int32))] [(.int xa), (.ref b14), (.ref b14)]))
        refine own_by (fun _ k => XS.iconst X15.here hx rfl (hb hby d8_84) k) ?_
        show own_Go p.tables e below s _ _ _ (T15.setTop (mkF m 85 #[.val (.ref p0), .val (.ref p1), .val (.ref p2), .val (.int (1 : Int32))] [(.int (1 : Int32)), (.int xa), (.ref b14), (.ref b14)]))
        refine own_by (fun _ k => XS.iadd X15.here hx rfl (hb hby d8_85) rfl k) ?_
        show own_Go p.tables e below s _ _ _ (T15.setTop (mkF m 86 #[.val (.ref p0), .val (.ref p1), .val (.ref p2), .val (.int (1 : Int32))] [(.int (xa + (1 : Int32))), (.ref b14), (.ref b14)]))
        refine own_by (fun _ k => XS.aloadN X15.here hx rfl (hb hby d8_86) rfl rfl k) ?_
        show own_Go p.tables e below s _ _ _ (T15.setTop (mkF m 87 #[.val (.ref p0), .val (.ref p1), .val (.ref p2), .val (.int (1 : Int32))] [(.ref p0), (.int (xa + (1 : Int32))), (.ref b14), (.ref b14)]))
        obtain ⟨T16, X16, e16, st16⟩ := getF X15 hx hZ hown (host := "") (Or.inl (hw _ (List.mem_of_getElem? (i := 16) rfl))) Via.refl e15 FacorrectFalse_h14 (g := (mkF m 87 #[.val (.ref p0), .val (.ref p1), .val (.ref p2), .val (.int (1 : Int32))] [(.ref p0), (.int (xa + (1 : Int32))), (.ref b14), (.ref b14)])) rfl rfl (hb hby d8_87)
        refine own_by st16 ?_
        show own_Go p.tables e below s _ _ _ (T16.setTop (mkF m 90 #[.val (.ref p0), .val (.ref p1), .val (.ref p2), .val (.int (1 : Int32))] [(.int xb), (.int (xa + (1 : Int32))), (.ref b14), (.ref b14)]))
        refine own_by (fun _ k => XS.aloadN X16.here hx rfl (hb hby d8_90) rfl rfl k) ?_
        show own_Go p.tables e below s _ _ _ (T16.setTop (mkF m 91 #[.val (.ref p0), .val (.ref p1), .val (.ref p2), .val (.int (1 : Int32))] [(.ref p0), (.int xb), (.int (xa + (1 : Int32))), (.ref b14), (.ref b14)]))
        obtain ⟨T17, X17, e17, st17⟩ := getF X16 hx hZ hown (host := "") (Or.inl (hw _ (List.mem_of_getElem? (i := 18) rfl))) Via.refl e16 FawrongTrue_h14 (g := (mkF m 91 #[.val (.ref p0), .val (.ref p1), .val (.ref p2), .val (.int (1 : Int32))] [(.ref p0), (.int xb), (.int (xa + (1 : Int32))), (.ref b14), (.ref b14)])) rfl rfl (hb hby d8_91)
        refine own_by st17 ?_
        show own_Go p.tables e below s _ _ _ (T17.setTop (mkF m 94 #[.val (.ref p0), .val (.ref p1), .val (.ref p2), .val (.int (1 : Int32))] [(.int xc), (.int xb), (.int (xa + (1 : Int32))), (.ref b14), (.ref b14)]))
        refine own_by (fun _ k => XS.aloadN X17.here hx rfl (hb hby d8_94) rfl rfl k) ?_
        show own_Go p.tables e below s _ _ _ (T17.setTop (mkF m 95 #[.val (.ref p0), .val (.ref p1), .val (.ref p2), .val (.int (1 : Int32))] [(.ref p0), (.int xc), (.int xb), (.int (xa + (1 : Int32))), (.ref b14), (.ref b14)]))
        obtain ⟨T18, X18, e18, st18⟩ := getF X17 hx hZ hown (host := "") (Or.inl (hw _ (List.mem_of_getElem? (i := 20) rfl))) Via.refl e17 FawrongFalse_h14 (g := (mkF m 95 #[.val (.ref p0), .val (.ref p1), .val (.ref p2), .val (.int (1 : Int32))] [(.ref p0), (.int xc), (.int xb), (.int (xa + (1 : Int32))), (.ref b14), (.ref b14)])) rfl rfl (hb hby d8_95)
        refine own_by st18 ?_
        show own_Go p.tables e below s _ _ _ (T18.setTop (mkF m 98 #[.val (.ref p0), .val (.ref p1), .val (.ref p2), .val (.int (1 : Int32))] [(.int xd), (.int xc), (.int xb), (.int (xa + (1 : Int32))), (.ref b14), (.ref b14)]))
        refine own_by (fun _ k => XS.aloadN X18.here hx rfl (hb hby d8_98) rfl rfl k) ?_
        show own_Go p.tables e below s _ _ _ (T18.setTop (mkF m 99 #[.val (.ref p0), .val (.ref p1), .val (.ref p2), .val (.int (1 : Int32))] [(.ref p0), (.int xd), (.int xc), (.int xb), (.int (xa + (1 : Int32))), (.ref b14), (.ref b14)]))
        obtain ⟨T19, X19, e19, st19⟩ := getF X18 hx hZ hown (host := "") (Or.inl (hw _ (List.mem_of_getElem? (i := 22) rfl))) Via.refl e18 Faunknown_h14 (g := (mkF m 99 #[.val (.ref p0), .val (.ref p1), .val (.ref p2), .val (.int (1 : Int32))] [(.ref p0), (.int xd), (.int xc), (.int xb), (.int (xa + (1 : Int32))), (.ref b14), (.ref b14)])) rfl rfl (hb hby d8_99)
        refine own_by st19 ?_
        show own_Go p.tables e below s _ _ _ (T19.setTop (mkF m 102 #[.val (.ref p0), .val (.ref p1), .val (.ref p2), .val (.int (1 : Int32))] [(.int xu), (.int xd), (.int xc), (.int xb), (.int (xa + (1 : Int32))), (.ref b14), (.ref b14)]))
        obtain ⟨v20, T20, L20, X20, q20, st20⟩ := own_callI X19 hx hZ rfl hown (hw _ (List.mem_of_getElem? (i := 57) rfl)) (hw _ (List.mem_of_getElem? (i := 4) rfl)) (hw _ (List.mem_of_getElem? (i := 2) rfl)) (hw _ (List.mem_of_getElem? (i := 5) rfl)) (by decide) (rm1 l Z a0 hw [] b14 (xa + (1 : Int32)) xb xc xd xu h14 n0 Z14 A14 F14_correctTrue F14_correctFalse F14_wrongTrue F14_wrongFalse F14_unknown ge_b14) (W := 1) (by decide) (by decide) e19 (g := (mkF m 102 #[.val (.ref p0), .val (.ref p1), .val (.ref p2), .val (.int (1 : Int32))] [(.int xu), (.int xd), (.int xc), (.int xb), (.int (xa + (1 : Int32))), (.ref b14), (.ref b14)])) rfl (by rw [hml]; rfl) (a := b14) (argsL := [(.int (xa + (1 : Int32))), (.int xb), (.int xc), (.int xd), (.int xu)]) (rest := [(.ref b14)]) (lenOf pd_1 rfl) rfl rfl (by show 2 * 0 + _ ≤ _; exact Nat.le_of_eq rfl) (hb hby d8_102) (by decide) (by decide)
        obtain ⟨rfl, Nq20, Kq20, Fx20, Fy20, Fz20, Fw20, Fu20⟩ := q20
        have N20 := Fr.app N0 Nq20
        have Z20 : n0 ≤ T20.heap.size := Nat.le_trans Z14 Kq20.1
        have K20 := K14.trans Kq20 (allS (Or.inr sz_b14) all0)
        have Ex0_h20 := Ex0_h14.keep Kq20
        have FacorrectTrue_h20 := FacorrectTrue_h14.keep Kq20 (ninS ne_p0_b14 nin0)
        have FacorrectFalse_h20 := FacorrectFalse_h14.keep Kq20 (ninS ne_p0_b14 nin0)
        have FawrongTrue_h20 := FawrongTrue_h14.keep Kq20 (ninS ne_p0_b14 nin0)
        have FawrongFalse_h20 := FawrongFalse_h14.keep Kq20 (ninS ne_p0_b14 nin0)
        have Faunknown_h20 := Faunknown_h14.keep Kq20 (ninS ne_p0_b14 nin0)
        have A14_h20 := A14.keep Kq20
        refine own_by st20 ?_
        show own_Go p.tables e below s _ _ _ (T20.setTop (mkF m 105 #[.val (.ref p0), .val (.ref p1), .val (.ref p2), .val (.int (1 : Int32))] [(.ref b14)]))
        refine own_by (fun _ k => XS.goto X20.here hx rfl (pc0 := 105) (pc' := 137) rfl (hb hby d8_105) (by decide) (by decide) k) ?_
        show own_Go p.tables e below s _ _ _ (T20.setTop (mkF m 137 #[.val (.ref p0), .val (.ref p1), .val (.ref p2), .val (.int (1 : Int32))] [(.ref b14)]))
        exact own_retA X20 hx hlk Bd.returns rfl (hb hby d8_137) (by decide) (by decide) ⟨_, _, _, _, _, rfl, N20, K20, sz_b14, A14_h20, Fx20, Fy20, Fz20, Fw20, Or.inr (Or.inl ⟨ha21_3, ha69_13, ha56_11, rfl, rfl, rfl, rfl⟩)⟩
      · refine own_by (fun _ k => Jvm.RoadKit.acmp (g := (mkF m 69 #[.val (.ref p0), .val (.ref p1), .val (.ref p2), .val (.int (1 : Int32))] [(.ref vT), (.ref p2)])) X12 hx rfl rfl rfl (pc0 := 69) (pc' := 138) (same := false) rfl (hb hby d8_69) rfl (decide_eq_false fun q => ha69_13 (Value.ref.inj q)) (by decide) (by decide) k) ?_
        show own_Go p.tables e below s _ _ _ (T12.setTop (mkF m 138 #[.val (.ref p0), .val (.ref p1), .val (.ref p2), .val (.int (1 : Int32))] []))
        refine own_by (fun _ k => XS.iloadN X12.here hx rfl (hb hby d8_138) rfl k) ?_
        show own_Go p.tables e below s _ _ _ (T12.setTop (mkF m 139 #[.val (.ref p0), .val (.ref p1), .val (.ref p2), .val (.int (1 : Int32))] [(.int (1 : Int32))]))
        refine own_by (fun _ k => XS.ifNo X12.here hx rfl (hb hby d8_139) rfl ((if0 _ _).trans (feq (by decide : ¬ ((1 : Int32) = (0 : Int32)))).1) k) ?_
        show own_Go p.tables e below s _ _ _ (T12.setTop (mkF m 142 #[.val (.ref p0), .val (.ref p1), .val (.ref p2), .val (.int (1 : Int32))] []))
        obtain ⟨T21, h21, X21, e21, E21, A21, D21, -, st21⟩ := newO X12 hx hZ hown (hw _ (List.mem_of_getElem? (i := 56) rfl)) (hw _ (List.mem_of_getElem? (i := 1) rfl)) (hw _ (List.mem_of_getElem? (i := 2) rfl)) e12 (g := (mkF m 142 #[.val (.ref p0), .val (.ref p1), .val (.ref p2), .val (.int (1 : Int32))] [])) rfl (hb hby d8_142) (by decide) (by decide)
        obtain ⟨b21, g21⟩ : ∃ z, z = h0.size := ⟨_, rfl⟩
        rw [← g21] at A21 D21 st21
        have ge_b21 : n0 ≤ b21 := Nat.le_trans Z0 (Nat.le_of_eq g21.symm)
        have sz_b21 : h0.size ≤ b21 := Nat.le_trans K0.1 (Nat.le_of_eq g21.symm)
        have ne_p0_b21 : p0 ≠ b21 := by rw [g21]; exact Nat.ne_of_lt Ex0.lt
        have Z21 : n0 ≤ h21.size := Nat.le_trans Z0 E21.1
        have K21 := K0.ext E21
        have Ex0_h21 := Ex0.ext E21
        have FacorrectTrue_h21 := FacorrectTrue.ext E21
        have FacorrectFalse_h21 := FacorrectFalse.ext E21
        have FawrongTrue_h21 := FawrongTrue.ext E21
        have FawrongFalse_h21 := FawrongFalse.ext E21
        have Faunknown_h21 := Faunknown.ext E21
        have F21_correctTrue : Fld Z h21 b21 "com/example/proofhound/proofhound/suite/Score" "correctTrue" "I" (.int (0 : Int32)) := D21 (Or.inr (hw _ (List.mem_of_getElem? (i := 15) rfl))) (ty := .int) (by decide)
        have F21_correctFalse : Fld Z h21 b21 "com/example/proofhound/proofhound/suite/Score" "correctFalse" "I" (.int (0 : Int32)) := D21 (Or.inr (hw _ (List.mem_of_getElem? (i := 17) rfl))) (ty := .int) (by decide)
        have F21_wrongTrue : Fld Z h21 b21 "com/example/proofhound/proofhound/suite/Score" "wrongTrue" "I" (.int (0 : Int32)) := D21 (Or.inr (hw _ (List.mem_of_getElem? (i := 19) rfl))) (ty := .int) (by decide)
        have F21_wrongFalse : Fld Z h21 b21 "com/example/proofhound/proofhound/suite/Score" "wrongFalse" "I" (.int (0 : Int32)) := D21 (Or.inr (hw _ (List.mem_of_getElem? (i := 21) rfl))) (ty := .int) (by decide)
        have F21_unknown : Fld Z h21 b21 "com/example/proofhound/proofhound/suite/Score" "unknown" "I" (.int (0 : Int32)) := D21 (Or.inr (hw _ (List.mem_of_getElem? (i := 23) rfl))) (ty := .int) (by decide)
        refine own_by st21 ?_
        show own_Go p.tables e below s _ _ _ (T21.setTop (mkF m 145 #[.val (.ref p0), .val (.ref p1), .val (.ref p2), .val (.int (1 : Int32))] [(.ref b21)]))
        refine own_by (fun _ k => XS.dup X21.here hx rfl (hb hby d8_145) rfl rfl k) ?_
        show own_Go p.tables e below s _ _ _ (T21.setTop (mkF m 146 #[.val (.ref p0), .val (.ref p1), .val (.ref p2), .val (.int (1 : Int32))] [(.ref b21), (.ref b21)]))
        refine own_by (fun _ k => XS.aloadN X21.here hx rfl (hb hby d8_146) rfl rfl k) ?_
        show own_Go p.tables e below s _ _ _ (T21.setTop (mkF m 147 #[.val (.ref p0), .val (.ref p1), .val (.ref p2), .val (.int (1 : Int32))] [(.ref p0), (.ref b21), (.ref b21)]))
        obtain ⟨T22, X22, e22, st22⟩ := getF X21 hx hZ hown (host := "") (Or.inl (hw _ (List.mem_of_getElem? (i := 14) rfl))) Via.refl e21 FacorrectTrue_h21 (g := (mkF m 147 #[.val (.ref p0), .val (.ref p1), .val (.ref p2), .val (.int (1 : Int32))] [(.ref p0), (.ref b21), (.ref b21)])) rfl rfl (hb hby d8_147)
        refine own_by st22 ?_
        show own_Go p.tables e below s _ _ _ (T22.setTop (mkF m 150 #[.val (.ref p0), .val (.ref p1), .val (.ref p2), .val (.int (1 : Int32))] [(.int xa), (.ref b21), (.ref b21)]))
        refine own_by (fun _ k => XS.aloadN X22.here hx rfl (hb hby d8_150) rfl rfl k) ?_
        show own_Go p.tables e below s _ _ _ (T22.setTop (mkF m 151 #[.val (.ref p0), .val (.ref p1), .val (.ref p2), .val (.int (1 : Int32))] [(.ref p0), (.int xa), (.ref b21), (.ref b21)]))
        obtain ⟨T23, X23, e23, st23⟩ := getF X22 hx hZ hown (host := "") (Or.inl (hw _ (List.mem_of_getElem? (i := 16) rfl))) Via.refl e22 FacorrectFalse_h21 (g := (mkF m 151 #[.val (.ref p0), .val (.ref p1), .val (.ref p2), .val (.int (1 : Int32))] [(.ref p0), (.int xa), (.ref b21), (.ref b21)])) rfl rfl (hb hby d8_151)
        refine own_by st23 ?_
        show own_Go p.tables e below s _ _ _ (T23.setTop (mkF m 154 #[.val (.ref p0), .val (.ref p1), .val (.ref p2), .val (.int (1 : Int32))] [(.int xb), (.int xa), (.ref b21), (.ref b21)]))
        refine own_by (fun _ k => XS.iconst X23.here hx rfl (hb hby d8_154) k) ?_
        show own_Go p.tables e below s _ _ _ (T23.setTop (mkF m 155 #[.val (.ref p0), .val (.ref p1), .val (.ref p2), .val (.int (1 : Int32))] [(.int (1 : Int32)), (.int xb), (.int xa), (.ref b21), (.ref b21)]))
        refine own_by (fun _ k => XS.iadd X23.here hx rfl (hb hby d8_155) rfl k) ?_
        show own_Go p.tables e below s _ _ _ (T23.setTop (mkF m 156 #[.val (.ref p0), .val (.ref p1), .val (.ref p2), .val (.int (1 : Int32))] [(.int (xb + (1 : Int32))), (.int xa), (.ref b21), (.ref b21)]))
        refine own_by (fun _ k => XS.aloadN X23.here hx rfl (hb hby d8_156) rfl rfl k) ?_
        show own_Go p.tables e below s _ _ _ (T23.setTop (mkF m 157 #[.val (.ref p0), .val (.ref p1), .val (.ref p2), .val (.int (1 : Int32))] [(.ref p0), (.int (xb + (1 : Int32))), (.int xa), (.ref b21), (.ref b21)]))
        obtain ⟨T24, X24, e24, st24⟩ := getF X23 hx hZ hown (host := "") (Or.inl (hw _ (List.mem_of_getElem? (i := 18) rfl))) Via.refl e23 FawrongTrue_h21 (g := (mkF m 157 #[.val (.ref p0), .val (.ref p1), .val (.ref p2), .val (.int (1 : Int32))] [(.ref p0), (.int (xb + (1 : Int32))), (.int xa), (.ref b21), (.ref b21)])) rfl rfl (hb hby d8_157)
        refine own_by st24 ?_
        show own_Go p.tables e below s _ _ _ (T24.setTop (mkF m 160 #[.val (.ref p0), .val (.ref p1), .val (.ref p2), .val (.int (1 : Int32))] [(.int xc), (.int (xb + (1 : Int32))), (.int xa), (.ref b21), (.ref b21)]))
        refine own_by (fun _ k => XS.aloadN X24.here hx rfl (hb hby d8_160) rfl rfl k) ?_
        show own_Go p.tables e below s _ _ _ (T24.setTop (mkF m 161 #[.val (.ref p0), .val (.ref p1), .val (.ref p2), .val (.int (1 : Int32))] [(.ref p0), (.int xc), (.int (xb + (1 : Int32))), (.int xa), (.ref b21), (.ref b21)]))
        obtain ⟨T25, X25, e25, st25⟩ := getF X24 hx hZ hown (host := "") (Or.inl (hw _ (List.mem_of_getElem? (i := 20) rfl))) Via.refl e24 FawrongFalse_h21 (g := (mkF m 161 #[.val (.ref p0), .val (.ref p1), .val (.ref p2), .val (.int (1 : Int32))] [(.ref p0), (.int xc), (.int (xb + (1 : Int32))), (.int xa), (.ref b21), (.ref b21)])) rfl rfl (hb hby d8_161)
        refine own_by st25 ?_
        show own_Go p.tables e below s _ _ _ (T25.setTop (mkF m 164 #[.val (.ref p0), .val (.ref p1), .val (.ref p2), .val (.int (1 : Int32))] [(.int xd), (.int xc), (.int (xb + (1 : Int32))), (.int xa), (.ref b21), (.ref b21)]))
        refine own_by (fun _ k => XS.aloadN X25.here hx rfl (hb hby d8_164) rfl rfl k) ?_
        show own_Go p.tables e below s _ _ _ (T25.setTop (mkF m 165 #[.val (.ref p0), .val (.ref p1), .val (.ref p2), .val (.int (1 : Int32))] [(.ref p0), (.int xd), (.int xc), (.int (xb + (1 : Int32))), (.int xa), (.ref b21), (.ref b21)]))
        obtain ⟨T26, X26, e26, st26⟩ := getF X25 hx hZ hown (host := "") (Or.inl (hw _ (List.mem_of_getElem? (i := 22) rfl))) Via.refl e25 Faunknown_h21 (g := (mkF m 165 #[.val (.ref p0), .val (.ref p1), .val (.ref p2), .val (.int (1 : Int32))] [(.ref p0), (.int xd), (.int xc), (.int (xb + (1 : Int32))), (.int xa), (.ref b21), (.ref b21)])) rfl rfl (hb hby d8_165)
        refine own_by st26 ?_
        show own_Go p.tables e below s _ _ _ (T26.setTop (mkF m 168 #[.val (.ref p0), .val (.ref p1), .val (.ref p2), .val (.int (1 : Int32))] [(.int xu), (.int xd), (.int xc), (.int (xb + (1 : Int32))), (.int xa), (.ref b21), (.ref b21)]))
        obtain ⟨v27, T27, L27, X27, q27, st27⟩ := own_callI X26 hx hZ rfl hown (hw _ (List.mem_of_getElem? (i := 57) rfl)) (hw _ (List.mem_of_getElem? (i := 4) rfl)) (hw _ (List.mem_of_getElem? (i := 2) rfl)) (hw _ (List.mem_of_getElem? (i := 5) rfl)) (by decide) (rm1 l Z a0 hw [] b21 xa (xb + (1 : Int32)) xc xd xu h21 n0 Z21 A21 F21_correctTrue F21_correctFalse F21_wrongTrue F21_wrongFalse F21_unknown ge_b21) (W := 1) (by decide) (by decide) e26 (g := (mkF m 168 #[.val (.ref p0), .val (.ref p1), .val (.ref p2), .val (.int (1 : Int32))] [(.int xu), (.int xd), (.int xc), (.int (xb + (1 : Int32))), (.int xa), (.ref b21), (.ref b21)])) rfl (by rw [hml]; rfl) (a := b21) (argsL := [(.int xa), (.int (xb + (1 : Int32))), (.int xc), (.int xd), (.int xu)]) (rest := [(.ref b21)]) (lenOf pd_1 rfl) rfl rfl (by show 2 * 0 + _ ≤ _; exact Nat.le_of_eq rfl) (hb hby d8_168) (by decide) (by decide)
        obtain ⟨rfl, Nq27, Kq27, Fx27, Fy27, Fz27, Fw27, Fu27⟩ := q27
        have N27 := Fr.app N0 Nq27
        have Z27 : n0 ≤ T27.heap.size := Nat.le_trans Z21 Kq27.1
        have K27 := K21.trans Kq27 (allS (Or.inr sz_b21) all0)
        have Ex0_h27 := Ex0_h21.keep Kq27
        have FacorrectTrue_h27 := FacorrectTrue_h21.keep Kq27 (ninS ne_p0_b21 nin0)
        have FacorrectFalse_h27 := FacorrectFalse_h21.keep Kq27 (ninS ne_p0_b21 nin0)
        have FawrongTrue_h27 := FawrongTrue_h21.keep Kq27 (ninS ne_p0_b21 nin0)
        have FawrongFalse_h27 := FawrongFalse_h21.keep Kq27 (ninS ne_p0_b21 nin0)
        have Faunknown_h27 := Faunknown_h21.keep Kq27 (ninS ne_p0_b21 nin0)
        have A21_h27 := A21.keep Kq27
        refine own_by st27 ?_
        show own_Go p.tables e below s _ _ _ (T27.setTop (mkF m 171 #[.val (.ref p0), .val (.ref p1), .val (.ref p2), .val (.int (1 : Int32))] [(.ref b21)]))
        refine own_by (fun _ k => XS.goto X27.here hx rfl (pc0 := 171) (pc' := 203) rfl (hb hby d8_171) (by decide) (by decide) k) ?_
        show own_Go p.tables e below s _ _ _ (T27.setTop (mkF m 203 #[.val (.ref p0), .val (.ref p1), .val (.ref p2), .val (.int (1 : Int32))] [(.ref b21)]))
        exact own_retA X27 hx hlk Bd.returns rfl (hb hby d8_203) (by decide) (by decide) ⟨_, _, _, _, _, rfl, N27, K27, sz_b21, A21_h27, Fx27, Fy27, Fz27, Fw27, Or.inr (Or.inr (Or.inr (Or.inl ⟨ha21_3, ha69_13, ha56_11, rfl, rfl, rfl, rfl⟩)))⟩
    · refine own_by (fun _ k => Jvm.RoadKit.acmp (g := (mkF m 56 #[.val (.ref p0), .val (.ref p1), .val (.ref p2), .unset] [(.ref p1), (.ref p2)])) X2 hx rfl rfl rfl (pc0 := 56) (pc' := 63) (same := false) rfl (hb hby d8_56) rfl (decide_eq_false fun q => ha56_11 (Value.ref.inj q)) (by decide) (by decide) k) ?_
      show own_Go p.tables e below s _ _ _ (T2.setTop (mkF m 63 #[.val (.ref p0), .val (.ref p1), .val (.ref p2), .unset] []))
      refine own_by (fun _ k => XS.iconst X2.here hx rfl (hb hby d8_63) k) ?_
      show own_Go p.tables e below s _ _ _ (T2.setTop (mkF m 64 #[.val (.ref p0), .val (.ref p1), .val (.ref p2), .unset] [(.int (0 : Int32))]))
      refine own_by (fun _ k => XS.istoreN X2.here hx rfl (hb hby d8_64) rfl (l' := #[.val (.ref p0), .val (.ref p1), .val (.ref p2), .val (.int (0 : Int32))]) rfl k) ?_
      show own_Go p.tables e below s _ _ _ (T2.setTop (mkF m 65 #[.val (.ref p0), .val (.ref p1), .val (.ref p2), .val (.int (0 : Int32))] []))
      refine own_by (fun _ k => XS.aloadN X2.here hx rfl (hb hby d8_65) rfl rfl k) ?_
      show own_Go p.tables e below s _ _ _ (T2.setTop (mkF m 66 #[.val (.ref p0), .val (.ref p1), .val (.ref p2), .val (.int (0 : Int32))] [(.ref p2)]))
      obtain ⟨T28, X28, e28, st28⟩ := getS2 X2 hx hZ hown (host := "") (Or.inl (hw _ (List.mem_of_getElem? (i := 54) rfl))) Via.refl e2 STRUE (g := (mkF m 66 #[.val (.ref p0), .val (.ref p1), .val (.ref p2), .val (.int (0 : Int32))] [(.ref p2)])) rfl (hb hby d8_66)
      refine own_by st28 ?_
      show own_Go p.tables e below s _ _ _ (T28.setTop (mkF m 69 #[.val (.ref p0), .val (.ref p1), .val (.ref p2), .val (.int (0 : Int32))] [(.ref vT), (.ref p2)]))
      by_cases ha69_29 : p2 = vT
      · refine own_by (fun _ k => Jvm.RoadKit.acmp (g := (mkF m 69 #[.val (.ref p0), .val (.ref p1), .val (.ref p2), .val (.int (0 : Int32))] [(.ref vT), (.ref p2)])) X28 hx rfl rfl rfl (pc0 := 69) (pc' := 72) (same := true) rfl (hb hby d8_69) rfl (decide_eq_true (congrArg Value.ref ha69_29)) (by decide) (by decide) k) ?_
        show own_Go p.tables e below s _ _ _ (T28.setTop (mkF m 72 #[.val (.ref p0), .val (.ref p1), .val (.ref p2), .val (.int (0 : Int32))] []))
        refine own_by (fun _ k => XS.iloadN X28.here hx rfl (hb hby d8_72) rfl k) ?_
        show own_Go p.tables e below s _ _ _ (T28.setTop (mkF m 73 #[.val (.ref p0), .val (.ref p1), .val (.ref p2), .val (.int (0 : Int32))] [(.int (0 : Int32))]))
        refine own_by (fun _ k => XS.ifYes X28.here hx rfl (pc0 := 73) (pc' := 108) rfl (hb hby d8_73) rfl ((if0 _ _).trans (teq (by decide : ((0 : Int32) = (0 : Int32)))).1) (by decide) (by decide) k) ?_
        show own_Go p.tables e below s _ _ _ (T28.setTop (mkF m 108 #[.val (.ref p0), .val (.ref p1), .val (.ref p2), .val (.int (0 : Int32))] []))
        obtain ⟨T30, h30, X30, e30, E30, A30, D30, -, st30⟩ := newO X28 hx hZ hown (hw _ (List.mem_of_getElem? (i := 56) rfl)) (hw _ (List.mem_of_getElem? (i := 1) rfl)) (hw _ (List.mem_of_getElem? (i := 2) rfl)) e28 (g := (mkF m 108 #[.val (.ref p0), .val (.ref p1), .val (.ref p2), .val (.int (0 : Int32))] [])) rfl (hb hby d8_108) (by decide) (by decide)
        obtain ⟨b30, g30⟩ : ∃ z, z = h0.size := ⟨_, rfl⟩
        rw [← g30] at A30 D30 st30
        have ge_b30 : n0 ≤ b30 := Nat.le_trans Z0 (Nat.le_of_eq g30.symm)
        have sz_b30 : h0.size ≤ b30 := Nat.le_trans K0.1 (Nat.le_of_eq g30.symm)
        have ne_p0_b30 : p0 ≠ b30 := by rw [g30]; exact Nat.ne_of_lt Ex0.lt
        have Z30 : n0 ≤ h30.size := Nat.le_trans Z0 E30.1
        have K30 := K0.ext E30
        have Ex0_h30 := Ex0.ext E30
        have FacorrectTrue_h30 := FacorrectTrue.ext E30
        have FacorrectFalse_h30 := FacorrectFalse.ext E30
        have FawrongTrue_h30 := FawrongTrue.ext E30
        have FawrongFalse_h30 := FawrongFalse.ext E30
        have Faunknown_h30 := Faunknown.ext E30
        have F30_correctTrue : Fld Z h30 b30 "com/example/proofhound/proofhound/suite/Score" "correctTrue" "I" (.int (0 : Int32)) := D30 (Or.inr (hw _ (List.mem_of_getElem? (i := 15) rfl))) (ty := .int) (by decide)
        have F30_correctFalse : Fld Z h30 b30 "com/example/proofhound/proofhound/suite/Score" "correctFalse" "I" (.int (0 : Int32)) := D30 (Or.inr (hw _ (List.mem_of_getElem? (i := 17) rfl))) (ty := .int) (by decide)
        have F30_wrongTrue : Fld Z h30 b30 "com/example/proofhound/proofhound/suite/Score" "wrongTrue" "I" (.int (0 : Int32)) := D30 (Or.inr (hw _ (List.mem_of_getElem? (i := 19) rfl))) (ty := .int) (by decide)
        have F30_wrongFalse : Fld Z h30 b30 "com/example/proofhound/proofhound/suite/Score" "wrongFalse" "I" (.int (0 : Int32)) := D30 (Or.inr (hw _ (List.mem_of_getElem? (i := 21) rfl))) (ty := .int) (by decide)
        have F30_unknown : Fld Z h30 b30 "com/example/proofhound/proofhound/suite/Score" "unknown" "I" (.int (0 : Int32)) := D30 (Or.inr (hw _ (List.mem_of_getElem? (i := 23) rfl))) (ty := .int) (by decide)
        refine own_by st30 ?_
        show own_Go p.tables e below s _ _ _ (T30.setTop (mkF m 111 #[.val (.ref p0), .val (.ref p1), .val (.ref p2), .val (.int (0 : Int32))] [(.ref b30)]))
        refine own_by (fun _ k => XS.dup X30.here hx rfl (hb hby d8_111) rfl rfl k) ?_
        show own_Go p.tables e below s _ _ _ (T30.setTop (mkF m 112 #[.val (.ref p0), .val (.ref p1), .val (.ref p2), .val (.int (0 : Int32))] [(.ref b30), (.ref b30)]))
        refine own_by (fun _ k => XS.aloadN X30.here hx rfl (hb hby d8_112) rfl rfl k) ?_
        show own_Go p.tables e below s _ _ _ (T30.setTop (mkF m 113 #[.val (.ref p0), .val (.ref p1), .val (.ref p2), .val (.int (0 : Int32))] [(.ref p0), (.ref b30), (.ref b30)]))
        obtain ⟨T31, X31, e31, st31⟩ := getF X30 hx hZ hown (host := "") (Or.inl (hw _ (List.mem_of_getElem? (i := 14) rfl))) Via.refl e30 FacorrectTrue_h30 (g := (mkF m 113 #[.val (.ref p0), .val (.ref p1), .val (.ref p2), .val (.int (0 : Int32))] [(.ref p0), (.ref b30), (.ref b30)])) rfl rfl (hb hby d8_113)
        refine own_by st31 ?_
        show own_Go p.tables e below s _ _ _ (T31.setTop (mkF m 116 #[.val (.ref p0), .val (.ref p1), .val (.ref p2), .val (.int (0 : Int32))] [(.int xa), (.ref b30), (.ref b30)]))
        refine own_by (fun _ k => XS.aloadN X31.here hx rfl (hb hby d8_116) rfl rfl k) ?_
        show own_Go p.tables e below s _ _ _ (T31.setTop (mkF m 117 #[.val (.ref p0), .val (.ref p1), .val (.ref p2), .val (.int (0 : Int32))] [(.ref p0), (.int xa), (.ref b30), (.ref b30)]))
        obtain ⟨T32, X32, e32, st32⟩ := getF X31 hx hZ hown (host := "") (Or.inl (hw _ (List.mem_of_getElem? (i := 16) rfl))) Via.refl e31 FacorrectFalse_h30 (g := (mkF m 117 #[.val (.ref p0), .val (.ref p1), .val (.ref p2), .val (.int (0 : Int32))] [(.ref p0), (.int xa), (.ref b30), (.ref b30)])) rfl rfl (hb hby d8_117)
        refine own_by st32 ?_
        show own_Go p.tables e below s _ _ _ (T32.setTop (mkF m 120 #[.val (.ref p0), .val (.ref p1), .val (.ref p2), .val (.int (0 : Int32))] [(.int xb), (.int xa), (.ref b30), (.ref b30)]))
        refine own_by (fun _ k => XS.aloadN X32.here hx rfl (hb hby d8_120) rfl rfl k) ?_
        show own_Go p.tables e below s _ _ _ (T32.setTop (mkF m 121 #[.val (.ref p0), .val (.ref p1), .val (.ref p2), .val (.int (0 : Int32))] [(.ref p0), (.int xb), (.int xa), (.ref b30), (.ref b30)]))
        obtain ⟨T33, X33, e33, st33⟩ := getF X32 hx hZ hown (host := "") (Or.inl (hw _ (List.mem_of_getElem? (i := 18) rfl))) Via.refl e32 FawrongTrue_h30 (g := (mkF m 121 #[.val (.ref p0), .val (.ref p1), .val (.ref p2), .val (.int (0 : Int32))] [(.ref p0), (.int xb), (.int xa), (.ref b30), (.ref b30)])) rfl rfl (hb hby d8_121)
        refine own_by st33 ?_
        show own_Go p.tables e below s _ _ _ (T33.setTop (mkF m 124 #[.val (.ref p0), .val (.ref p1), .val (.ref p2), .val (.int (0 : Int32))] [(.int xc), (.int xb), (.int xa), (.ref b30), (.ref b30)]))
        refine own_by (fun _ k => XS.iconst X33.here hx rfl (hb hby d8_124) k) ?_
        show own_Go p.tables e below s _ _ _ (T33.setTop (mkF m 125 #[.val (.ref p0), .val (.ref p1), .val (.ref p2), .val (.int (0 : Int32))] [(.int (1 : Int32)), (.int xc), (.int xb), (.int xa), (.ref b30), (.ref b30)]))
        refine own_by (fun _ k => XS.iadd X33.here hx rfl (hb hby d8_125) rfl k) ?_
        show own_Go p.tables e below s _ _ _ (T33.setTop (mkF m 126 #[.val (.ref p0), .val (.ref p1), .val (.ref p2), .val (.int (0 : Int32))] [(.int (xc + (1 : Int32))), (.int xb), (.int xa), (.ref b30), (.ref b30)]))
        refine own_by (fun _ k => XS.aloadN X33.here hx rfl (hb hby d8_126) rfl rfl k) ?_
        show own_Go p.tables e below s _ _ _ (T33.setTop (mkF m 127 #[.val (.ref p0), .val (.ref p1), .val (.ref p2), .val (.int (0 : Int32))] [(.ref p0), (.int (xc + (1 : Int32))), (.int xb), (.int xa), (.ref b30), (.ref b30)]))
        obtain ⟨T34, X34, e34, st34⟩ := getF X33 hx hZ hown (host := "") (Or.inl (hw _ (List.mem_of_getElem? (i := 20) rfl))) Via.refl e33 FawrongFalse_h30 (g := (mkF m 127 #[.val (.ref p0), .val (.ref p1), .val (.ref p2), .val (.int (0 : Int32))] [(.ref p0), (.int (xc + (1 : Int32))), (.int xb), (.int xa), (.ref b30), (.ref b30)])) rfl rfl (hb hby d8_127)
        refine own_by st34 ?_
        show own_Go p.tables e below s _ _ _ (T34.setTop (mkF m 130 #[.val (.ref p0), .val (.ref p1), .val (.ref p2), .val (.int (0 : Int32))] [(.int xd), (.int (xc + (1 : Int32))), (.int xb), (.int xa), (.ref b30), (.ref b30)]))
        refine own_by (fun _ k => XS.aloadN X34.here hx rfl (hb hby d8_130) rfl rfl k) ?_
        show own_Go p.tables e below s _ _ _ (T34.setTop (mkF m 131 #[.val (.ref p0), .val (.ref p1), .val (.ref p2), .val (.int (0 : Int32))] [(.ref p0), (.int xd), (.int (xc + (1 : Int32))), (.int xb), (.int xa), (.ref b30), (.ref b30)]))
        obtain ⟨T35, X35, e35, st35⟩ := getF X34 hx hZ hown (host := "") (Or.inl (hw _ (List.mem_of_getElem? (i := 22) rfl))) Via.refl e34 Faunknown_h30 (g := (mkF m 131 #[.val (.ref p0), .val (.ref p1), .val (.ref p2), .val (.int (0 : Int32))] [(.ref p0), (.int xd), (.int (xc + (1 : Int32))), (.int xb), (.int xa), (.ref b30), (.ref b30)])) rfl rfl (hb hby d8_131)
        refine own_by st35 ?_
        show own_Go p.tables e below s _ _ _ (T35.setTop (mkF m 134 #[.val (.ref p0), .val (.ref p1), .val (.ref p2), .val (.int (0 : Int32))] [(.int xu), (.int xd), (.int (xc + (1 : Int32))), (.int xb), (.int xa), (.ref b30), (.ref b30)]))
        obtain ⟨v36, T36, L36, X36, q36, st36⟩ := own_callI X35 hx hZ rfl hown (hw _ (List.mem_of_getElem? (i := 57) rfl)) (hw _ (List.mem_of_getElem? (i := 4) rfl)) (hw _ (List.mem_of_getElem? (i := 2) rfl)) (hw _ (List.mem_of_getElem? (i := 5) rfl)) (by decide) (rm1 l Z a0 hw [] b30 xa xb (xc + (1 : Int32)) xd xu h30 n0 Z30 A30 F30_correctTrue F30_correctFalse F30_wrongTrue F30_wrongFalse F30_unknown ge_b30) (W := 1) (by decide) (by decide) e35 (g := (mkF m 134 #[.val (.ref p0), .val (.ref p1), .val (.ref p2), .val (.int (0 : Int32))] [(.int xu), (.int xd), (.int (xc + (1 : Int32))), (.int xb), (.int xa), (.ref b30), (.ref b30)])) rfl (by rw [hml]; rfl) (a := b30) (argsL := [(.int xa), (.int xb), (.int (xc + (1 : Int32))), (.int xd), (.int xu)]) (rest := [(.ref b30)]) (lenOf pd_1 rfl) rfl rfl (by show 2 * 0 + _ ≤ _; exact Nat.le_of_eq rfl) (hb hby d8_134) (by decide) (by decide)
        obtain ⟨rfl, Nq36, Kq36, Fx36, Fy36, Fz36, Fw36, Fu36⟩ := q36
        have N36 := Fr.app N0 Nq36
        have Z36 : n0 ≤ T36.heap.size := Nat.le_trans Z30 Kq36.1
        have K36 := K30.trans Kq36 (allS (Or.inr sz_b30) all0)
        have Ex0_h36 := Ex0_h30.keep Kq36
        have FacorrectTrue_h36 := FacorrectTrue_h30.keep Kq36 (ninS ne_p0_b30 nin0)
        have FacorrectFalse_h36 := FacorrectFalse_h30.keep Kq36 (ninS ne_p0_b30 nin0)
        have FawrongTrue_h36 := FawrongTrue_h30.keep Kq36 (ninS ne_p0_b30 nin0)
        have FawrongFalse_h36 := FawrongFalse_h30.keep Kq36 (ninS ne_p0_b30 nin0)
        have Faunknown_h36 := Faunknown_h30.keep Kq36 (ninS ne_p0_b30 nin0)
        have A30_h36 := A30.keep Kq36
        refine own_by st36 ?_
        show own_Go p.tables e below s _ _ _ (T36.setTop (mkF m 137 #[.val (.ref p0), .val (.ref p1), .val (.ref p2), .val (.int (0 : Int32))] [(.ref b30)]))
        exact own_retA X36 hx hlk Bd.returns rfl (hb hby d8_137) (by decide) (by decide) ⟨_, _, _, _, _, rfl, N36, K36, sz_b30, A30_h36, Fx36, Fy36, Fz36, Fw36, Or.inr (Or.inr (Or.inl ⟨ha21_3, ha69_29, ha56_11, rfl, rfl, rfl, rfl⟩))⟩
      · refine own_by (fun _ k => Jvm.RoadKit.acmp (g := (mkF m 69 #[.val (.ref p0), .val (.ref p1), .val (.ref p2), .val (.int (0 : Int32))] [(.ref vT), (.ref p2)])) X28 hx rfl rfl rfl (pc0 := 69) (pc' := 138) (same := false) rfl (hb hby d8_69) rfl (decide_eq_false fun q => ha69_29 (Value.ref.inj q)) (by decide) (by decide) k) ?_
        show own_Go p.tables e below s _ _ _ (T28.setTop (mkF m 138 #[.val (.ref p0), .val (.ref p1), .val (.ref p2), .val (.int (0 : Int32))] []))
        refine own_by (fun _ k => XS.iloadN X28.here hx rfl (hb hby d8_138) rfl k) ?_
        show own_Go p.tables e below s _ _ _ (T28.setTop (mkF m 139 #[.val (.ref p0), .val (.ref p1), .val (.ref p2), .val (.int (0 : Int32))] [(.int (0 : Int32))]))
        refine own_by (fun _ k => XS.ifYes X28.here hx rfl (pc0 := 139) (pc' := 174) rfl (hb hby d8_139) rfl ((if0 _ _).trans (teq (by decide : ((0 : Int32) = (0 : Int32)))).1) (by decide) (by decide) k) ?_
        show own_Go p.tables e below s _ _ _ (T28.setTop (mkF m 174 #[.val (.ref p0), .val (.ref p1), .val (.ref p2), .val (.int (0 : Int32))] []))
        obtain ⟨T37, h37, X37, e37, E37, A37, D37, -, st37⟩ := newO X28 hx hZ hown (hw _ (List.mem_of_getElem? (i := 56) rfl)) (hw _ (List.mem_of_getElem? (i := 1) rfl)) (hw _ (List.mem_of_getElem? (i := 2) rfl)) e28 (g := (mkF m 174 #[.val (.ref p0), .val (.ref p1), .val (.ref p2), .val (.int (0 : Int32))] [])) rfl (hb hby d8_174) (by decide) (by decide)
        obtain ⟨b37, g37⟩ : ∃ z, z = h0.size := ⟨_, rfl⟩
        rw [← g37] at A37 D37 st37
        have ge_b37 : n0 ≤ b37 := Nat.le_trans Z0 (Nat.le_of_eq g37.symm)
        have sz_b37 : h0.size ≤ b37 := Nat.le_trans K0.1 (Nat.le_of_eq g37.symm)
        have ne_p0_b37 : p0 ≠ b37 := by rw [g37]; exact Nat.ne_of_lt Ex0.lt
        have Z37 : n0 ≤ h37.size := Nat.le_trans Z0 E37.1
        have K37 := K0.ext E37
        have Ex0_h37 := Ex0.ext E37
        have FacorrectTrue_h37 := FacorrectTrue.ext E37
        have FacorrectFalse_h37 := FacorrectFalse.ext E37
        have FawrongTrue_h37 := FawrongTrue.ext E37
        have FawrongFalse_h37 := FawrongFalse.ext E37
        have Faunknown_h37 := Faunknown.ext E37
        have F37_correctTrue : Fld Z h37 b37 "com/example/proofhound/proofhound/suite/Score" "correctTrue" "I" (.int (0 : Int32)) := D37 (Or.inr (hw _ (List.mem_of_getElem? (i := 15) rfl))) (ty := .int) (by decide)
        have F37_correctFalse : Fld Z h37 b37 "com/example/proofhound/proofhound/suite/Score" "correctFalse" "I" (.int (0 : Int32)) := D37 (Or.inr (hw _ (List.mem_of_getElem? (i := 17) rfl))) (ty := .int) (by decide)
        have F37_wrongTrue : Fld Z h37 b37 "com/example/proofhound/proofhound/suite/Score" "wrongTrue" "I" (.int (0 : Int32)) := D37 (Or.inr (hw _ (List.mem_of_getElem? (i := 19) rfl))) (ty := .int) (by decide)
        have F37_wrongFalse : Fld Z h37 b37 "com/example/proofhound/proofhound/suite/Score" "wrongFalse" "I" (.int (0 : Int32)) := D37 (Or.inr (hw _ (List.mem_of_getElem? (i := 21) rfl))) (ty := .int) (by decide)
        have F37_unknown : Fld Z h37 b37 "com/example/proofhound/proofhound/suite/Score" "unknown" "I" (.int (0 : Int32)) := D37 (Or.inr (hw _ (List.mem_of_getElem? (i := 23) rfl))) (ty := .int) (by decide)
        refine own_by st37 ?_
        show own_Go p.tables e below s _ _ _ (T37.setTop (mkF m 177 #[.val (.ref p0), .val (.ref p1), .val (.ref p2), .val (.int (0 : Int32))] [(.ref b37)]))
        refine own_by (fun _ k => XS.dup X37.here hx rfl (hb hby d8_177) rfl rfl k) ?_
        show own_Go p.tables e below s _ _ _ (T37.setTop (mkF m 178 #[.val (.ref p0), .val (.ref p1), .val (.ref p2), .val (.int (0 : Int32))] [(.ref b37), (.ref b37)]))
        refine own_by (fun _ k => XS.aloadN X37.here hx rfl (hb hby d8_178) rfl rfl k) ?_
        show own_Go p.tables e below s _ _ _ (T37.setTop (mkF m 179 #[.val (.ref p0), .val (.ref p1), .val (.ref p2), .val (.int (0 : Int32))] [(.ref p0), (.ref b37), (.ref b37)]))
        obtain ⟨T38, X38, e38, st38⟩ := getF X37 hx hZ hown (host := "") (Or.inl (hw _ (List.mem_of_getElem? (i := 14) rfl))) Via.refl e37 FacorrectTrue_h37 (g := (mkF m 179 #[.val (.ref p0), .val (.ref p1), .val (.ref p2), .val (.int (0 : Int32))] [(.ref p0), (.ref b37), (.ref b37)])) rfl rfl (hb hby d8_179)
        refine own_by st38 ?_
        show own_Go p.tables e below s _ _ _ (T38.setTop (mkF m 182 #[.val (.ref p0), .val (.ref p1), .val (.ref p2), .val (.int (0 : Int32))] [(.int xa), (.ref b37), (.ref b37)]))
        refine own_by (fun _ k => XS.aloadN X38.here hx rfl (hb hby d8_182) rfl rfl k) ?_
        show own_Go p.tables e below s _ _ _ (T38.setTop (mkF m 183 #[.val (.ref p0), .val (.ref p1), .val (.ref p2), .val (.int (0 : Int32))] [(.ref p0), (.int xa), (.ref b37), (.ref b37)]))
        obtain ⟨T39, X39, e39, st39⟩ := getF X38 hx hZ hown (host := "") (Or.inl (hw _ (List.mem_of_getElem? (i := 16) rfl))) Via.refl e38 FacorrectFalse_h37 (g := (mkF m 183 #[.val (.ref p0), .val (.ref p1), .val (.ref p2), .val (.int (0 : Int32))] [(.ref p0), (.int xa), (.ref b37), (.ref b37)])) rfl rfl (hb hby d8_183)
        refine own_by st39 ?_
        show own_Go p.tables e below s _ _ _ (T39.setTop (mkF m 186 #[.val (.ref p0), .val (.ref p1), .val (.ref p2), .val (.int (0 : Int32))] [(.int xb), (.int xa), (.ref b37), (.ref b37)]))
        refine own_by (fun _ k => XS.aloadN X39.here hx rfl (hb hby d8_186) rfl rfl k) ?_
        show own_Go p.tables e below s _ _ _ (T39.setTop (mkF m 187 #[.val (.ref p0), .val (.ref p1), .val (.ref p2), .val (.int (0 : Int32))] [(.ref p0), (.int xb), (.int xa), (.ref b37), (.ref b37)]))
        obtain ⟨T40, X40, e40, st40⟩ := getF X39 hx hZ hown (host := "") (Or.inl (hw _ (List.mem_of_getElem? (i := 18) rfl))) Via.refl e39 FawrongTrue_h37 (g := (mkF m 187 #[.val (.ref p0), .val (.ref p1), .val (.ref p2), .val (.int (0 : Int32))] [(.ref p0), (.int xb), (.int xa), (.ref b37), (.ref b37)])) rfl rfl (hb hby d8_187)
        refine own_by st40 ?_
        show own_Go p.tables e below s _ _ _ (T40.setTop (mkF m 190 #[.val (.ref p0), .val (.ref p1), .val (.ref p2), .val (.int (0 : Int32))] [(.int xc), (.int xb), (.int xa), (.ref b37), (.ref b37)]))
        refine own_by (fun _ k => XS.aloadN X40.here hx rfl (hb hby d8_190) rfl rfl k) ?_
        show own_Go p.tables e below s _ _ _ (T40.setTop (mkF m 191 #[.val (.ref p0), .val (.ref p1), .val (.ref p2), .val (.int (0 : Int32))] [(.ref p0), (.int xc), (.int xb), (.int xa), (.ref b37), (.ref b37)]))
        obtain ⟨T41, X41, e41, st41⟩ := getF X40 hx hZ hown (host := "") (Or.inl (hw _ (List.mem_of_getElem? (i := 20) rfl))) Via.refl e40 FawrongFalse_h37 (g := (mkF m 191 #[.val (.ref p0), .val (.ref p1), .val (.ref p2), .val (.int (0 : Int32))] [(.ref p0), (.int xc), (.int xb), (.int xa), (.ref b37), (.ref b37)])) rfl rfl (hb hby d8_191)
        refine own_by st41 ?_
        show own_Go p.tables e below s _ _ _ (T41.setTop (mkF m 194 #[.val (.ref p0), .val (.ref p1), .val (.ref p2), .val (.int (0 : Int32))] [(.int xd), (.int xc), (.int xb), (.int xa), (.ref b37), (.ref b37)]))
        refine own_by (fun _ k => XS.iconst X41.here hx rfl (hb hby d8_194) k) ?_
        show own_Go p.tables e below s _ _ _ (T41.setTop (mkF m 195 #[.val (.ref p0), .val (.ref p1), .val (.ref p2), .val (.int (0 : Int32))] [(.int (1 : Int32)), (.int xd), (.int xc), (.int xb), (.int xa), (.ref b37), (.ref b37)]))
        refine own_by (fun _ k => XS.iadd X41.here hx rfl (hb hby d8_195) rfl k) ?_
        show own_Go p.tables e below s _ _ _ (T41.setTop (mkF m 196 #[.val (.ref p0), .val (.ref p1), .val (.ref p2), .val (.int (0 : Int32))] [(.int (xd + (1 : Int32))), (.int xc), (.int xb), (.int xa), (.ref b37), (.ref b37)]))
        refine own_by (fun _ k => XS.aloadN X41.here hx rfl (hb hby d8_196) rfl rfl k) ?_
        show own_Go p.tables e below s _ _ _ (T41.setTop (mkF m 197 #[.val (.ref p0), .val (.ref p1), .val (.ref p2), .val (.int (0 : Int32))] [(.ref p0), (.int (xd + (1 : Int32))), (.int xc), (.int xb), (.int xa), (.ref b37), (.ref b37)]))
        obtain ⟨T42, X42, e42, st42⟩ := getF X41 hx hZ hown (host := "") (Or.inl (hw _ (List.mem_of_getElem? (i := 22) rfl))) Via.refl e41 Faunknown_h37 (g := (mkF m 197 #[.val (.ref p0), .val (.ref p1), .val (.ref p2), .val (.int (0 : Int32))] [(.ref p0), (.int (xd + (1 : Int32))), (.int xc), (.int xb), (.int xa), (.ref b37), (.ref b37)])) rfl rfl (hb hby d8_197)
        refine own_by st42 ?_
        show own_Go p.tables e below s _ _ _ (T42.setTop (mkF m 200 #[.val (.ref p0), .val (.ref p1), .val (.ref p2), .val (.int (0 : Int32))] [(.int xu), (.int (xd + (1 : Int32))), (.int xc), (.int xb), (.int xa), (.ref b37), (.ref b37)]))
        obtain ⟨v43, T43, L43, X43, q43, st43⟩ := own_callI X42 hx hZ rfl hown (hw _ (List.mem_of_getElem? (i := 57) rfl)) (hw _ (List.mem_of_getElem? (i := 4) rfl)) (hw _ (List.mem_of_getElem? (i := 2) rfl)) (hw _ (List.mem_of_getElem? (i := 5) rfl)) (by decide) (rm1 l Z a0 hw [] b37 xa xb xc (xd + (1 : Int32)) xu h37 n0 Z37 A37 F37_correctTrue F37_correctFalse F37_wrongTrue F37_wrongFalse F37_unknown ge_b37) (W := 1) (by decide) (by decide) e42 (g := (mkF m 200 #[.val (.ref p0), .val (.ref p1), .val (.ref p2), .val (.int (0 : Int32))] [(.int xu), (.int (xd + (1 : Int32))), (.int xc), (.int xb), (.int xa), (.ref b37), (.ref b37)])) rfl (by rw [hml]; rfl) (a := b37) (argsL := [(.int xa), (.int xb), (.int xc), (.int (xd + (1 : Int32))), (.int xu)]) (rest := [(.ref b37)]) (lenOf pd_1 rfl) rfl rfl (by show 2 * 0 + _ ≤ _; exact Nat.le_of_eq rfl) (hb hby d8_200) (by decide) (by decide)
        obtain ⟨rfl, Nq43, Kq43, Fx43, Fy43, Fz43, Fw43, Fu43⟩ := q43
        have N43 := Fr.app N0 Nq43
        have Z43 : n0 ≤ T43.heap.size := Nat.le_trans Z37 Kq43.1
        have K43 := K37.trans Kq43 (allS (Or.inr sz_b37) all0)
        have Ex0_h43 := Ex0_h37.keep Kq43
        have FacorrectTrue_h43 := FacorrectTrue_h37.keep Kq43 (ninS ne_p0_b37 nin0)
        have FacorrectFalse_h43 := FacorrectFalse_h37.keep Kq43 (ninS ne_p0_b37 nin0)
        have FawrongTrue_h43 := FawrongTrue_h37.keep Kq43 (ninS ne_p0_b37 nin0)
        have FawrongFalse_h43 := FawrongFalse_h37.keep Kq43 (ninS ne_p0_b37 nin0)
        have Faunknown_h43 := Faunknown_h37.keep Kq43 (ninS ne_p0_b37 nin0)
        have A37_h43 := A37.keep Kq43
        refine own_by st43 ?_
        show own_Go p.tables e below s _ _ _ (T43.setTop (mkF m 203 #[.val (.ref p0), .val (.ref p1), .val (.ref p2), .val (.int (0 : Int32))] [(.ref b37)]))
        exact own_retA X43 hx hlk Bd.returns rfl (hb hby d8_203) (by decide) (by decide) ⟨_, _, _, _, _, rfl, N43, K43, sz_b37, A37_h43, Fx43, Fy43, Fz43, Fw43, Or.inr (Or.inr (Or.inr (Or.inr (⟨ha21_3, ha69_29, ha56_11, rfl, rfl, rfl, rfl⟩))))⟩

theorem pf_0 : plainFor x = true := by first | exact plainFor_of_name (by first | (simp [plainName, overriddenIn]; done) | decide +kernel) | decide +kernel
theorem pd_0 : parseMethodDescriptor "(IIIIII)Z" = some ⟨[.int, .int, .int, .int, .int, .int], some .boolean⟩ := by decide +kernel
theorem ef_0 (m : MethodId) (p0 : Int32) (p1 : Int32) (p2 : Int32) (p3 : Int32) (p4 : Int32) (p5 : Int32) : entryFrame m #[(.int p0), (.int p1), (.int p2), (.int p3), (.int p4), (.int p5)] maxLocals = mkF m 0 #[.val (.int p0), .val (.int p1), .val (.int p2), .val (.int p3), .val (.int p4), .val (.int p5), .unset, .unset, .unset, .unset, .unset, .unset, .unset, .unset, .unset, .unset, .unset, .unset, .unset, .unset, .unset] [] := by first | (simp [entryFrame, mkF, argsToLocals, Value.category, maxLocals]; done) | rfl
def Q0 (p0 : Int32) (p1 : Int32) (p2 : Int32) (p3 : Int32) (p4 : Int32) (p5 : Int32) (h0 : Heap) (n0 : Nat) (v : Option Value) (h : Heap) (L : List Loc) : Prop := v = some (.int 1) ∧ Fr n0 L
set_option maxRecDepth 65536 in
set_option maxHeartbeats 40000000 in
theorem rm0 (l : Launch) (Z : State) (a0 : Array Value) (hw : ∀ d ∈ tables_1, d.before a0 Z = true) (ws : List Jvm.Cond) (p0 : Int32) (p1 : Int32) (p2 : Int32) (p3 : Int32) (p4 : Int32) (p5 : Int32) (h0 : Heap) (n0 : Nat) (Z0 : n0 ≤ h0.size) (vT vF vU : Addr) (STRUE : Sta Z Z.heap "com/example/proofhound/proofhound/verdict/Verdict" "TRUE" "Lcom/example/proofhound/proofhound/verdict/Verdict;" (.ref vT)) (SFALSE : Sta Z Z.heap "com/example/proofhound/proofhound/verdict/Verdict" "FALSE" "Lcom/example/proofhound/proofhound/verdict/Verdict;" (.ref vF)) (SUNKNOWN : Sta Z Z.heap "com/example/proofhound/proofhound/verdict/Verdict" "UNKNOWN" "Lcom/example/proofhound/proofhound/verdict/Verdict;" (.ref vU)) (O0 : Old Z n0 h0) (nTF : ¬ vT = vF) (nTU : ¬ vT = vU) (nFU : ¬ vF = vU) :
    own_Met l Z x code maxLocals ret ws room_1 #[(.int p0), (.int p1), (.int p2), (.int p3), (.int p4), (.int p5)] h0 (Q0 p0 p1 p2 p3 p4 p5 h0 n0) := by
  refine MetFree.of_bodySF pf_0 hisR ?_
  intro p e s m args below meth c s₁ Bd hml0 hP hK
  obtain ⟨rfl, hZ, hh⟩ := hP
  have hx := Bd.exec
  have hby := Bd.bytes
  have hlk : meth.locks = false := BodyLoose.notSynchronized Bd
  have hml : c.maxLocals = 21 := hml0
  have hown : s.vm.findClass "com/example/proofhound/proofhound/suite/ScorePointsPinLaw" = some m.cls := findClass_of_methodNamed Bd.named
  have hnm := (name_of_methodNamed Bd.named Bd.method).1
  have X0 : Stand p l e room_1 s m #[(.int p0), (.int p1), (.int p2), (.int p3), (.int p4), (.int p5)] below meth c s₁ [] 0 0 := Stand.of_body Bd
  have e0 : s₁.heap = h0 := by rw [← hh, Bd.state]; rfl
  have N0 := Fr.nil n0
  show own_Go p.tables e below s (Q0 p0 p1 p2 p3 p4 p5 h0 n0) room_1.cells room_1.slots _
  refine own_by (fun _ k => castTop (ef_0 m p0 p1 p2 p3 p4 p5) k) ?_
  show own_Go p.tables e below s _ _ _ (s₁.setTop (mkF m 0 #[.val (.int p0), .val (.int p1), .val (.int p2), .val (.int p3), .val (.int p4), .val (.int p5), .unset, .unset, .unset, .unset, .unset, .unset, .unset, .unset, .unset, .unset, .unset, .unset, .unset, .unset, .unset] []))
  obtain ⟨T1, h1, X1, e1, E1, A1, D1, -, st1⟩ := newO X0 hx hZ hown (hw _ (List.mem_of_getElem? (i := 0) rfl)) (hw _ (List.mem_of_getElem? (i := 1) rfl)) (hw _ (List.mem_of_getElem? (i := 2) rfl)) e0 (g := (mkF m 0 #[.val (.int p0), .val (.int p1), .val (.int p2), .val (.int p3), .val (.int p4), .val (.int p5), .unset, .unset, .unset, .unset, .unset, .unset, .unset, .unset, .unset, .unset, .unset, .unset, .unset, .unset, .unset] [])) rfl (hb hby at_0) (by decide) (by decide)
  obtain ⟨b1, g1⟩ : ∃ z, z = h0.size := ⟨_, rfl⟩
  rw [← g1] at A1 D1 st1
  have ge_b1 : n0 ≤ b1 := Nat.le_trans Z0 (Nat.le_of_eq g1.symm)
  have Z1 : n0 ≤ h1.size := Nat.le_trans Z0 E1.1
  have O1 := O0.ext E1
  have F1_correctTrue : Fld Z h1 b1 "com/example/proofhound/proofhound/suite/Score" "correctTrue" "I" (.int (0 : Int32)) := D1 (Or.inr (hw _ (List.mem_of_getElem? (i := 15) rfl))) (ty := .int) (by decide)
  have F1_correctFalse : Fld Z h1 b1 "com/example/proofhound/proofhound/suite/Score" "correctFalse" "I" (.int (0 : Int32)) := D1 (Or.inr (hw _ (List.mem_of_getElem? (i := 17) rfl))) (ty := .int) (by decide)
  have F1_wrongTrue : Fld Z h1 b1 "com/example/proofhound/proofhound/suite/Score" "wrongTrue" "I" (.int (0 : Int32)) := D1 (Or.inr (hw _ (List.mem_of_getElem? (i := 19) rfl))) (ty := .int) (by decide)
  have F1_wrongFalse : Fld Z h1 b1 "com/example/proofhound/proofhound/suite/Score" "wrongFalse" "I" (.int (0 : Int32)) := D1 (Or.inr (hw _ (List.mem_of_getElem? (i := 21) rfl))) (ty := .int) (by decide)
  have F1_unknown : Fld Z h1 b1 "com/example/proofhound/proofhound/suite/Score" "unknown" "I" (.int (0 : Int32)) := D1 (Or.inr (hw _ (List.mem_of_getElem? (i := 23) rfl))) (ty := .int) (by decide)
  refine own_by st1 ?_
  show own_Go p.tables e below s _ _ _ (T1.setTop (mkF m 3 #[.val (.int p0), .val (.int p1), .val (.int p2), .val (.int p3), .val (.int p4), .val (.int p5), .unset, .unset, .unset, .unset, .unset, .unset, .unset, .unset, .unset, .unset, .unset, .unset, .unset, .unset, .unset] [(.ref b1)]))
  refine own_by (fun _ k => XS.dup X1.here hx rfl (hb hby at_3) rfl rfl k) ?_
  show own_Go p.tables e below s _ _ _ (T1.setTop (mkF m 4 #[.val (.int p0), .val (.int p1), .val (.int p2), .val (.int p3), .val (.int p4), .val (.int p5), .unset, .unset, .unset, .unset, .unset, .unset, .unset, .unset, .unset, .unset, .unset, .unset, .unset, .unset, .unset] [(.ref b1), (.ref b1)]))
  refine own_by (fun _ k => XS.iloadN X1.here hx rfl (hb hby at_4) rfl k) ?_
  show own_Go p.tables e below s _ _ _ (T1.setTop (mkF m 5 #[.val (.int p0), .val (.int p1), .val (.int p2), .val (.int p3), .val (.int p4), .val (.int p5), .unset, .unset, .unset, .unset, .unset, .unset, .unset, .unset, .unset, .unset, .unset, .unset, .unset, .unset, .unset] [(.int p0), (.ref b1), (.ref b1)]))
  refine own_by (fun _ k => XS.iloadN X1.here hx rfl (hb hby at_5) rfl k) ?_
  show own_Go p.tables e below s _ _ _ (T1.setTop (mkF m 6 #[.val (.int p0), .val (.int p1), .val (.int p2), .val (.int p3), .val (.int p4), .val (.int p5), .unset, .unset, .unset, .unset, .unset, .unset, .unset, .unset, .unset, .unset, .unset, .unset, .unset, .unset, .unset] [(.int p1), (.int p0), (.ref b1), (.ref b1)]))
  refine own_by (fun _ k => XS.iloadN X1.here hx rfl (hb hby at_6) rfl k) ?_
  show own_Go p.tables e below s _ _ _ (T1.setTop (mkF m 7 #[.val (.int p0), .val (.int p1), .val (.int p2), .val (.int p3), .val (.int p4), .val (.int p5), .unset, .unset, .unset, .unset, .unset, .unset, .unset, .unset, .unset, .unset, .unset, .unset, .unset, .unset, .unset] [(.int p2), (.int p1), (.int p0), (.ref b1), (.ref b1)]))
  refine own_by (fun _ k => XS.iloadN X1.here hx rfl (hb hby at_7) rfl k) ?_
  show own_Go p.tables e below s _ _ _ (T1.setTop (mkF m 8 #[.val (.int p0), .val (.int p1), .val (.int p2), .val (.int p3), .val (.int p4), .val (.int p5), .unset, .unset, .unset, .unset, .unset, .unset, .unset, .unset, .unset, .unset, .unset, .unset, .unset, .unset, .unset] [(.int p3), (.int p2), (.int p1), (.int p0), (.ref b1), (.ref b1)]))
  refine own_by (fun _ k => XS.iload X1.here hx rfl (hb hby at_8) rfl k) ?_
  show own_Go p.tables e below s _ _ _ (T1.setTop (mkF m 10 #[.val (.int p0), .val (.int p1), .val (.int p2), .val (.int p3), .val (.int p4), .val (.int p5), .unset, .unset, .unset, .unset, .unset, .unset, .unset, .unset, .unset, .unset, .unset, .unset, .unset, .unset, .unset] [(.int p4), (.int p3), (.int p2), (.int p1), (.int p0), (.ref b1), (.ref b1)]))
  obtain ⟨v2, T2, L2, X2, q2, st2⟩ := own_callI X1 hx hZ rfl hown (hw _ (List.mem_of_getElem? (i := 3) rfl)) (hw _ (List.mem_of_getElem? (i := 4) rfl)) (hw _ (List.mem_of_getElem? (i := 2) rfl)) (hw _ (List.mem_of_getElem? (i := 5) rfl)) (by decide) (rm1 l Z a0 hw [] b1 p0 p1 p2 p3 p4 h1 n0 Z1 A1 F1_correctTrue F1_correctFalse F1_wrongTrue F1_wrongFalse F1_unknown ge_b1) (W := 1) (by decide) (by decide) e1 (g := (mkF m 10 #[.val (.int p0), .val (.int p1), .val (.int p2), .val (.int p3), .val (.int p4), .val (.int p5), .unset, .unset, .unset, .unset, .unset, .unset, .unset, .unset, .unset, .unset, .unset, .unset, .unset, .unset, .unset] [(.int p4), (.int p3), (.int p2), (.int p1), (.int p0), (.ref b1), (.ref b1)])) rfl (by rw [hml]; rfl) (a := b1) (argsL := [(.int p0), (.int p1), (.int p2), (.int p3), (.int p4)]) (rest := [(.ref b1)]) (lenOf pd_1 rfl) rfl rfl (by show 2 * 0 + _ ≤ _; exact Nat.le_of_eq rfl) (hb hby at_10) (by decide) (by decide)
  obtain ⟨rfl, Nq2, Kq2, Fx2, Fy2, Fz2, Fw2, Fu2⟩ := q2
  have N2 := Fr.app N0 Nq2
  have Z2 : n0 ≤ T2.heap.size := Nat.le_trans Z1 Kq2.1
  have O2 := O1.keep Kq2 (allS ge_b1 all0)
  have A1_h2 := A1.keep Kq2
  refine own_by st2 ?_
  show own_Go p.tables e below s _ _ _ (T2.setTop (mkF m 13 #[.val (.int p0), .val (.int p1), .val (.int p2), .val (.int p3), .val (.int p4), .val (.int p5), .unset, .unset, .unset, .unset, .unset, .unset, .unset, .unset, .unset, .unset, .unset, .unset, .unset, .unset, .unset] [(.ref b1)]))
  refine own_by (fun _ k => XS.astore X2.here hx rfl (hb hby at_13) rfl rfl (l' := #[.val (.int p0), .val (.int p1), .val (.int p2), .val (.int p3), .val (.int p4), .val (.int p5), .val (.ref b1), .unset, .unset, .unset, .unset, .unset, .unset, .unset, .unset, .unset, .unset, .unset, .unset, .unset, .unset]) rfl k) ?_
  show own_Go p.tables e below s _ _ _ (T2.setTop (mkF m 15 #[.val (.int p0), .val (.int p1), .val (.int p2), .val (.int p3), .val (.int p4), .val (.int p5), .val (.ref b1), .unset, .unset, .unset, .unset, .unset, .unset, .unset, .unset, .unset, .unset, .unset, .unset, .unset, .unset] []))
  refine own_by (fun _ k => XS.iloadN X2.here hx rfl (hb hby at_15) rfl k) ?_
  show own_Go p.tables e below s _ _ _ (T2.setTop (mkF m 16 #[.val (.int p0), .val (.int p1), .val (.int p2), .val (.int p3), .val (.int p4), .val (.int p5), .val (.ref b1), .unset, .unset, .unset, .unset, .unset, .unset, .unset, .unset, .unset, .unset, .unset, .unset, .unset, .unset] [(.int p0)]))
  refine own_by (fun _ k => XS.i2l X2.here hx rfl (hb hby at_16) rfl k) ?_
  show own_Go p.tables e below s _ _ _ (T2.setTop (mkF m 17 #[.val (.int p0), .val (.int p1), .val (.int p2), .val (.int p3), .val (.int p4), .val (.int p5), .val (.ref b1), .unset, .unset, .unset, .unset, .unset, .unset, .unset, .unset, .unset, .unset, .unset, .unset, .unset, .unset] [(.long (p0.toInt64))]))
  refine own_by (fun _ k => XS.iconst X2.here hx rfl (hb hby at_17) k) ?_
  show own_Go p.tables e below s _ _ _ (T2.setTop (mkF m 18 #[.val (.int p0), .val (.int p1), .val (.int p2), .val (.int p3), .val (.int p4), .val (.int p5), .val (.ref b1), .unset, .unset, .unset, .unset, .unset, .unset, .unset, .unset, .unset, .unset, .unset, .unset, .unset, .unset] [(.int (1 : Int32)), (.long (p0.toInt64))]))
  refine own_by (fun _ k => XS.lshl X2.here hx rfl (hb hby at_18) rfl k) ?_
  show own_Go p.tables e below s _ _ _ (T2.setTop (mkF m 19 #[.val (.int p0), .val (.int p1), .val (.int p2), .val (.int p3), .val (.int p4), .val (.int p5), .val (.ref b1), .unset, .unset, .unset, .unset, .unset, .unset, .unset, .unset, .unset, .unset, .unset, .unset, .unset, .unset] [(.long ((p0.toInt64) <<< ((1 : Int32) &&& 0x3f).toInt64))]))
  refine own_by (fun _ k => XS.iloadN X2.here hx rfl (hb hby at_19) rfl k) ?_
  show own_Go p.tables e below s _ _ _ (T2.setTop (mkF m 20 #[.val (.int p0), .val (.int p1), .val (.int p2), .val (.int p3), .val (.int p4), .val (.int p5), .val (.ref b1), .unset, .unset, .unset, .unset, .unset, .unset, .unset, .unset, .unset, .unset, .unset, .unset, .unset, .unset] [(.int p1), (.long ((p0.toInt64) <<< ((1 : Int32) &&& 0x3f).toInt64))]))
  refine own_by (fun _ k => XS.i2l X2.here hx rfl (hb hby at_20) rfl k) ?_
  show own_Go p.tables e below s _ _ _ (T2.setTop (mkF m 21 #[.val (.int p0), .val (.int p1), .val (.int p2), .val (.int p3), .val (.int p4), .val (.int p5), .val (.ref b1), .unset, .unset, .unset, .unset, .unset, .unset, .unset, .unset, .unset, .unset, .unset, .unset, .unset, .unset] [(.long (p1.toInt64)), (.long ((p0.toInt64) <<< ((1 : Int32) &&& 0x3f).toInt64))]))
  refine own_by (fun _ k => XS.ladd X2.here hx rfl (hb hby at_21) rfl k) ?_
  show own_Go p.tables e below s _ _ _ (T2.setTop (mkF m 22 #[.val (.int p0), .val (.int p1), .val (.int p2), .val (.int p3), .val (.int p4), .val (.int p5), .val (.ref b1), .unset, .unset, .unset, .unset, .unset, .unset, .unset, .unset, .unset, .unset, .unset, .unset, .unset, .unset] [(.long (((p0.toInt64) <<< ((1 : Int32) &&& 0x3f).toInt64) + (p1.toInt64)))]))
  refine own_by (fun _ k => XS.iloadN X2.here hx rfl (hb hby at_22) rfl k) ?_
  show own_Go p.tables e below s _ _ _ (T2.setTop (mkF m 23 #[.val (.int p0), .val (.int p1), .val (.int p2), .val (.int p3), .val (.int p4), .val (.int p5), .val (.ref b1), .unset, .unset, .unset, .unset, .unset, .unset, .unset, .unset, .unset, .unset, .unset, .unset, .unset, .unset] [(.int p2), (.long (((p0.toInt64) <<< ((1 : Int32) &&& 0x3f).toInt64) + (p1.toInt64)))]))
  refine own_by (fun _ k => XS.i2l X2.here hx rfl (hb hby at_23) rfl k) ?_
  show own_Go p.tables e below s _ _ _ (T2.setTop (mkF m 24 #[.val (.int p0), .val (.int p1), .val (.int p2), .val (.int p3), .val (.int p4), .val (.int p5), .val (.ref b1), .unset, .unset, .unset, .unset, .unset, .unset, .unset, .unset, .unset, .unset, .unset, .unset, .unset, .unset] [(.long (p2.toInt64)), (.long (((p0.toInt64) <<< ((1 : Int32) &&& 0x3f).toInt64) + (p1.toInt64)))]))
  refine own_by (fun _ k => XS.iconst X2.here hx rfl (hb hby at_24) k) ?_
  show own_Go p.tables e below s _ _ _ (T2.setTop (mkF m 25 #[.val (.int p0), .val (.int p1), .val (.int p2), .val (.int p3), .val (.int p4), .val (.int p5), .val (.ref b1), .unset, .unset, .unset, .unset, .unset, .unset, .unset, .unset, .unset, .unset, .unset, .unset, .unset, .unset] [(.int (5 : Int32)), (.long (p2.toInt64)), (.long (((p0.toInt64) <<< ((1 : Int32) &&& 0x3f).toInt64) + (p1.toInt64)))]))
  refine own_by (fun _ k => XS.lshl X2.here hx rfl (hb hby at_25) rfl k) ?_
  show own_Go p.tables e below s _ _ _ (T2.setTop (mkF m 26 #[.val (.int p0), .val (.int p1), .val (.int p2), .val (.int p3), .val (.int p4), .val (.int p5), .val (.ref b1), .unset, .unset, .unset, .unset, .unset, .unset, .unset, .unset, .unset, .unset, .unset, .unset, .unset, .unset] [(.long ((p2.toInt64) <<< ((5 : Int32) &&& 0x3f).toInt64)), (.long (((p0.toInt64) <<< ((1 : Int32) &&& 0x3f).toInt64) + (p1.toInt64)))]))
  refine own_by (fun _ k => XS.lsub X2.here hx rfl (hb hby at_26) rfl k) ?_
  show own_Go p.tables e below s _ _ _ (T2.setTop (mkF m 27 #[.val (.int p0), .val (.int p1), .val (.int p2), .val (.int p3), .val (.int p4), .val (.int p5), .val (.ref b1), .unset, .unset, .unset, .unset, .unset, .unset, .unset, .unset, .unset, .unset, .unset, .unset, .unset, .unset] [(.long ((((p0.toInt64) <<< ((1 : Int32) &&& 0x3f).toInt64) + (p1.toInt64)) - ((p2.toInt64) <<< ((5 : Int32) &&& 0x3f).toInt64)))]))
  refine own_by (fun _ k => XS.iloadN X2.here hx rfl (hb hby at_27) rfl k) ?_
  show own_Go p.tables e below s _ _ _ (T2.setTop (mkF m 28 #[.val (.int p0), .val (.int p1), .val (.int p2), .val (.int p3), .val (.int p4), .val (.int p5), .val (.ref b1), .unset, .unset, .unset, .unset, .unset, .unset, .unset, .unset, .unset, .unset, .unset, .unset, .unset, .unset] [(.int p3), (.long ((((p0.toInt64) <<< ((1 : Int32) &&& 0x3f).toInt64) + (p1.toInt64)) - ((p2.toInt64) <<< ((5 : Int32) &&& 0x3f).toInt64)))]))
  refine own_by (fun _ k => XS.i2l X2.here hx rfl (hb hby at_28) rfl k) ?_
  show own_Go p.tables e below s _ _ _ (T2.setTop (mkF m 29 #[.val (.int p0), .val (.int p1), .val (.int p2), .val (.int p3), .val (.int p4), .val (.int p5), .val (.ref b1), .unset, .unset, .unset, .unset, .unset, .unset, .unset, .unset, .unset, .unset, .unset, .unset, .unset, .unset] [(.long (p3.toInt64)), (.long ((((p0.toInt64) <<< ((1 : Int32) &&& 0x3f).toInt64) + (p1.toInt64)) - ((p2.toInt64) <<< ((5 : Int32) &&& 0x3f).toInt64)))]))
  refine own_by (fun _ k => XS.iconst X2.here hx rfl (hb hby at_29) k) ?_
  show own_Go p.tables e below s _ _ _ (T2.setTop (mkF m 30 #[.val (.int p0), .val (.int p1), .val (.int p2), .val (.int p3), .val (.int p4), .val (.int p5), .val (.ref b1), .unset, .unset, .unset, .unset, .unset, .unset, .unset, .unset, .unset, .unset, .unset, .unset, .unset, .unset] [(.int (4 : Int32)), (.long (p3.toInt64)), (.long ((((p0.toInt64) <<< ((1 : Int32) &&& 0x3f).toInt64) + (p1.toInt64)) - ((p2.toInt64) <<< ((5 : Int32) &&& 0x3f).toInt64)))]))
  refine own_by (fun _ k => XS.lshl X2.here hx rfl (hb hby at_30) rfl k) ?_
  show own_Go p.tables e below s _ _ _ (T2.setTop (mkF m 31 #[.val (.int p0), .val (.int p1), .val (.int p2), .val (.int p3), .val (.int p4), .val (.int p5), .val (.ref b1), .unset, .unset, .unset, .unset, .unset, .unset, .unset, .unset, .unset, .unset, .unset, .unset, .unset, .unset] [(.long ((p3.toInt64) <<< ((4 : Int32) &&& 0x3f).toInt64)), (.long ((((p0.toInt64) <<< ((1 : Int32) &&& 0x3f).toInt64) + (p1.toInt64)) - ((p2.toInt64) <<< ((5 : Int32) &&& 0x3f).toInt64)))]))
  refine own_by (fun _ k => XS.lsub X2.here hx rfl (hb hby at_31) rfl k) ?_
  show own_Go p.tables e below s _ _ _ (T2.setTop (mkF m 32 #[.val (.int p0), .val (.int p1), .val (.int p2), .val (.int p3), .val (.int p4), .val (.int p5), .val (.ref b1), .unset, .unset, .unset, .unset, .unset, .unset, .unset, .unset, .unset, .unset, .unset, .unset, .unset, .unset] [(.long (((((p0.toInt64) <<< ((1 : Int32) &&& 0x3f).toInt64) + (p1.toInt64)) - ((p2.toInt64) <<< ((5 : Int32) &&& 0x3f).toInt64)) - ((p3.toInt64) <<< ((4 : Int32) &&& 0x3f).toInt64)))]))
  refine own_by (fun _ k => XS.lstore X2.here hx rfl (hb hby at_32) rfl (l' := #[.val (.int p0), .val (.int p1), .val (.int p2), .val (.int p3), .val (.int p4), .val (.int p5), .val (.ref b1), .val (.long (((((p0.toInt64) <<< ((1 : Int32) &&& 0x3f).toInt64) + (p1.toInt64)) - ((p2.toInt64) <<< ((5 : Int32) &&& 0x3f).toInt64)) - ((p3.toInt64) <<< ((4 : Int32) &&& 0x3f).toInt64))), .second, .unset, .unset, .unset, .unset, .unset, .unset, .unset, .unset, .unset, .unset, .unset, .unset]) rfl k) ?_
  show own_Go p.tables e below s _ _ _ (T2.setTop (mkF m 34 #[.val (.int p0), .val (.int p1), .val (.int p2), .val (.int p3), .val (.int p4), .val (.int p5), .val (.ref b1), .val (.long (((((p0.toInt64) <<< ((1 : Int32) &&& 0x3f).toInt64) + (p1.toInt64)) - ((p2.toInt64) <<< ((5 : Int32) &&& 0x3f).toInt64)) - ((p3.toInt64) <<< ((4 : Int32) &&& 0x3f).toInt64))), .second, .unset, .unset, .unset, .unset, .unset, .unset, .unset, .unset, .unset, .unset, .unset, .unset] []))
  refine own_by (fun _ k => XS.aload X2.here hx rfl (hb hby at_34) rfl rfl k) ?_
  show own_Go p.tables e below s _ _ _ (T2.setTop (mkF m 36 #[.val (.int p0), .val (.int p1), .val (.int p2), .val (.int p3), .val (.int p4), .val (.int p5), .val (.ref b1), .val (.long (((((p0.toInt64) <<< ((1 : Int32) &&& 0x3f).toInt64) + (p1.toInt64)) - ((p2.toInt64) <<< ((5 : Int32) &&& 0x3f).toInt64)) - ((p3.toInt64) <<< ((4 : Int32) &&& 0x3f).toInt64))), .second, .unset, .unset, .unset, .unset, .unset, .unset, .unset, .unset, .unset, .unset, .unset, .unset] [(.ref b1)]))
  obtain ⟨v3, T3, L3, X3, q3, st3⟩ := own_callV X2 hx hZ hown (hw _ (List.mem_of_getElem? (i := 24) rfl)) (hw _ (List.mem_of_getElem? (i := 25) rfl)) (hw _ (List.mem_of_getElem? (i := 27) rfl)) (hw _ (List.mem_of_getElem? (i := 26) rfl)) (hw _ (List.mem_of_getElem? (i := 2) rfl)) (hw _ (List.mem_of_getElem? (i := 28) rfl)) (by decide) (rm4 l Z a0 hw [] b1 T2.heap n0 Z2 p0 p1 p2 p3 Fx2 Fy2 Fz2 Fw2) (W := 0) (by decide) (by decide) rfl A1_h2 (g := (mkF m 36 #[.val (.int p0), .val (.int p1), .val (.int p2), .val (.int p3), .val (.int p4), .val (.int p5), .val (.ref b1), .val (.long (((((p0.toInt64) <<< ((1 : Int32) &&& 0x3f).toInt64) + (p1.toInt64)) - ((p2.toInt64) <<< ((5 : Int32) &&& 0x3f).toInt64)) - ((p3.toInt64) <<< ((4 : Int32) &&& 0x3f).toInt64))), .second, .unset, .unset, .unset, .unset, .unset, .unset, .unset, .unset, .unset, .unset, .unset, .unset] [(.ref b1)])) rfl (by rw [hml]; rfl) (argsL := []) (rest := []) (lenOf pd_4 rfl) rfl rfl (by show 2 * 0 + _ ≤ _; exact Nat.le_of_eq rfl) (hb hby at_36) (by decide) (by decide)
  obtain ⟨rfl, Nq3, hh3⟩ := q3
  have N3 := Fr.app N2 Nq3
  refine own_by st3 ?_
  show own_Go p.tables e below s _ _ _ (T3.setTop (mkF m 39 #[.val (.int p0), .val (.int p1), .val (.int p2), .val (.int p3), .val (.int p4), .val (.int p5), .val (.ref b1), .val (.long (((((p0.toInt64) <<< ((1 : Int32) &&& 0x3f).toInt64) + (p1.toInt64)) - ((p2.toInt64) <<< ((5 : Int32) &&& 0x3f).toInt64)) - ((p3.toInt64) <<< ((4 : Int32) &&& 0x3f).toInt64))), .second, .unset, .unset, .unset, .unset, .unset, .unset, .unset, .unset, .unset, .unset, .unset, .unset] [(.long (own_pts p0 p1 p2 p3))]))
  refine own_by (fun _ k => XS.lload X3.here hx rfl (hb hby at_39) rfl k) ?_
  show own_Go p.tables e below s _ _ _ (T3.setTop (mkF m 41 #[.val (.int p0), .val (.int p1), .val (.int p2), .val (.int p3), .val (.int p4), .val (.int p5), .val (.ref b1), .val (.long (((((p0.toInt64) <<< ((1 : Int32) &&& 0x3f).toInt64) + (p1.toInt64)) - ((p2.toInt64) <<< ((5 : Int32) &&& 0x3f).toInt64)) - ((p3.toInt64) <<< ((4 : Int32) &&& 0x3f).toInt64))), .second, .unset, .unset, .unset, .unset, .unset, .unset, .unset, .unset, .unset, .unset, .unset, .unset] [(.long (((((p0.toInt64) <<< ((1 : Int32) &&& 0x3f).toInt64) + (p1.toInt64)) - ((p2.toInt64) <<< ((5 : Int32) &&& 0x3f).toInt64)) - ((p3.toInt64) <<< ((4 : Int32) &&& 0x3f).toInt64))), (.long (own_pts p0 p1 p2 p3))]))
  refine own_by (fun _ k => XS.lcmp X3.here hx rfl (hb hby at_41) rfl k) ?_
  show own_Go p.tables e below s _ _ _ (T3.setTop (mkF m 42 #[.val (.int p0), .val (.int p1), .val (.int p2), .val (.int p3), .val (.int p4), .val (.int p5), .val (.ref b1), .val (.long (((((p0.toInt64) <<< ((1 : Int32) &&& 0x3f).toInt64) + (p1.toInt64)) - ((p2.toInt64) <<< ((5 : Int32) &&& 0x3f).toInt64)) - ((p3.toInt64) <<< ((4 : Int32) &&& 0x3f).toInt64))), .second, .unset, .unset, .unset, .unset, .unset, .unset, .unset, .unset, .unset, .unset, .unset, .unset] [(.int (lcmpW (own_pts p0 p1 p2 p3) (((((p0.toInt64) <<< ((1 : Int32) &&& 0x3f).toInt64) + (p1.toInt64)) - ((p2.toInt64) <<< ((5 : Int32) &&& 0x3f).toInt64)) - ((p3.toInt64) <<< ((4 : Int32) &&& 0x3f).toInt64))))]))
  refine own_by (fun _ k => XS.ifNo X3.here hx rfl (hb hby at_42) rfl ((if0 _ _).trans (teq (show (lcmpW (own_pts p0 p1 p2 p3) (((((p0.toInt64) <<< ((1 : Int32) &&& 0x3f).toInt64) + (p1.toInt64)) - ((p2.toInt64) <<< ((5 : Int32) &&& 0x3f).toInt64)) - ((p3.toInt64) <<< ((4 : Int32) &&& 0x3f).toInt64))) = (0 : Int32) from (lw_eq _ _).mpr (own_direct _ _ _ _))).2) k) ?_
  show own_Go p.tables e below s _ _ _ (T3.setTop (mkF m 45 #[.val (.int p0), .val (.int p1), .val (.int p2), .val (.int p3), .val (.int p4), .val (.int p5), .val (.ref b1), .val (.long (((((p0.toInt64) <<< ((1 : Int32) &&& 0x3f).toInt64) + (p1.toInt64)) - ((p2.toInt64) <<< ((5 : Int32) &&& 0x3f).toInt64)) - ((p3.toInt64) <<< ((4 : Int32) &&& 0x3f).toInt64))), .second, .unset, .unset, .unset, .unset, .unset, .unset, .unset, .unset, .unset, .unset, .unset, .unset] []))
  refine own_by (fun _ k => XS.iconst X3.here hx rfl (hb hby at_45) k) ?_
  show own_Go p.tables e below s _ _ _ (T3.setTop (mkF m 46 #[.val (.int p0), .val (.int p1), .val (.int p2), .val (.int p3), .val (.int p4), .val (.int p5), .val (.ref b1), .val (.long (((((p0.toInt64) <<< ((1 : Int32) &&& 0x3f).toInt64) + (p1.toInt64)) - ((p2.toInt64) <<< ((5 : Int32) &&& 0x3f).toInt64)) - ((p3.toInt64) <<< ((4 : Int32) &&& 0x3f).toInt64))), .second, .unset, .unset, .unset, .unset, .unset, .unset, .unset, .unset, .unset, .unset, .unset, .unset] [(.int (1 : Int32))]))
  refine own_by (fun _ k => XS.goto X3.here hx rfl (pc0 := 46) (pc' := 50) rfl (hb hby at_46) (by decide) (by decide) k) ?_
  show own_Go p.tables e below s _ _ _ (T3.setTop (mkF m 50 #[.val (.int p0), .val (.int p1), .val (.int p2), .val (.int p3), .val (.int p4), .val (.int p5), .val (.ref b1), .val (.long (((((p0.toInt64) <<< ((1 : Int32) &&& 0x3f).toInt64) + (p1.toInt64)) - ((p2.toInt64) <<< ((5 : Int32) &&& 0x3f).toInt64)) - ((p3.toInt64) <<< ((4 : Int32) &&& 0x3f).toInt64))), .second, .unset, .unset, .unset, .unset, .unset, .unset, .unset, .unset, .unset, .unset, .unset, .unset] [(.int (1 : Int32))]))
  refine own_by (fun _ k => XS.istore X3.here hx rfl (hb hby at_50) rfl (l' := #[.val (.int p0), .val (.int p1), .val (.int p2), .val (.int p3), .val (.int p4), .val (.int p5), .val (.ref b1), .val (.long (((((p0.toInt64) <<< ((1 : Int32) &&& 0x3f).toInt64) + (p1.toInt64)) - ((p2.toInt64) <<< ((5 : Int32) &&& 0x3f).toInt64)) - ((p3.toInt64) <<< ((4 : Int32) &&& 0x3f).toInt64))), .second, .val (.int (1 : Int32)), .unset, .unset, .unset, .unset, .unset, .unset, .unset, .unset, .unset, .unset, .unset]) rfl k) ?_
  show own_Go p.tables e below s _ _ _ (T3.setTop (mkF m 52 #[.val (.int p0), .val (.int p1), .val (.int p2), .val (.int p3), .val (.int p4), .val (.int p5), .val (.ref b1), .val (.long (((((p0.toInt64) <<< ((1 : Int32) &&& 0x3f).toInt64) + (p1.toInt64)) - ((p2.toInt64) <<< ((5 : Int32) &&& 0x3f).toInt64)) - ((p3.toInt64) <<< ((4 : Int32) &&& 0x3f).toInt64))), .second, .val (.int (1 : Int32)), .unset, .unset, .unset, .unset, .unset, .unset, .unset, .unset, .unset, .unset, .unset] []))
  obtain ⟨T4, h4, X4, e4, E4, A4, D4, -, st4⟩ := newO X3 hx hZ hown (hw _ (List.mem_of_getElem? (i := 0) rfl)) (hw _ (List.mem_of_getElem? (i := 1) rfl)) (hw _ (List.mem_of_getElem? (i := 2) rfl)) hh3 (g := (mkF m 52 #[.val (.int p0), .val (.int p1), .val (.int p2), .val (.int p3), .val (.int p4), .val (.int p5), .val (.ref b1), .val (.long (((((p0.toInt64) <<< ((1 : Int32) &&& 0x3f).toInt64) + (p1.toInt64)) - ((p2.toInt64) <<< ((5 : Int32) &&& 0x3f).toInt64)) - ((p3.toInt64) <<< ((4 : Int32) &&& 0x3f).toInt64))), .second, .val (.int (1 : Int32)), .unset, .unset, .unset, .unset, .unset, .unset, .unset, .unset, .unset, .unset, .unset] [])) rfl (hb hby at_52) (by decide) (by decide)
  obtain ⟨b4, g4⟩ : ∃ z, z = T2.heap.size := ⟨_, rfl⟩
  rw [← g4] at A4 D4 st4
  have ge_b4 : n0 ≤ b4 := Nat.le_trans Z2 (Nat.le_of_eq g4.symm)
  have Z4 : n0 ≤ h4.size := Nat.le_trans Z2 E4.1
  have O4 := O2.ext E4
  have F4_correctTrue : Fld Z h4 b4 "com/example/proofhound/proofhound/suite/Score" "correctTrue" "I" (.int (0 : Int32)) := D4 (Or.inr (hw _ (List.mem_of_getElem? (i := 15) rfl))) (ty := .int) (by decide)
  have F4_correctFalse : Fld Z h4 b4 "com/example/proofhound/proofhound/suite/Score" "correctFalse" "I" (.int (0 : Int32)) := D4 (Or.inr (hw _ (List.mem_of_getElem? (i := 17) rfl))) (ty := .int) (by decide)
  have F4_wrongTrue : Fld Z h4 b4 "com/example/proofhound/proofhound/suite/Score" "wrongTrue" "I" (.int (0 : Int32)) := D4 (Or.inr (hw _ (List.mem_of_getElem? (i := 19) rfl))) (ty := .int) (by decide)
  have F4_wrongFalse : Fld Z h4 b4 "com/example/proofhound/proofhound/suite/Score" "wrongFalse" "I" (.int (0 : Int32)) := D4 (Or.inr (hw _ (List.mem_of_getElem? (i := 21) rfl))) (ty := .int) (by decide)
  have F4_unknown : Fld Z h4 b4 "com/example/proofhound/proofhound/suite/Score" "unknown" "I" (.int (0 : Int32)) := D4 (Or.inr (hw _ (List.mem_of_getElem? (i := 23) rfl))) (ty := .int) (by decide)
  refine own_by st4 ?_
  show own_Go p.tables e below s _ _ _ (T4.setTop (mkF m 55 #[.val (.int p0), .val (.int p1), .val (.int p2), .val (.int p3), .val (.int p4), .val (.int p5), .val (.ref b1), .val (.long (((((p0.toInt64) <<< ((1 : Int32) &&& 0x3f).toInt64) + (p1.toInt64)) - ((p2.toInt64) <<< ((5 : Int32) &&& 0x3f).toInt64)) - ((p3.toInt64) <<< ((4 : Int32) &&& 0x3f).toInt64))), .second, .val (.int (1 : Int32)), .unset, .unset, .unset, .unset, .unset, .unset, .unset, .unset, .unset, .unset, .unset] [(.ref b4)]))
  refine own_by (fun _ k => XS.dup X4.here hx rfl (hb hby at_55) rfl rfl k) ?_
  show own_Go p.tables e below s _ _ _ (T4.setTop (mkF m 56 #[.val (.int p0), .val (.int p1), .val (.int p2), .val (.int p3), .val (.int p4), .val (.int p5), .val (.ref b1), .val (.long (((((p0.toInt64) <<< ((1 : Int32) &&& 0x3f).toInt64) + (p1.toInt64)) - ((p2.toInt64) <<< ((5 : Int32) &&& 0x3f).toInt64)) - ((p3.toInt64) <<< ((4 : Int32) &&& 0x3f).toInt64))), .second, .val (.int (1 : Int32)), .unset, .unset, .unset, .unset, .unset, .unset, .unset, .unset, .unset, .unset, .unset] [(.ref b4), (.ref b4)]))
  refine own_by (fun _ k => XS.iloadN X4.here hx rfl (hb hby at_56) rfl k) ?_
  show own_Go p.tables e below s _ _ _ (T4.setTop (mkF m 57 #[.val (.int p0), .val (.int p1), .val (.int p2), .val (.int p3), .val (.int p4), .val (.int p5), .val (.ref b1), .val (.long (((((p0.toInt64) <<< ((1 : Int32) &&& 0x3f).toInt64) + (p1.toInt64)) - ((p2.toInt64) <<< ((5 : Int32) &&& 0x3f).toInt64)) - ((p3.toInt64) <<< ((4 : Int32) &&& 0x3f).toInt64))), .second, .val (.int (1 : Int32)), .unset, .unset, .unset, .unset, .unset, .unset, .unset, .unset, .unset, .unset, .unset] [(.int p0), (.ref b4), (.ref b4)]))
  obtain ⟨v5, T5, L5, X5, q5, st5⟩ := own_callS X4 hx hZ hown (hw _ (List.mem_of_getElem? (i := 32) rfl)) (hw _ (List.mem_of_getElem? (i := 33) rfl)) (hw _ (List.mem_of_getElem? (i := 34) rfl)) (hw _ (List.mem_of_getElem? (i := 35) rfl)) (by decide) (rm5 l Z a0 hw [] p0 h4 n0 Z4) (W := 2) (by decide) (by decide) e4 (g := (mkF m 57 #[.val (.int p0), .val (.int p1), .val (.int p2), .val (.int p3), .val (.int p4), .val (.int p5), .val (.ref b1), .val (.long (((((p0.toInt64) <<< ((1 : Int32) &&& 0x3f).toInt64) + (p1.toInt64)) - ((p2.toInt64) <<< ((5 : Int32) &&& 0x3f).toInt64)) - ((p3.toInt64) <<< ((4 : Int32) &&& 0x3f).toInt64))), .second, .val (.int (1 : Int32)), .unset, .unset, .unset, .unset, .unset, .unset, .unset, .unset, .unset, .unset, .unset] [(.int p0), (.ref b4), (.ref b4)])) rfl (by rw [hml]; rfl) (argsL := [(.int p0)]) (rest := [(.ref b4), (.ref b4)]) (lenOf pd_5 rfl) rfl rfl (by show 2 * 0 + _ ≤ _; exact Nat.le_of_eq rfl) (hb hby at_57) (by decide) (by decide)
  obtain ⟨rfl, Nq5, hh5⟩ := q5
  have N5 := Fr.app N3 Nq5
  refine own_by st5 ?_
  show own_Go p.tables e below s _ _ _ (T5.setTop (mkF m 60 #[.val (.int p0), .val (.int p1), .val (.int p2), .val (.int p3), .val (.int p4), .val (.int p5), .val (.ref b1), .val (.long (((((p0.toInt64) <<< ((1 : Int32) &&& 0x3f).toInt64) + (p1.toInt64)) - ((p2.toInt64) <<< ((5 : Int32) &&& 0x3f).toInt64)) - ((p3.toInt64) <<< ((4 : Int32) &&& 0x3f).toInt64))), .second, .val (.int (1 : Int32)), .unset, .unset, .unset, .unset, .unset, .unset, .unset, .unset, .unset, .unset, .unset] [(.int (own_clamp p0)), (.ref b4), (.ref b4)]))
  refine own_by (fun _ k => XS.iloadN X5.here hx rfl (hb hby at_60) rfl k) ?_
  show own_Go p.tables e below s _ _ _ (T5.setTop (mkF m 61 #[.val (.int p0), .val (.int p1), .val (.int p2), .val (.int p3), .val (.int p4), .val (.int p5), .val (.ref b1), .val (.long (((((p0.toInt64) <<< ((1 : Int32) &&& 0x3f).toInt64) + (p1.toInt64)) - ((p2.toInt64) <<< ((5 : Int32) &&& 0x3f).toInt64)) - ((p3.toInt64) <<< ((4 : Int32) &&& 0x3f).toInt64))), .second, .val (.int (1 : Int32)), .unset, .unset, .unset, .unset, .unset, .unset, .unset, .unset, .unset, .unset, .unset] [(.int p1), (.int (own_clamp p0)), (.ref b4), (.ref b4)]))
  obtain ⟨v6, T6, L6, X6, q6, st6⟩ := own_callS X5 hx hZ hown (hw _ (List.mem_of_getElem? (i := 32) rfl)) (hw _ (List.mem_of_getElem? (i := 33) rfl)) (hw _ (List.mem_of_getElem? (i := 34) rfl)) (hw _ (List.mem_of_getElem? (i := 35) rfl)) (by decide) (rm5 l Z a0 hw [] p1 h4 n0 Z4) (W := 3) (by decide) (by decide) hh5 (g := (mkF m 61 #[.val (.int p0), .val (.int p1), .val (.int p2), .val (.int p3), .val (.int p4), .val (.int p5), .val (.ref b1), .val (.long (((((p0.toInt64) <<< ((1 : Int32) &&& 0x3f).toInt64) + (p1.toInt64)) - ((p2.toInt64) <<< ((5 : Int32) &&& 0x3f).toInt64)) - ((p3.toInt64) <<< ((4 : Int32) &&& 0x3f).toInt64))), .second, .val (.int (1 : Int32)), .unset, .unset, .unset, .unset, .unset, .unset, .unset, .unset, .unset, .unset, .unset] [(.int p1), (.int (own_clamp p0)), (.ref b4), (.ref b4)])) rfl (by rw [hml]; rfl) (argsL := [(.int p1)]) (rest := [(.int (own_clamp p0)), (.ref b4), (.ref b4)]) (lenOf pd_5 rfl) rfl rfl (by show 2 * 0 + _ ≤ _; exact Nat.le_of_eq rfl) (hb hby at_61) (by decide) (by decide)
  obtain ⟨rfl, Nq6, hh6⟩ := q6
  have N6 := Fr.app N5 Nq6
  refine own_by st6 ?_
  show own_Go p.tables e below s _ _ _ (T6.setTop (mkF m 64 #[.val (.int p0), .val (.int p1), .val (.int p2), .val (.int p3), .val (.int p4), .val (.int p5), .val (.ref b1), .val (.long (((((p0.toInt64) <<< ((1 : Int32) &&& 0x3f).toInt64) + (p1.toInt64)) - ((p2.toInt64) <<< ((5 : Int32) &&& 0x3f).toInt64)) - ((p3.toInt64) <<< ((4 : Int32) &&& 0x3f).toInt64))), .second, .val (.int (1 : Int32)), .unset, .unset, .unset, .unset, .unset, .unset, .unset, .unset, .unset, .unset, .unset] [(.int (own_clamp p1)), (.int (own_clamp p0)), (.ref b4), (.ref b4)]))
  refine own_by (fun _ k => XS.iloadN X6.here hx rfl (hb hby at_64) rfl k) ?_
  show own_Go p.tables e below s _ _ _ (T6.setTop (mkF m 65 #[.val (.int p0), .val (.int p1), .val (.int p2), .val (.int p3), .val (.int p4), .val (.int p5), .val (.ref b1), .val (.long (((((p0.toInt64) <<< ((1 : Int32) &&& 0x3f).toInt64) + (p1.toInt64)) - ((p2.toInt64) <<< ((5 : Int32) &&& 0x3f).toInt64)) - ((p3.toInt64) <<< ((4 : Int32) &&& 0x3f).toInt64))), .second, .val (.int (1 : Int32)), .unset, .unset, .unset, .unset, .unset, .unset, .unset, .unset, .unset, .unset, .unset] [(.int p2), (.int (own_clamp p1)), (.int (own_clamp p0)), (.ref b4), (.ref b4)]))
  obtain ⟨v7, T7, L7, X7, q7, st7⟩ := own_callS X6 hx hZ hown (hw _ (List.mem_of_getElem? (i := 32) rfl)) (hw _ (List.mem_of_getElem? (i := 33) rfl)) (hw _ (List.mem_of_getElem? (i := 34) rfl)) (hw _ (List.mem_of_getElem? (i := 35) rfl)) (by decide) (rm5 l Z a0 hw [] p2 h4 n0 Z4) (W := 4) (by decide) (by decide) hh6 (g := (mkF m 65 #[.val (.int p0), .val (.int p1), .val (.int p2), .val (.int p3), .val (.int p4), .val (.int p5), .val (.ref b1), .val (.long (((((p0.toInt64) <<< ((1 : Int32) &&& 0x3f).toInt64) + (p1.toInt64)) - ((p2.toInt64) <<< ((5 : Int32) &&& 0x3f).toInt64)) - ((p3.toInt64) <<< ((4 : Int32) &&& 0x3f).toInt64))), .second, .val (.int (1 : Int32)), .unset, .unset, .unset, .unset, .unset, .unset, .unset, .unset, .unset, .unset, .unset] [(.int p2), (.int (own_clamp p1)), (.int (own_clamp p0)), (.ref b4), (.ref b4)])) rfl (by rw [hml]; rfl) (argsL := [(.int p2)]) (rest := [(.int (own_clamp p1)), (.int (own_clamp p0)), (.ref b4), (.ref b4)]) (lenOf pd_5 rfl) rfl rfl (by show 2 * 0 + _ ≤ _; exact Nat.le_of_eq rfl) (hb hby at_65) (by decide) (by decide)
  obtain ⟨rfl, Nq7, hh7⟩ := q7
  have N7 := Fr.app N6 Nq7
  refine own_by st7 ?_
  show own_Go p.tables e below s _ _ _ (T7.setTop (mkF m 68 #[.val (.int p0), .val (.int p1), .val (.int p2), .val (.int p3), .val (.int p4), .val (.int p5), .val (.ref b1), .val (.long (((((p0.toInt64) <<< ((1 : Int32) &&& 0x3f).toInt64) + (p1.toInt64)) - ((p2.toInt64) <<< ((5 : Int32) &&& 0x3f).toInt64)) - ((p3.toInt64) <<< ((4 : Int32) &&& 0x3f).toInt64))), .second, .val (.int (1 : Int32)), .unset, .unset, .unset, .unset, .unset, .unset, .unset, .unset, .unset, .unset, .unset] [(.int (own_clamp p2)), (.int (own_clamp p1)), (.int (own_clamp p0)), (.ref b4), (.ref b4)]))
  refine own_by (fun _ k => XS.iloadN X7.here hx rfl (hb hby at_68) rfl k) ?_
  show own_Go p.tables e below s _ _ _ (T7.setTop (mkF m 69 #[.val (.int p0), .val (.int p1), .val (.int p2), .val (.int p3), .val (.int p4), .val (.int p5), .val (.ref b1), .val (.long (((((p0.toInt64) <<< ((1 : Int32) &&& 0x3f).toInt64) + (p1.toInt64)) - ((p2.toInt64) <<< ((5 : Int32) &&& 0x3f).toInt64)) - ((p3.toInt64) <<< ((4 : Int32) &&& 0x3f).toInt64))), .second, .val (.int (1 : Int32)), .unset, .unset, .unset, .unset, .unset, .unset, .unset, .unset, .unset, .unset, .unset] [(.int p3), (.int (own_clamp p2)), (.int (own_clamp p1)), (.int (own_clamp p0)), (.ref b4), (.ref b4)]))
  obtain ⟨v8, T8, L8, X8, q8, st8⟩ := own_callS X7 hx hZ hown (hw _ (List.mem_of_getElem? (i := 32) rfl)) (hw _ (List.mem_of_getElem? (i := 33) rfl)) (hw _ (List.mem_of_getElem? (i := 34) rfl)) (hw _ (List.mem_of_getElem? (i := 35) rfl)) (by decide) (rm5 l Z a0 hw [] p3 h4 n0 Z4) (W := 5) (by decide) (by decide) hh7 (g := (mkF m 69 #[.val (.int p0), .val (.int p1), .val (.int p2), .val (.int p3), .val (.int p4), .val (.int p5), .val (.ref b1), .val (.long (((((p0.toInt64) <<< ((1 : Int32) &&& 0x3f).toInt64) + (p1.toInt64)) - ((p2.toInt64) <<< ((5 : Int32) &&& 0x3f).toInt64)) - ((p3.toInt64) <<< ((4 : Int32) &&& 0x3f).toInt64))), .second, .val (.int (1 : Int32)), .unset, .unset, .unset, .unset, .unset, .unset, .unset, .unset, .unset, .unset, .unset] [(.int p3), (.int (own_clamp p2)), (.int (own_clamp p1)), (.int (own_clamp p0)), (.ref b4), (.ref b4)])) rfl (by rw [hml]; rfl) (argsL := [(.int p3)]) (rest := [(.int (own_clamp p2)), (.int (own_clamp p1)), (.int (own_clamp p0)), (.ref b4), (.ref b4)]) (lenOf pd_5 rfl) rfl rfl (by show 2 * 0 + _ ≤ _; exact Nat.le_of_eq rfl) (hb hby at_69) (by decide) (by decide)
  obtain ⟨rfl, Nq8, hh8⟩ := q8
  have N8 := Fr.app N7 Nq8
  refine own_by st8 ?_
  show own_Go p.tables e below s _ _ _ (T8.setTop (mkF m 72 #[.val (.int p0), .val (.int p1), .val (.int p2), .val (.int p3), .val (.int p4), .val (.int p5), .val (.ref b1), .val (.long (((((p0.toInt64) <<< ((1 : Int32) &&& 0x3f).toInt64) + (p1.toInt64)) - ((p2.toInt64) <<< ((5 : Int32) &&& 0x3f).toInt64)) - ((p3.toInt64) <<< ((4 : Int32) &&& 0x3f).toInt64))), .second, .val (.int (1 : Int32)), .unset, .unset, .unset, .unset, .unset, .unset, .unset, .unset, .unset, .unset, .unset] [(.int (own_clamp p3)), (.int (own_clamp p2)), (.int (own_clamp p1)), (.int (own_clamp p0)), (.ref b4), (.ref b4)]))
  refine own_by (fun _ k => XS.iload X8.here hx rfl (hb hby at_72) rfl k) ?_
  show own_Go p.tables e below s _ _ _ (T8.setTop (mkF m 74 #[.val (.int p0), .val (.int p1), .val (.int p2), .val (.int p3), .val (.int p4), .val (.int p5), .val (.ref b1), .val (.long (((((p0.toInt64) <<< ((1 : Int32) &&& 0x3f).toInt64) + (p1.toInt64)) - ((p2.toInt64) <<< ((5 : Int32) &&& 0x3f).toInt64)) - ((p3.toInt64) <<< ((4 : Int32) &&& 0x3f).toInt64))), .second, .val (.int (1 : Int32)), .unset, .unset, .unset, .unset, .unset, .unset, .unset, .unset, .unset, .unset, .unset] [(.int p4), (.int (own_clamp p3)), (.int (own_clamp p2)), (.int (own_clamp p1)), (.int (own_clamp p0)), (.ref b4), (.ref b4)]))
  obtain ⟨v9, T9, L9, X9, q9, st9⟩ := own_callS X8 hx hZ hown (hw _ (List.mem_of_getElem? (i := 32) rfl)) (hw _ (List.mem_of_getElem? (i := 33) rfl)) (hw _ (List.mem_of_getElem? (i := 34) rfl)) (hw _ (List.mem_of_getElem? (i := 35) rfl)) (by decide) (rm5 l Z a0 hw [] p4 h4 n0 Z4) (W := 6) (by decide) (by decide) hh8 (g := (mkF m 74 #[.val (.int p0), .val (.int p1), .val (.int p2), .val (.int p3), .val (.int p4), .val (.int p5), .val (.ref b1), .val (.long (((((p0.toInt64) <<< ((1 : Int32) &&& 0x3f).toInt64) + (p1.toInt64)) - ((p2.toInt64) <<< ((5 : Int32) &&& 0x3f).toInt64)) - ((p3.toInt64) <<< ((4 : Int32) &&& 0x3f).toInt64))), .second, .val (.int (1 : Int32)), .unset, .unset, .unset, .unset, .unset, .unset, .unset, .unset, .unset, .unset, .unset] [(.int p4), (.int (own_clamp p3)), (.int (own_clamp p2)), (.int (own_clamp p1)), (.int (own_clamp p0)), (.ref b4), (.ref b4)])) rfl (by rw [hml]; rfl) (argsL := [(.int p4)]) (rest := [(.int (own_clamp p3)), (.int (own_clamp p2)), (.int (own_clamp p1)), (.int (own_clamp p0)), (.ref b4), (.ref b4)]) (lenOf pd_5 rfl) rfl rfl (by show 2 * 0 + _ ≤ _; exact Nat.le_of_eq rfl) (hb hby at_74) (by decide) (by decide)
  obtain ⟨rfl, Nq9, hh9⟩ := q9
  have N9 := Fr.app N8 Nq9
  refine own_by st9 ?_
  show own_Go p.tables e below s _ _ _ (T9.setTop (mkF m 77 #[.val (.int p0), .val (.int p1), .val (.int p2), .val (.int p3), .val (.int p4), .val (.int p5), .val (.ref b1), .val (.long (((((p0.toInt64) <<< ((1 : Int32) &&& 0x3f).toInt64) + (p1.toInt64)) - ((p2.toInt64) <<< ((5 : Int32) &&& 0x3f).toInt64)) - ((p3.toInt64) <<< ((4 : Int32) &&& 0x3f).toInt64))), .second, .val (.int (1 : Int32)), .unset, .unset, .unset, .unset, .unset, .unset, .unset, .unset, .unset, .unset, .unset] [(.int (own_clamp p4)), (.int (own_clamp p3)), (.int (own_clamp p2)), (.int (own_clamp p1)), (.int (own_clamp p0)), (.ref b4), (.ref b4)]))
  obtain ⟨v10, T10, L10, X10, q10, st10⟩ := own_callI X9 hx hZ rfl hown (hw _ (List.mem_of_getElem? (i := 3) rfl)) (hw _ (List.mem_of_getElem? (i := 4) rfl)) (hw _ (List.mem_of_getElem? (i := 2) rfl)) (hw _ (List.mem_of_getElem? (i := 5) rfl)) (by decide) (rm1 l Z a0 hw [] b4 (own_clamp p0) (own_clamp p1) (own_clamp p2) (own_clamp p3) (own_clamp p4) h4 n0 Z4 A4 F4_correctTrue F4_correctFalse F4_wrongTrue F4_wrongFalse F4_unknown ge_b4) (W := 1) (by decide) (by decide) hh9 (g := (mkF m 77 #[.val (.int p0), .val (.int p1), .val (.int p2), .val (.int p3), .val (.int p4), .val (.int p5), .val (.ref b1), .val (.long (((((p0.toInt64) <<< ((1 : Int32) &&& 0x3f).toInt64) + (p1.toInt64)) - ((p2.toInt64) <<< ((5 : Int32) &&& 0x3f).toInt64)) - ((p3.toInt64) <<< ((4 : Int32) &&& 0x3f).toInt64))), .second, .val (.int (1 : Int32)), .unset, .unset, .unset, .unset, .unset, .unset, .unset, .unset, .unset, .unset, .unset] [(.int (own_clamp p4)), (.int (own_clamp p3)), (.int (own_clamp p2)), (.int (own_clamp p1)), (.int (own_clamp p0)), (.ref b4), (.ref b4)])) rfl (by rw [hml]; rfl) (a := b4) (argsL := [(.int (own_clamp p0)), (.int (own_clamp p1)), (.int (own_clamp p2)), (.int (own_clamp p3)), (.int (own_clamp p4))]) (rest := [(.ref b4)]) (lenOf pd_1 rfl) rfl rfl (by show 2 * 0 + _ ≤ _; exact Nat.le_of_eq rfl) (hb hby at_77) (by decide) (by decide)
  obtain ⟨rfl, Nq10, Kq10, Fx10, Fy10, Fz10, Fw10, Fu10⟩ := q10
  have N10 := Fr.app N9 Nq10
  have Z10 : n0 ≤ T10.heap.size := Nat.le_trans Z4 Kq10.1
  have O10 := O4.keep Kq10 (allS ge_b4 all0)
  have A4_h10 := A4.keep Kq10
  refine own_by st10 ?_
  show own_Go p.tables e below s _ _ _ (T10.setTop (mkF m 80 #[.val (.int p0), .val (.int p1), .val (.int p2), .val (.int p3), .val (.int p4), .val (.int p5), .val (.ref b1), .val (.long (((((p0.toInt64) <<< ((1 : Int32) &&& 0x3f).toInt64) + (p1.toInt64)) - ((p2.toInt64) <<< ((5 : Int32) &&& 0x3f).toInt64)) - ((p3.toInt64) <<< ((4 : Int32) &&& 0x3f).toInt64))), .second, .val (.int (1 : Int32)), .unset, .unset, .unset, .unset, .unset, .unset, .unset, .unset, .unset, .unset, .unset] [(.ref b4)]))
  refine own_by (fun _ k => XS.astore X10.here hx rfl (hb hby at_80) rfl rfl (l' := #[.val (.int p0), .val (.int p1), .val (.int p2), .val (.int p3), .val (.int p4), .val (.int p5), .val (.ref b1), .val (.long (((((p0.toInt64) <<< ((1 : Int32) &&& 0x3f).toInt64) + (p1.toInt64)) - ((p2.toInt64) <<< ((5 : Int32) &&& 0x3f).toInt64)) - ((p3.toInt64) <<< ((4 : Int32) &&& 0x3f).toInt64))), .second, .val (.int (1 : Int32)), .val (.ref b4), .unset, .unset, .unset, .unset, .unset, .unset, .unset, .unset, .unset, .unset]) rfl k) ?_
  show own_Go p.tables e below s _ _ _ (T10.setTop (mkF m 82 #[.val (.int p0), .val (.int p1), .val (.int p2), .val (.int p3), .val (.int p4), .val (.int p5), .val (.ref b1), .val (.long (((((p0.toInt64) <<< ((1 : Int32) &&& 0x3f).toInt64) + (p1.toInt64)) - ((p2.toInt64) <<< ((5 : Int32) &&& 0x3f).toInt64)) - ((p3.toInt64) <<< ((4 : Int32) &&& 0x3f).toInt64))), .second, .val (.int (1 : Int32)), .val (.ref b4), .unset, .unset, .unset, .unset, .unset, .unset, .unset, .unset, .unset, .unset] []))
  refine own_by (fun _ k => XS.iload X10.here hx rfl (hb hby at_82) rfl k) ?_
  show own_Go p.tables e below s _ _ _ (T10.setTop (mkF m 84 #[.val (.int p0), .val (.int p1), .val (.int p2), .val (.int p3), .val (.int p4), .val (.int p5), .val (.ref b1), .val (.long (((((p0.toInt64) <<< ((1 : Int32) &&& 0x3f).toInt64) + (p1.toInt64)) - ((p2.toInt64) <<< ((5 : Int32) &&& 0x3f).toInt64)) - ((p3.toInt64) <<< ((4 : Int32) &&& 0x3f).toInt64))), .second, .val (.int (1 : Int32)), .val (.ref b4), .unset, .unset, .unset, .unset, .unset, .unset, .unset, .unset, .unset, .unset] [(.int p5)]))
  refine own_by (fun _ k => XS.iconst X10.here hx rfl (hb hby at_84) k) ?_
  show own_Go p.tables e below s _ _ _ (T10.setTop (mkF m 85 #[.val (.int p0), .val (.int p1), .val (.int p2), .val (.int p3), .val (.int p4), .val (.int p5), .val (.ref b1), .val (.long (((((p0.toInt64) <<< ((1 : Int32) &&& 0x3f).toInt64) + (p1.toInt64)) - ((p2.toInt64) <<< ((5 : Int32) &&& 0x3f).toInt64)) - ((p3.toInt64) <<< ((4 : Int32) &&& 0x3f).toInt64))), .second, .val (.int (1 : Int32)), .val (.ref b4), .unset, .unset, .unset, .unset, .unset, .unset, .unset, .unset, .unset, .unset] [(.int (1 : Int32)), (.int p5)]))
  refine own_by (fun _ k => XS.iand X10.here hx rfl (hb hby at_85) rfl k) ?_
  show own_Go p.tables e below s _ _ _ (T10.setTop (mkF m 86 #[.val (.int p0), .val (.int p1), .val (.int p2), .val (.int p3), .val (.int p4), .val (.int p5), .val (.ref b1), .val (.long (((((p0.toInt64) <<< ((1 : Int32) &&& 0x3f).toInt64) + (p1.toInt64)) - ((p2.toInt64) <<< ((5 : Int32) &&& 0x3f).toInt64)) - ((p3.toInt64) <<< ((4 : Int32) &&& 0x3f).toInt64))), .second, .val (.int (1 : Int32)), .val (.ref b4), .unset, .unset, .unset, .unset, .unset, .unset, .unset, .unset, .unset, .unset] [(.int (p5 &&& (1 : Int32)))]))
  by_cases hc86_11 : (p5 &&& (1 : Int32)) = (0 : Int32)
  · refine own_by (fun _ k => XS.ifNo X10.here hx rfl (hb hby at_86) rfl ((if0 _ _).trans (teq hc86_11).2) k) ?_
    show own_Go p.tables e below s _ _ _ (T10.setTop (mkF m 89 #[.val (.int p0), .val (.int p1), .val (.int p2), .val (.int p3), .val (.int p4), .val (.int p5), .val (.ref b1), .val (.long (((((p0.toInt64) <<< ((1 : Int32) &&& 0x3f).toInt64) + (p1.toInt64)) - ((p2.toInt64) <<< ((5 : Int32) &&& 0x3f).toInt64)) - ((p3.toInt64) <<< ((4 : Int32) &&& 0x3f).toInt64))), .second, .val (.int (1 : Int32)), .val (.ref b4), .unset, .unset, .unset, .unset, .unset, .unset, .unset, .unset, .unset, .unset] []))
    refine own_by (fun _ k => XS.iconst X10.here hx rfl (hb hby at_89) k) ?_
    show own_Go p.tables e below s _ _ _ (T10.setTop (mkF m 90 #[.val (.int p0), .val (.int p1), .val (.int p2), .val (.int p3), .val (.int p4), .val (.int p5), .val (.ref b1), .val (.long (((((p0.toInt64) <<< ((1 : Int32) &&& 0x3f).toInt64) + (p1.toInt64)) - ((p2.toInt64) <<< ((5 : Int32) &&& 0x3f).toInt64)) - ((p3.toInt64) <<< ((4 : Int32) &&& 0x3f).toInt64))), .second, .val (.int (1 : Int32)), .val (.ref b4), .unset, .unset, .unset, .unset, .unset, .unset, .unset, .unset, .unset, .unset] [(.int (1 : Int32))]))
    refine own_by (fun _ k => XS.goto X10.here hx rfl (pc0 := 90) (pc' := 94) rfl (hb hby at_90) (by decide) (by decide) k) ?_
    show own_Go p.tables e below s _ _ _ (T10.setTop (mkF m 94 #[.val (.int p0), .val (.int p1), .val (.int p2), .val (.int p3), .val (.int p4), .val (.int p5), .val (.ref b1), .val (.long (((((p0.toInt64) <<< ((1 : Int32) &&& 0x3f).toInt64) + (p1.toInt64)) - ((p2.toInt64) <<< ((5 : Int32) &&& 0x3f).toInt64)) - ((p3.toInt64) <<< ((4 : Int32) &&& 0x3f).toInt64))), .second, .val (.int (1 : Int32)), .val (.ref b4), .unset, .unset, .unset, .unset, .unset, .unset, .unset, .unset, .unset, .unset] [(.int (1 : Int32))]))
    refine own_by (fun _ k => XS.istore X10.here hx rfl (hb hby at_94) rfl (l' := #[.val (.int p0), .val (.int p1), .val (.int p2), .val (.int p3), .val (.int p4), .val (.int p5), .val (.ref b1), .val (.long (((((p0.toInt64) <<< ((1 : Int32) &&& 0x3f).toInt64) + (p1.toInt64)) - ((p2.toInt64) <<< ((5 : Int32) &&& 0x3f).toInt64)) - ((p3.toInt64) <<< ((4 : Int32) &&& 0x3f).toInt64))), .second, .val (.int (1 : Int32)), .val (.ref b4), .val (.int (1 : Int32)), .unset, .unset, .unset, .unset, .unset, .unset, .unset, .unset, .unset]) rfl k) ?_
    show own_Go p.tables e below s _ _ _ (T10.setTop (mkF m 96 #[.val (.int p0), .val (.int p1), .val (.int p2), .val (.int p3), .val (.int p4), .val (.int p5), .val (.ref b1), .val (.long (((((p0.toInt64) <<< ((1 : Int32) &&& 0x3f).toInt64) + (p1.toInt64)) - ((p2.toInt64) <<< ((5 : Int32) &&& 0x3f).toInt64)) - ((p3.toInt64) <<< ((4 : Int32) &&& 0x3f).toInt64))), .second, .val (.int (1 : Int32)), .val (.ref b4), .val (.int (1 : Int32)), .unset, .unset, .unset, .unset, .unset, .unset, .unset, .unset, .unset] []))
    refine own_by (fun _ k => XS.iload X10.here hx rfl (hb hby at_96) rfl k) ?_
    show own_Go p.tables e below s _ _ _ (T10.setTop (mkF m 98 #[.val (.int p0), .val (.int p1), .val (.int p2), .val (.int p3), .val (.int p4), .val (.int p5), .val (.ref b1), .val (.long (((((p0.toInt64) <<< ((1 : Int32) &&& 0x3f).toInt64) + (p1.toInt64)) - ((p2.toInt64) <<< ((5 : Int32) &&& 0x3f).toInt64)) - ((p3.toInt64) <<< ((4 : Int32) &&& 0x3f).toInt64))), .second, .val (.int (1 : Int32)), .val (.ref b4), .val (.int (1 : Int32)), .unset, .unset, .unset, .unset, .unset, .unset, .unset, .unset, .unset] [(.int p5)]))
    refine own_by (fun _ k => XS.iconst X10.here hx rfl (hb hby at_98) k) ?_
    show own_Go p.tables e below s _ _ _ (T10.setTop (mkF m 99 #[.val (.int p0), .val (.int p1), .val (.int p2), .val (.int p3), .val (.int p4), .val (.int p5), .val (.ref b1), .val (.long (((((p0.toInt64) <<< ((1 : Int32) &&& 0x3f).toInt64) + (p1.toInt64)) - ((p2.toInt64) <<< ((5 : Int32) &&& 0x3f).toInt64)) - ((p3.toInt64) <<< ((4 : Int32) &&& 0x3f).toInt64))), .second, .val (.int (1 : Int32)), .val (.ref b4), .val (.int (1 : Int32)), .unset, .unset, .unset, .unset, .unset, .unset, .unset, .unset, .unset] [(.int (1 : Int32)), (.int p5)]))
    refine own_by (fun _ k => XS.iushr X10.here hx rfl (hb hby at_99) rfl k) ?_
    show own_Go p.tables e below s _ _ _ (T10.setTop (mkF m 100 #[.val (.int p0), .val (.int p1), .val (.int p2), .val (.int p3), .val (.int p4), .val (.int p5), .val (.ref b1), .val (.long (((((p0.toInt64) <<< ((1 : Int32) &&& 0x3f).toInt64) + (p1.toInt64)) - ((p2.toInt64) <<< ((5 : Int32) &&& 0x3f).toInt64)) - ((p3.toInt64) <<< ((4 : Int32) &&& 0x3f).toInt64))), .second, .val (.int (1 : Int32)), .val (.ref b4), .val (.int (1 : Int32)), .unset, .unset, .unset, .unset, .unset, .unset, .unset, .unset, .unset] [(.int (own_sri p5 (1 : Int32)))]))
    refine own_by (fun _ k => XS.iconst X10.here hx rfl (hb hby at_100) k) ?_
    show own_Go p.tables e below s _ _ _ (T10.setTop (mkF m 101 #[.val (.int p0), .val (.int p1), .val (.int p2), .val (.int p3), .val (.int p4), .val (.int p5), .val (.ref b1), .val (.long (((((p0.toInt64) <<< ((1 : Int32) &&& 0x3f).toInt64) + (p1.toInt64)) - ((p2.toInt64) <<< ((5 : Int32) &&& 0x3f).toInt64)) - ((p3.toInt64) <<< ((4 : Int32) &&& 0x3f).toInt64))), .second, .val (.int (1 : Int32)), .val (.ref b4), .val (.int (1 : Int32)), .unset, .unset, .unset, .unset, .unset, .unset, .unset, .unset, .unset] [(.int (3 : Int32)), (.int (own_sri p5 (1 : Int32)))]))
    refine own_by (fun _ k => XS.irem X10.here hx rfl (hb hby at_101) rfl (by decide) k) ?_
    show own_Go p.tables e below s _ _ _ (T10.setTop (mkF m 102 #[.val (.int p0), .val (.int p1), .val (.int p2), .val (.int p3), .val (.int p4), .val (.int p5), .val (.ref b1), .val (.long (((((p0.toInt64) <<< ((1 : Int32) &&& 0x3f).toInt64) + (p1.toInt64)) - ((p2.toInt64) <<< ((5 : Int32) &&& 0x3f).toInt64)) - ((p3.toInt64) <<< ((4 : Int32) &&& 0x3f).toInt64))), .second, .val (.int (1 : Int32)), .val (.ref b4), .val (.int (1 : Int32)), .unset, .unset, .unset, .unset, .unset, .unset, .unset, .unset, .unset] [(.int ((own_sri p5 (1 : Int32)) - ((own_sri p5 (1 : Int32)) / (3 : Int32)) * (3 : Int32)))]))
    refine own_by (fun _ k => XS.istore X10.here hx rfl (hb hby at_102) rfl (l' := #[.val (.int p0), .val (.int p1), .val (.int p2), .val (.int p3), .val (.int p4), .val (.int p5), .val (.ref b1), .val (.long (((((p0.toInt64) <<< ((1 : Int32) &&& 0x3f).toInt64) + (p1.toInt64)) - ((p2.toInt64) <<< ((5 : Int32) &&& 0x3f).toInt64)) - ((p3.toInt64) <<< ((4 : Int32) &&& 0x3f).toInt64))), .second, .val (.int (1 : Int32)), .val (.ref b4), .val (.int (1 : Int32)), .val (.int ((own_sri p5 (1 : Int32)) - ((own_sri p5 (1 : Int32)) / (3 : Int32)) * (3 : Int32))), .unset, .unset, .unset, .unset, .unset, .unset, .unset, .unset]) rfl k) ?_
    show own_Go p.tables e below s _ _ _ (T10.setTop (mkF m 104 #[.val (.int p0), .val (.int p1), .val (.int p2), .val (.int p3), .val (.int p4), .val (.int p5), .val (.ref b1), .val (.long (((((p0.toInt64) <<< ((1 : Int32) &&& 0x3f).toInt64) + (p1.toInt64)) - ((p2.toInt64) <<< ((5 : Int32) &&& 0x3f).toInt64)) - ((p3.toInt64) <<< ((4 : Int32) &&& 0x3f).toInt64))), .second, .val (.int (1 : Int32)), .val (.ref b4), .val (.int (1 : Int32)), .val (.int ((own_sri p5 (1 : Int32)) - ((own_sri p5 (1 : Int32)) / (3 : Int32)) * (3 : Int32))), .unset, .unset, .unset, .unset, .unset, .unset, .unset, .unset] []))
    refine own_by (fun _ k => XS.iload X10.here hx rfl (hb hby at_104) rfl k) ?_
    show own_Go p.tables e below s _ _ _ (T10.setTop (mkF m 106 #[.val (.int p0), .val (.int p1), .val (.int p2), .val (.int p3), .val (.int p4), .val (.int p5), .val (.ref b1), .val (.long (((((p0.toInt64) <<< ((1 : Int32) &&& 0x3f).toInt64) + (p1.toInt64)) - ((p2.toInt64) <<< ((5 : Int32) &&& 0x3f).toInt64)) - ((p3.toInt64) <<< ((4 : Int32) &&& 0x3f).toInt64))), .second, .val (.int (1 : Int32)), .val (.ref b4), .val (.int (1 : Int32)), .val (.int ((own_sri p5 (1 : Int32)) - ((own_sri p5 (1 : Int32)) / (3 : Int32)) * (3 : Int32))), .unset, .unset, .unset, .unset, .unset, .unset, .unset, .unset] [(.int (1 : Int32))]))
    refine own_by (fun _ k => XS.ifNo X10.here hx rfl (hb hby at_106) rfl ((if0 _ _).trans (feq (by decide : ¬ ((1 : Int32) = (0 : Int32)))).1) k) ?_
    show own_Go p.tables e below s _ _ _ (T10.setTop (mkF m 109 #[.val (.int p0), .val (.int p1), .val (.int p2), .val (.int p3), .val (.int p4), .val (.int p5), .val (.ref b1), .val (.long (((((p0.toInt64) <<< ((1 : Int32) &&& 0x3f).toInt64) + (p1.toInt64)) - ((p2.toInt64) <<< ((5 : Int32) &&& 0x3f).toInt64)) - ((p3.toInt64) <<< ((4 : Int32) &&& 0x3f).toInt64))), .second, .val (.int (1 : Int32)), .val (.ref b4), .val (.int (1 : Int32)), .val (.int ((own_sri p5 (1 : Int32)) - ((own_sri p5 (1 : Int32)) / (3 : Int32)) * (3 : Int32))), .unset, .unset, .unset, .unset, .unset, .unset, .unset, .unset] []))
    obtain ⟨T12, X12, e12, st12⟩ := getS2 X10 hx hZ hown (host := "") (Or.inl (hw _ (List.mem_of_getElem? (i := 61) rfl))) Via.refl rfl (STRUE.ext O10.2) (g := (mkF m 109 #[.val (.int p0), .val (.int p1), .val (.int p2), .val (.int p3), .val (.int p4), .val (.int p5), .val (.ref b1), .val (.long (((((p0.toInt64) <<< ((1 : Int32) &&& 0x3f).toInt64) + (p1.toInt64)) - ((p2.toInt64) <<< ((5 : Int32) &&& 0x3f).toInt64)) - ((p3.toInt64) <<< ((4 : Int32) &&& 0x3f).toInt64))), .second, .val (.int (1 : Int32)), .val (.ref b4), .val (.int (1 : Int32)), .val (.int ((own_sri p5 (1 : Int32)) - ((own_sri p5 (1 : Int32)) / (3 : Int32)) * (3 : Int32))), .unset, .unset, .unset, .unset, .unset, .unset, .unset, .unset] [])) rfl (hb hby at_109)
    refine own_by st12 ?_
    show own_Go p.tables e below s _ _ _ (T12.setTop (mkF m 112 #[.val (.int p0), .val (.int p1), .val (.int p2), .val (.int p3), .val (.int p4), .val (.int p5), .val (.ref b1), .val (.long (((((p0.toInt64) <<< ((1 : Int32) &&& 0x3f).toInt64) + (p1.toInt64)) - ((p2.toInt64) <<< ((5 : Int32) &&& 0x3f).toInt64)) - ((p3.toInt64) <<< ((4 : Int32) &&& 0x3f).toInt64))), .second, .val (.int (1 : Int32)), .val (.ref b4), .val (.int (1 : Int32)), .val (.int ((own_sri p5 (1 : Int32)) - ((own_sri p5 (1 : Int32)) / (3 : Int32)) * (3 : Int32))), .unset, .unset, .unset, .unset, .unset, .unset, .unset, .unset] [(.ref vT)]))
    refine own_by (fun _ k => XS.goto X12.here hx rfl (pc0 := 112) (pc' := 118) rfl (hb hby at_112) (by decide) (by decide) k) ?_
    show own_Go p.tables e below s _ _ _ (T12.setTop (mkF m 118 #[.val (.int p0), .val (.int p1), .val (.int p2), .val (.int p3), .val (.int p4), .val (.int p5), .val (.ref b1), .val (.long (((((p0.toInt64) <<< ((1 : Int32) &&& 0x3f).toInt64) + (p1.toInt64)) - ((p2.toInt64) <<< ((5 : Int32) &&& 0x3f).toInt64)) - ((p3.toInt64) <<< ((4 : Int32) &&& 0x3f).toInt64))), .second, .val (.int (1 : Int32)), .val (.ref b4), .val (.int (1 : Int32)), .val (.int ((own_sri p5 (1 : Int32)) - ((own_sri p5 (1 : Int32)) / (3 : Int32)) * (3 : Int32))), .unset, .unset, .unset, .unset, .unset, .unset, .unset, .unset] [(.ref vT)]))
    refine own_by (fun _ k => XS.astore X12.here hx rfl (hb hby at_118) rfl rfl (l' := #[.val (.int p0), .val (.int p1), .val (.int p2), .val (.int p3), .val (.int p4), .val (.int p5), .val (.ref b1), .val (.long (((((p0.toInt64) <<< ((1 : Int32) &&& 0x3f).toInt64) + (p1.toInt64)) - ((p2.toInt64) <<< ((5 : Int32) &&& 0x3f).toInt64)) - ((p3.toInt64) <<< ((4 : Int32) &&& 0x3f).toInt64))), .second, .val (.int (1 : Int32)), .val (.ref b4), .val (.int (1 : Int32)), .val (.int ((own_sri p5 (1 : Int32)) - ((own_sri p5 (1 : Int32)) / (3 : Int32)) * (3 : Int32))), .val (.ref vT), .unset, .unset, .unset, .unset, .unset, .unset, .unset]) rfl k) ?_
    show own_Go p.tables e below s _ _ _ (T12.setTop (mkF m 120 #[.val (.int p0), .val (.int p1), .val (.int p2), .val (.int p3), .val (.int p4), .val (.int p5), .val (.ref b1), .val (.long (((((p0.toInt64) <<< ((1 : Int32) &&& 0x3f).toInt64) + (p1.toInt64)) - ((p2.toInt64) <<< ((5 : Int32) &&& 0x3f).toInt64)) - ((p3.toInt64) <<< ((4 : Int32) &&& 0x3f).toInt64))), .second, .val (.int (1 : Int32)), .val (.ref b4), .val (.int (1 : Int32)), .val (.int ((own_sri p5 (1 : Int32)) - ((own_sri p5 (1 : Int32)) / (3 : Int32)) * (3 : Int32))), .val (.ref vT), .unset, .unset, .unset, .unset, .unset, .unset, .unset] []))
    refine own_by (fun _ k => XS.iload X12.here hx rfl (hb hby at_120) rfl k) ?_
    show own_Go p.tables e below s _ _ _ (T12.setTop (mkF m 122 #[.val (.int p0), .val (.int p1), .val (.int p2), .val (.int p3), .val (.int p4), .val (.int p5), .val (.ref b1), .val (.long (((((p0.toInt64) <<< ((1 : Int32) &&& 0x3f).toInt64) + (p1.toInt64)) - ((p2.toInt64) <<< ((5 : Int32) &&& 0x3f).toInt64)) - ((p3.toInt64) <<< ((4 : Int32) &&& 0x3f).toInt64))), .second, .val (.int (1 : Int32)), .val (.ref b4), .val (.int (1 : Int32)), .val (.int ((own_sri p5 (1 : Int32)) - ((own_sri p5 (1 : Int32)) / (3 : Int32)) * (3 : Int32))), .val (.ref vT), .unset, .unset, .unset, .unset, .unset, .unset, .unset] [(.int ((own_sri p5 (1 : Int32)) - ((own_sri p5 (1 : Int32)) / (3 : Int32)) * (3 : Int32)))]))
    obtain ⟨v13, T13, L13, X13, q13, st13⟩ := own_callS X12 hx hZ hown (hw _ (List.mem_of_getElem? (i := 44) rfl)) (hw _ (List.mem_of_getElem? (i := 45) rfl)) (hw _ (List.mem_of_getElem? (i := 34) rfl)) (hw _ (List.mem_of_getElem? (i := 46) rfl)) (by decide) (rm7 l Z a0 hw [] ((own_sri p5 (1 : Int32)) - ((own_sri p5 (1 : Int32)) / (3 : Int32)) * (3 : Int32)) T10.heap n0 Z10 vT vF vU (STRUE.ext O10.2) (SFALSE.ext O10.2) (SUNKNOWN.ext O10.2)) (W := 0) (by decide) (by decide) e12 (g := (mkF m 122 #[.val (.int p0), .val (.int p1), .val (.int p2), .val (.int p3), .val (.int p4), .val (.int p5), .val (.ref b1), .val (.long (((((p0.toInt64) <<< ((1 : Int32) &&& 0x3f).toInt64) + (p1.toInt64)) - ((p2.toInt64) <<< ((5 : Int32) &&& 0x3f).toInt64)) - ((p3.toInt64) <<< ((4 : Int32) &&& 0x3f).toInt64))), .second, .val (.int (1 : Int32)), .val (.ref b4), .val (.int (1 : Int32)), .val (.int ((own_sri p5 (1 : Int32)) - ((own_sri p5 (1 : Int32)) / (3 : Int32)) * (3 : Int32))), .val (.ref vT), .unset, .unset, .unset, .unset, .unset, .unset, .unset] [(.int ((own_sri p5 (1 : Int32)) - ((own_sri p5 (1 : Int32)) / (3 : Int32)) * (3 : Int32)))])) rfl (by rw [hml]; rfl) (argsL := [(.int ((own_sri p5 (1 : Int32)) - ((own_sri p5 (1 : Int32)) / (3 : Int32)) * (3 : Int32)))]) (rest := []) (lenOf pd_7 rfl) rfl rfl (by show 2 * 0 + _ ≤ _; exact Nat.le_of_eq rfl) (hb hby at_122) (by decide) (by decide)
    obtain ⟨rfl, Nq13, hh13⟩ := q13
    have N13 := Fr.app N10 Nq13
    refine own_by st13 ?_
    show own_Go p.tables e below s _ _ _ (T13.setTop (mkF m 125 #[.val (.int p0), .val (.int p1), .val (.int p2), .val (.int p3), .val (.int p4), .val (.int p5), .val (.ref b1), .val (.long (((((p0.toInt64) <<< ((1 : Int32) &&& 0x3f).toInt64) + (p1.toInt64)) - ((p2.toInt64) <<< ((5 : Int32) &&& 0x3f).toInt64)) - ((p3.toInt64) <<< ((4 : Int32) &&& 0x3f).toInt64))), .second, .val (.int (1 : Int32)), .val (.ref b4), .val (.int (1 : Int32)), .val (.int ((own_sri p5 (1 : Int32)) - ((own_sri p5 (1 : Int32)) / (3 : Int32)) * (3 : Int32))), .val (.ref vT), .unset, .unset, .unset, .unset, .unset, .unset, .unset] [(.ref (own_of ((own_sri p5 (1 : Int32)) - ((own_sri p5 (1 : Int32)) / (3 : Int32)) * (3 : Int32)) vT vF vU))]))
    refine own_by (fun _ k => XS.astore X13.here hx rfl (hb hby at_125) rfl rfl (l' := #[.val (.int p0), .val (.int p1), .val (.int p2), .val (.int p3), .val (.int p4), .val (.int p5), .val (.ref b1), .val (.long (((((p0.toInt64) <<< ((1 : Int32) &&& 0x3f).toInt64) + (p1.toInt64)) - ((p2.toInt64) <<< ((5 : Int32) &&& 0x3f).toInt64)) - ((p3.toInt64) <<< ((4 : Int32) &&& 0x3f).toInt64))), .second, .val (.int (1 : Int32)), .val (.ref b4), .val (.int (1 : Int32)), .val (.int ((own_sri p5 (1 : Int32)) - ((own_sri p5 (1 : Int32)) / (3 : Int32)) * (3 : Int32))), .val (.ref vT), .val (.ref (own_of ((own_sri p5 (1 : Int32)) - ((own_sri p5 (1 : Int32)) / (3 : Int32)) * (3 : Int32)) vT vF vU)), .unset, .unset, .unset, .unset, .unset, .unset]) rfl k) ?_
    show own_Go p.tables e below s _ _ _ (T13.setTop (mkF m 127 #[.val (.int p0), .val (.int p1), .val (.int p2), .val (.int p3), .val (.int p4), .val (.int p5), .val (.ref b1), .val (.long (((((p0.toInt64) <<< ((1 : Int32) &&& 0x3f).toInt64) + (p1.toInt64)) - ((p2.toInt64) <<< ((5 : Int32) &&& 0x3f).toInt64)) - ((p3.toInt64) <<< ((4 : Int32) &&& 0x3f).toInt64))), .second, .val (.int (1 : Int32)), .val (.ref b4), .val (.int (1 : Int32)), .val (.int ((own_sri p5 (1 : Int32)) - ((own_sri p5 (1 : Int32)) / (3 : Int32)) * (3 : Int32))), .val (.ref vT), .val (.ref (own_of ((own_sri p5 (1 : Int32)) - ((own_sri p5 (1 : Int32)) / (3 : Int32)) * (3 : Int32)) vT vF vU)), .unset, .unset, .unset, .unset, .unset, .unset] []))
    refine own_by (fun _ k => XS.aload X13.here hx rfl (hb hby at_127) rfl rfl k) ?_
    show own_Go p.tables e below s _ _ _ (T13.setTop (mkF m 129 #[.val (.int p0), .val (.int p1), .val (.int p2), .val (.int p3), .val (.int p4), .val (.int p5), .val (.ref b1), .val (.long (((((p0.toInt64) <<< ((1 : Int32) &&& 0x3f).toInt64) + (p1.toInt64)) - ((p2.toInt64) <<< ((5 : Int32) &&& 0x3f).toInt64)) - ((p3.toInt64) <<< ((4 : Int32) &&& 0x3f).toInt64))), .second, .val (.int (1 : Int32)), .val (.ref b4), .val (.int (1 : Int32)), .val (.int ((own_sri p5 (1 : Int32)) - ((own_sri p5 (1 : Int32)) / (3 : Int32)) * (3 : Int32))), .val (.ref vT), .val (.ref (own_of ((own_sri p5 (1 : Int32)) - ((own_sri p5 (1 : Int32)) / (3 : Int32)) * (3 : Int32)) vT vF vU)), .unset, .unset, .unset, .unset, .unset, .unset] [(.ref b4)]))
    obtain ⟨v14, T14, L14, X14, q14, st14⟩ := own_callV X13 hx hZ hown (hw _ (List.mem_of_getElem? (i := 24) rfl)) (hw _ (List.mem_of_getElem? (i := 25) rfl)) (hw _ (List.mem_of_getElem? (i := 27) rfl)) (hw _ (List.mem_of_getElem? (i := 26) rfl)) (hw _ (List.mem_of_getElem? (i := 2) rfl)) (hw _ (List.mem_of_getElem? (i := 28) rfl)) (by decide) (rm4 l Z a0 hw [] b4 T10.heap n0 Z10 (own_clamp p0) (own_clamp p1) (own_clamp p2) (own_clamp p3) Fx10 Fy10 Fz10 Fw10) (W := 0) (by decide) (by decide) hh13 A4_h10 (g := (mkF m 129 #[.val (.int p0), .val (.int p1), .val (.int p2), .val (.int p3), .val (.int p4), .val (.int p5), .val (.ref b1), .val (.long (((((p0.toInt64) <<< ((1 : Int32) &&& 0x3f).toInt64) + (p1.toInt64)) - ((p2.toInt64) <<< ((5 : Int32) &&& 0x3f).toInt64)) - ((p3.toInt64) <<< ((4 : Int32) &&& 0x3f).toInt64))), .second, .val (.int (1 : Int32)), .val (.ref b4), .val (.int (1 : Int32)), .val (.int ((own_sri p5 (1 : Int32)) - ((own_sri p5 (1 : Int32)) / (3 : Int32)) * (3 : Int32))), .val (.ref vT), .val (.ref (own_of ((own_sri p5 (1 : Int32)) - ((own_sri p5 (1 : Int32)) / (3 : Int32)) * (3 : Int32)) vT vF vU)), .unset, .unset, .unset, .unset, .unset, .unset] [(.ref b4)])) rfl (by rw [hml]; rfl) (argsL := []) (rest := []) (lenOf pd_4 rfl) rfl rfl (by show 2 * 0 + _ ≤ _; exact Nat.le_of_eq rfl) (hb hby at_129) (by decide) (by decide)
    obtain ⟨rfl, Nq14, hh14⟩ := q14
    have N14 := Fr.app N13 Nq14
    refine own_by st14 ?_
    show own_Go p.tables e below s _ _ _ (T14.setTop (mkF m 132 #[.val (.int p0), .val (.int p1), .val (.int p2), .val (.int p3), .val (.int p4), .val (.int p5), .val (.ref b1), .val (.long (((((p0.toInt64) <<< ((1 : Int32) &&& 0x3f).toInt64) + (p1.toInt64)) - ((p2.toInt64) <<< ((5 : Int32) &&& 0x3f).toInt64)) - ((p3.toInt64) <<< ((4 : Int32) &&& 0x3f).toInt64))), .second, .val (.int (1 : Int32)), .val (.ref b4), .val (.int (1 : Int32)), .val (.int ((own_sri p5 (1 : Int32)) - ((own_sri p5 (1 : Int32)) / (3 : Int32)) * (3 : Int32))), .val (.ref vT), .val (.ref (own_of ((own_sri p5 (1 : Int32)) - ((own_sri p5 (1 : Int32)) / (3 : Int32)) * (3 : Int32)) vT vF vU)), .unset, .unset, .unset, .unset, .unset, .unset] [(.long (own_pts (own_clamp p0) (own_clamp p1) (own_clamp p2) (own_clamp p3)))]))
    refine own_by (fun _ k => XS.lstore X14.here hx rfl (hb hby at_132) rfl (l' := #[.val (.int p0), .val (.int p1), .val (.int p2), .val (.int p3), .val (.int p4), .val (.int p5), .val (.ref b1), .val (.long (((((p0.toInt64) <<< ((1 : Int32) &&& 0x3f).toInt64) + (p1.toInt64)) - ((p2.toInt64) <<< ((5 : Int32) &&& 0x3f).toInt64)) - ((p3.toInt64) <<< ((4 : Int32) &&& 0x3f).toInt64))), .second, .val (.int (1 : Int32)), .val (.ref b4), .val (.int (1 : Int32)), .val (.int ((own_sri p5 (1 : Int32)) - ((own_sri p5 (1 : Int32)) / (3 : Int32)) * (3 : Int32))), .val (.ref vT), .val (.ref (own_of ((own_sri p5 (1 : Int32)) - ((own_sri p5 (1 : Int32)) / (3 : Int32)) * (3 : Int32)) vT vF vU)), .val (.long (own_pts (own_clamp p0) (own_clamp p1) (own_clamp p2) (own_clamp p3))), .second, .unset, .unset, .unset, .unset]) rfl k) ?_
    show own_Go p.tables e below s _ _ _ (T14.setTop (mkF m 134 #[.val (.int p0), .val (.int p1), .val (.int p2), .val (.int p3), .val (.int p4), .val (.int p5), .val (.ref b1), .val (.long (((((p0.toInt64) <<< ((1 : Int32) &&& 0x3f).toInt64) + (p1.toInt64)) - ((p2.toInt64) <<< ((5 : Int32) &&& 0x3f).toInt64)) - ((p3.toInt64) <<< ((4 : Int32) &&& 0x3f).toInt64))), .second, .val (.int (1 : Int32)), .val (.ref b4), .val (.int (1 : Int32)), .val (.int ((own_sri p5 (1 : Int32)) - ((own_sri p5 (1 : Int32)) / (3 : Int32)) * (3 : Int32))), .val (.ref vT), .val (.ref (own_of ((own_sri p5 (1 : Int32)) - ((own_sri p5 (1 : Int32)) / (3 : Int32)) * (3 : Int32)) vT vF vU)), .val (.long (own_pts (own_clamp p0) (own_clamp p1) (own_clamp p2) (own_clamp p3))), .second, .unset, .unset, .unset, .unset] []))
    refine own_by (fun _ k => XS.aload X14.here hx rfl (hb hby at_134) rfl rfl k) ?_
    show own_Go p.tables e below s _ _ _ (T14.setTop (mkF m 136 #[.val (.int p0), .val (.int p1), .val (.int p2), .val (.int p3), .val (.int p4), .val (.int p5), .val (.ref b1), .val (.long (((((p0.toInt64) <<< ((1 : Int32) &&& 0x3f).toInt64) + (p1.toInt64)) - ((p2.toInt64) <<< ((5 : Int32) &&& 0x3f).toInt64)) - ((p3.toInt64) <<< ((4 : Int32) &&& 0x3f).toInt64))), .second, .val (.int (1 : Int32)), .val (.ref b4), .val (.int (1 : Int32)), .val (.int ((own_sri p5 (1 : Int32)) - ((own_sri p5 (1 : Int32)) / (3 : Int32)) * (3 : Int32))), .val (.ref vT), .val (.ref (own_of ((own_sri p5 (1 : Int32)) - ((own_sri p5 (1 : Int32)) / (3 : Int32)) * (3 : Int32)) vT vF vU)), .val (.long (own_pts (own_clamp p0) (own_clamp p1) (own_clamp p2) (own_clamp p3))), .second, .unset, .unset, .unset, .unset] [(.ref b4)]))
    refine own_by (fun _ k => XS.aload X14.here hx rfl (hb hby at_136) rfl rfl k) ?_
    show own_Go p.tables e below s _ _ _ (T14.setTop (mkF m 138 #[.val (.int p0), .val (.int p1), .val (.int p2), .val (.int p3), .val (.int p4), .val (.int p5), .val (.ref b1), .val (.long (((((p0.toInt64) <<< ((1 : Int32) &&& 0x3f).toInt64) + (p1.toInt64)) - ((p2.toInt64) <<< ((5 : Int32) &&& 0x3f).toInt64)) - ((p3.toInt64) <<< ((4 : Int32) &&& 0x3f).toInt64))), .second, .val (.int (1 : Int32)), .val (.ref b4), .val (.int (1 : Int32)), .val (.int ((own_sri p5 (1 : Int32)) - ((own_sri p5 (1 : Int32)) / (3 : Int32)) * (3 : Int32))), .val (.ref vT), .val (.ref (own_of ((own_sri p5 (1 : Int32)) - ((own_sri p5 (1 : Int32)) / (3 : Int32)) * (3 : Int32)) vT vF vU)), .val (.long (own_pts (own_clamp p0) (own_clamp p1) (own_clamp p2) (own_clamp p3))), .second, .unset, .unset, .unset, .unset] [(.ref vT), (.ref b4)]))
    refine own_by (fun _ k => XS.aload X14.here hx rfl (hb hby at_138) rfl rfl k) ?_
    show own_Go p.tables e below s _ _ _ (T14.setTop (mkF m 140 #[.val (.int p0), .val (.int p1), .val (.int p2), .val (.int p3), .val (.int p4), .val (.int p5), .val (.ref b1), .val (.long (((((p0.toInt64) <<< ((1 : Int32) &&& 0x3f).toInt64) + (p1.toInt64)) - ((p2.toInt64) <<< ((5 : Int32) &&& 0x3f).toInt64)) - ((p3.toInt64) <<< ((4 : Int32) &&& 0x3f).toInt64))), .second, .val (.int (1 : Int32)), .val (.ref b4), .val (.int (1 : Int32)), .val (.int ((own_sri p5 (1 : Int32)) - ((own_sri p5 (1 : Int32)) / (3 : Int32)) * (3 : Int32))), .val (.ref vT), .val (.ref (own_of ((own_sri p5 (1 : Int32)) - ((own_sri p5 (1 : Int32)) / (3 : Int32)) * (3 : Int32)) vT vF vU)), .val (.long (own_pts (own_clamp p0) (own_clamp p1) (own_clamp p2) (own_clamp p3))), .second, .unset, .unset, .unset, .unset] [(.ref (own_of ((own_sri p5 (1 : Int32)) - ((own_sri p5 (1 : Int32)) / (3 : Int32)) * (3 : Int32)) vT vF vU)), (.ref vT), (.ref b4)]))
    obtain ⟨v15, T15, L15, X15, q15, st15⟩ := own_callV X14 hx hZ hown (hw _ (List.mem_of_getElem? (i := 47) rfl)) (hw _ (List.mem_of_getElem? (i := 48) rfl)) (hw _ (List.mem_of_getElem? (i := 50) rfl)) (hw _ (List.mem_of_getElem? (i := 49) rfl)) (hw _ (List.mem_of_getElem? (i := 2) rfl)) (hw _ (List.mem_of_getElem? (i := 51) rfl)) (by decide) (rm8 l Z a0 hw [] b4 vT (own_of ((own_sri p5 (1 : Int32)) - ((own_sri p5 (1 : Int32)) / (3 : Int32)) * (3 : Int32)) vT vF vU) T10.heap n0 Z10 vT vU (STRUE.ext O10.2) (SUNKNOWN.ext O10.2) nTU (own_clamp p0) (own_clamp p1) (own_clamp p2) (own_clamp p3) (own_clamp p4) A4_h10 Fx10 Fy10 Fz10 Fw10 Fu10 ge_b4) (W := 0) (by decide) (by decide) hh14 A4_h10 (g := (mkF m 140 #[.val (.int p0), .val (.int p1), .val (.int p2), .val (.int p3), .val (.int p4), .val (.int p5), .val (.ref b1), .val (.long (((((p0.toInt64) <<< ((1 : Int32) &&& 0x3f).toInt64) + (p1.toInt64)) - ((p2.toInt64) <<< ((5 : Int32) &&& 0x3f).toInt64)) - ((p3.toInt64) <<< ((4 : Int32) &&& 0x3f).toInt64))), .second, .val (.int (1 : Int32)), .val (.ref b4), .val (.int (1 : Int32)), .val (.int ((own_sri p5 (1 : Int32)) - ((own_sri p5 (1 : Int32)) / (3 : Int32)) * (3 : Int32))), .val (.ref vT), .val (.ref (own_of ((own_sri p5 (1 : Int32)) - ((own_sri p5 (1 : Int32)) / (3 : Int32)) * (3 : Int32)) vT vF vU)), .val (.long (own_pts (own_clamp p0) (own_clamp p1) (own_clamp p2) (own_clamp p3))), .second, .unset, .unset, .unset, .unset] [(.ref (own_of ((own_sri p5 (1 : Int32)) - ((own_sri p5 (1 : Int32)) / (3 : Int32)) * (3 : Int32)) vT vF vU)), (.ref vT), (.ref b4)])) rfl (by rw [hml]; rfl) (argsL := [(.ref vT), (.ref (own_of ((own_sri p5 (1 : Int32)) - ((own_sri p5 (1 : Int32)) / (3 : Int32)) * (3 : Int32)) vT vF vU))]) (rest := []) (lenOf pd_8 rfl) rfl rfl (by show 2 * 0 + _ ≤ _; exact Nat.le_of_eq rfl) (hb hby at_140) (by decide) (by decide)
    obtain ⟨r15, xa15, xb15, xc15, xd15, rfl, Nq15, Kq15, gr15, Er15, Fx15, Fy15, Fz15, Fw15, Step15⟩ := q15
    have N15 := Fr.app N14 Nq15
    have Z15 : n0 ≤ T15.heap.size := Nat.le_trans Z10 Kq15.1
    have O15 := O10.keep Kq15 all0
    have A4_h15 := A4_h10.keep Kq15
    have Fx10_h15 := Fx10.keep Kq15 nin0
    have Fy10_h15 := Fy10.keep Kq15 nin0
    have Fz10_h15 := Fz10.keep Kq15 nin0
    have Fw10_h15 := Fw10.keep Kq15 nin0
    have Fu10_h15 := Fu10.keep Kq15 nin0
    refine own_by st15 ?_
    show own_Go p.tables e below s _ _ _ (T15.setTop (mkF m 143 #[.val (.int p0), .val (.int p1), .val (.int p2), .val (.int p3), .val (.int p4), .val (.int p5), .val (.ref b1), .val (.long (((((p0.toInt64) <<< ((1 : Int32) &&& 0x3f).toInt64) + (p1.toInt64)) - ((p2.toInt64) <<< ((5 : Int32) &&& 0x3f).toInt64)) - ((p3.toInt64) <<< ((4 : Int32) &&& 0x3f).toInt64))), .second, .val (.int (1 : Int32)), .val (.ref b4), .val (.int (1 : Int32)), .val (.int ((own_sri p5 (1 : Int32)) - ((own_sri p5 (1 : Int32)) / (3 : Int32)) * (3 : Int32))), .val (.ref vT), .val (.ref (own_of ((own_sri p5 (1 : Int32)) - ((own_sri p5 (1 : Int32)) / (3 : Int32)) * (3 : Int32)) vT vF vU)), .val (.long (own_pts (own_clamp p0) (own_clamp p1) (own_clamp p2) (own_clamp p3))), .second, .unset, .unset, .unset, .unset] [(.ref r15)]))
    refine own_by (fun _ k => XS.astore X15.here hx rfl (hb hby at_143) rfl rfl (l' := #[.val (.int p0), .val (.int p1), .val (.int p2), .val (.int p3), .val (.int p4), .val (.int p5), .val (.ref b1), .val (.long (((((p0.toInt64) <<< ((1 : Int32) &&& 0x3f).toInt64) + (p1.toInt64)) - ((p2.toInt64) <<< ((5 : Int32) &&& 0x3f).toInt64)) - ((p3.toInt64) <<< ((4 : Int32) &&& 0x3f).toInt64))), .second, .val (.int (1 : Int32)), .val (.ref b4), .val (.int (1 : Int32)), .val (.int ((own_sri p5 (1 : Int32)) - ((own_sri p5 (1 : Int32)) / (3 : Int32)) * (3 : Int32))), .val (.ref vT), .val (.ref (own_of ((own_sri p5 (1 : Int32)) - ((own_sri p5 (1 : Int32)) / (3 : Int32)) * (3 : Int32)) vT vF vU)), .val (.long (own_pts (own_clamp p0) (own_clamp p1) (own_clamp p2) (own_clamp p3))), .second, .val (.ref r15), .unset, .unset, .unset]) rfl k) ?_
    show own_Go p.tables e below s _ _ _ (T15.setTop (mkF m 145 #[.val (.int p0), .val (.int p1), .val (.int p2), .val (.int p3), .val (.int p4), .val (.int p5), .val (.ref b1), .val (.long (((((p0.toInt64) <<< ((1 : Int32) &&& 0x3f).toInt64) + (p1.toInt64)) - ((p2.toInt64) <<< ((5 : Int32) &&& 0x3f).toInt64)) - ((p3.toInt64) <<< ((4 : Int32) &&& 0x3f).toInt64))), .second, .val (.int (1 : Int32)), .val (.ref b4), .val (.int (1 : Int32)), .val (.int ((own_sri p5 (1 : Int32)) - ((own_sri p5 (1 : Int32)) / (3 : Int32)) * (3 : Int32))), .val (.ref vT), .val (.ref (own_of ((own_sri p5 (1 : Int32)) - ((own_sri p5 (1 : Int32)) / (3 : Int32)) * (3 : Int32)) vT vF vU)), .val (.long (own_pts (own_clamp p0) (own_clamp p1) (own_clamp p2) (own_clamp p3))), .second, .val (.ref r15), .unset, .unset, .unset] []))
    refine own_by (fun _ k => XS.aload X15.here hx rfl (hb hby at_145) rfl rfl k) ?_
    show own_Go p.tables e below s _ _ _ (T15.setTop (mkF m 147 #[.val (.int p0), .val (.int p1), .val (.int p2), .val (.int p3), .val (.int p4), .val (.int p5), .val (.ref b1), .val (.long (((((p0.toInt64) <<< ((1 : Int32) &&& 0x3f).toInt64) + (p1.toInt64)) - ((p2.toInt64) <<< ((5 : Int32) &&& 0x3f).toInt64)) - ((p3.toInt64) <<< ((4 : Int32) &&& 0x3f).toInt64))), .second, .val (.int (1 : Int32)), .val (.ref b4), .val (.int (1 : Int32)), .val (.int ((own_sri p5 (1 : Int32)) - ((own_sri p5 (1 : Int32)) / (3 : Int32)) * (3 : Int32))), .val (.ref vT), .val (.ref (own_of ((own_sri p5 (1 : Int32)) - ((own_sri p5 (1 : Int32)) / (3 : Int32)) * (3 : Int32)) vT vF vU)), .val (.long (own_pts (own_clamp p0) (own_clamp p1) (own_clamp p2) (own_clamp p3))), .second, .val (.ref r15), .unset, .unset, .unset] [(.ref r15)]))
    obtain ⟨v16, T16, L16, X16, q16, st16⟩ := own_callV X15 hx hZ hown (hw _ (List.mem_of_getElem? (i := 24) rfl)) (hw _ (List.mem_of_getElem? (i := 25) rfl)) (hw _ (List.mem_of_getElem? (i := 27) rfl)) (hw _ (List.mem_of_getElem? (i := 26) rfl)) (hw _ (List.mem_of_getElem? (i := 2) rfl)) (hw _ (List.mem_of_getElem? (i := 28) rfl)) (by decide) (rm4 l Z a0 hw [] r15 T15.heap n0 Z15 xa15 xb15 xc15 xd15 Fx15 Fy15 Fz15 Fw15) (W := 0) (by decide) (by decide) rfl Er15 (g := (mkF m 147 #[.val (.int p0), .val (.int p1), .val (.int p2), .val (.int p3), .val (.int p4), .val (.int p5), .val (.ref b1), .val (.long (((((p0.toInt64) <<< ((1 : Int32) &&& 0x3f).toInt64) + (p1.toInt64)) - ((p2.toInt64) <<< ((5 : Int32) &&& 0x3f).toInt64)) - ((p3.toInt64) <<< ((4 : Int32) &&& 0x3f).toInt64))), .second, .val (.int (1 : Int32)), .val (.ref b4), .val (.int (1 : Int32)), .val (.int ((own_sri p5 (1 : Int32)) - ((own_sri p5 (1 : Int32)) / (3 : Int32)) * (3 : Int32))), .val (.ref vT), .val (.ref (own_of ((own_sri p5 (1 : Int32)) - ((own_sri p5 (1 : Int32)) / (3 : Int32)) * (3 : Int32)) vT vF vU)), .val (.long (own_pts (own_clamp p0) (own_clamp p1) (own_clamp p2) (own_clamp p3))), .second, .val (.ref r15), .unset, .unset, .unset] [(.ref r15)])) rfl (by rw [hml]; rfl) (argsL := []) (rest := []) (lenOf pd_4 rfl) rfl rfl (by show 2 * 0 + _ ≤ _; exact Nat.le_of_eq rfl) (hb hby at_147) (by decide) (by decide)
    obtain ⟨rfl, Nq16, hh16⟩ := q16
    have N16 := Fr.app N15 Nq16
    refine own_by st16 ?_
    show own_Go p.tables e below s _ _ _ (T16.setTop (mkF m 150 #[.val (.int p0), .val (.int p1), .val (.int p2), .val (.int p3), .val (.int p4), .val (.int p5), .val (.ref b1), .val (.long (((((p0.toInt64) <<< ((1 : Int32) &&& 0x3f).toInt64) + (p1.toInt64)) - ((p2.toInt64) <<< ((5 : Int32) &&& 0x3f).toInt64)) - ((p3.toInt64) <<< ((4 : Int32) &&& 0x3f).toInt64))), .second, .val (.int (1 : Int32)), .val (.ref b4), .val (.int (1 : Int32)), .val (.int ((own_sri p5 (1 : Int32)) - ((own_sri p5 (1 : Int32)) / (3 : Int32)) * (3 : Int32))), .val (.ref vT), .val (.ref (own_of ((own_sri p5 (1 : Int32)) - ((own_sri p5 (1 : Int32)) / (3 : Int32)) * (3 : Int32)) vT vF vU)), .val (.long (own_pts (own_clamp p0) (own_clamp p1) (own_clamp p2) (own_clamp p3))), .second, .val (.ref r15), .unset, .unset, .unset] [(.long (own_pts xa15 xb15 xc15 xd15))]))
    refine own_by (fun _ k => XS.lstore X16.here hx rfl (hb hby at_150) rfl (l' := #[.val (.int p0), .val (.int p1), .val (.int p2), .val (.int p3), .val (.int p4), .val (.int p5), .val (.ref b1), .val (.long (((((p0.toInt64) <<< ((1 : Int32) &&& 0x3f).toInt64) + (p1.toInt64)) - ((p2.toInt64) <<< ((5 : Int32) &&& 0x3f).toInt64)) - ((p3.toInt64) <<< ((4 : Int32) &&& 0x3f).toInt64))), .second, .val (.int (1 : Int32)), .val (.ref b4), .val (.int (1 : Int32)), .val (.int ((own_sri p5 (1 : Int32)) - ((own_sri p5 (1 : Int32)) / (3 : Int32)) * (3 : Int32))), .val (.ref vT), .val (.ref (own_of ((own_sri p5 (1 : Int32)) - ((own_sri p5 (1 : Int32)) / (3 : Int32)) * (3 : Int32)) vT vF vU)), .val (.long (own_pts (own_clamp p0) (own_clamp p1) (own_clamp p2) (own_clamp p3))), .second, .val (.ref r15), .val (.long (own_pts xa15 xb15 xc15 xd15)), .second, .unset]) rfl k) ?_
    show own_Go p.tables e below s _ _ _ (T16.setTop (mkF m 152 #[.val (.int p0), .val (.int p1), .val (.int p2), .val (.int p3), .val (.int p4), .val (.int p5), .val (.ref b1), .val (.long (((((p0.toInt64) <<< ((1 : Int32) &&& 0x3f).toInt64) + (p1.toInt64)) - ((p2.toInt64) <<< ((5 : Int32) &&& 0x3f).toInt64)) - ((p3.toInt64) <<< ((4 : Int32) &&& 0x3f).toInt64))), .second, .val (.int (1 : Int32)), .val (.ref b4), .val (.int (1 : Int32)), .val (.int ((own_sri p5 (1 : Int32)) - ((own_sri p5 (1 : Int32)) / (3 : Int32)) * (3 : Int32))), .val (.ref vT), .val (.ref (own_of ((own_sri p5 (1 : Int32)) - ((own_sri p5 (1 : Int32)) / (3 : Int32)) * (3 : Int32)) vT vF vU)), .val (.long (own_pts (own_clamp p0) (own_clamp p1) (own_clamp p2) (own_clamp p3))), .second, .val (.ref r15), .val (.long (own_pts xa15 xb15 xc15 xd15)), .second, .unset] []))
    refine own_by (fun _ k => XS.lload X16.here hx rfl (hb hby at_152) rfl k) ?_
    show own_Go p.tables e below s _ _ _ (T16.setTop (mkF m 154 #[.val (.int p0), .val (.int p1), .val (.int p2), .val (.int p3), .val (.int p4), .val (.int p5), .val (.ref b1), .val (.long (((((p0.toInt64) <<< ((1 : Int32) &&& 0x3f).toInt64) + (p1.toInt64)) - ((p2.toInt64) <<< ((5 : Int32) &&& 0x3f).toInt64)) - ((p3.toInt64) <<< ((4 : Int32) &&& 0x3f).toInt64))), .second, .val (.int (1 : Int32)), .val (.ref b4), .val (.int (1 : Int32)), .val (.int ((own_sri p5 (1 : Int32)) - ((own_sri p5 (1 : Int32)) / (3 : Int32)) * (3 : Int32))), .val (.ref vT), .val (.ref (own_of ((own_sri p5 (1 : Int32)) - ((own_sri p5 (1 : Int32)) / (3 : Int32)) * (3 : Int32)) vT vF vU)), .val (.long (own_pts (own_clamp p0) (own_clamp p1) (own_clamp p2) (own_clamp p3))), .second, .val (.ref r15), .val (.long (own_pts xa15 xb15 xc15 xd15)), .second, .unset] [(.long (own_pts xa15 xb15 xc15 xd15))]))
    refine own_by (fun _ k => XS.lload X16.here hx rfl (hb hby at_154) rfl k) ?_
    show own_Go p.tables e below s _ _ _ (T16.setTop (mkF m 156 #[.val (.int p0), .val (.int p1), .val (.int p2), .val (.int p3), .val (.int p4), .val (.int p5), .val (.ref b1), .val (.long (((((p0.toInt64) <<< ((1 : Int32) &&& 0x3f).toInt64) + (p1.toInt64)) - ((p2.toInt64) <<< ((5 : Int32) &&& 0x3f).toInt64)) - ((p3.toInt64) <<< ((4 : Int32) &&& 0x3f).toInt64))), .second, .val (.int (1 : Int32)), .val (.ref b4), .val (.int (1 : Int32)), .val (.int ((own_sri p5 (1 : Int32)) - ((own_sri p5 (1 : Int32)) / (3 : Int32)) * (3 : Int32))), .val (.ref vT), .val (.ref (own_of ((own_sri p5 (1 : Int32)) - ((own_sri p5 (1 : Int32)) / (3 : Int32)) * (3 : Int32)) vT vF vU)), .val (.long (own_pts (own_clamp p0) (own_clamp p1) (own_clamp p2) (own_clamp p3))), .second, .val (.ref r15), .val (.long (own_pts xa15 xb15 xc15 xd15)), .second, .unset] [(.long (own_pts (own_clamp p0) (own_clamp p1) (own_clamp p2) (own_clamp p3))), (.long (own_pts xa15 xb15 xc15 xd15))]))
    refine own_by (fun _ k => XS.lsub X16.here hx rfl (hb hby at_156) rfl k) ?_
    show own_Go p.tables e below s _ _ _ (T16.setTop (mkF m 157 #[.val (.int p0), .val (.int p1), .val (.int p2), .val (.int p3), .val (.int p4), .val (.int p5), .val (.ref b1), .val (.long (((((p0.toInt64) <<< ((1 : Int32) &&& 0x3f).toInt64) + (p1.toInt64)) - ((p2.toInt64) <<< ((5 : Int32) &&& 0x3f).toInt64)) - ((p3.toInt64) <<< ((4 : Int32) &&& 0x3f).toInt64))), .second, .val (.int (1 : Int32)), .val (.ref b4), .val (.int (1 : Int32)), .val (.int ((own_sri p5 (1 : Int32)) - ((own_sri p5 (1 : Int32)) / (3 : Int32)) * (3 : Int32))), .val (.ref vT), .val (.ref (own_of ((own_sri p5 (1 : Int32)) - ((own_sri p5 (1 : Int32)) / (3 : Int32)) * (3 : Int32)) vT vF vU)), .val (.long (own_pts (own_clamp p0) (own_clamp p1) (own_clamp p2) (own_clamp p3))), .second, .val (.ref r15), .val (.long (own_pts xa15 xb15 xc15 xd15)), .second, .unset] [(.long ((own_pts xa15 xb15 xc15 xd15) - (own_pts (own_clamp p0) (own_clamp p1) (own_clamp p2) (own_clamp p3))))]))
    refine own_by (fun _ k => XS.iload X16.here hx rfl (hb hby at_157) rfl k) ?_
    show own_Go p.tables e below s _ _ _ (T16.setTop (mkF m 159 #[.val (.int p0), .val (.int p1), .val (.int p2), .val (.int p3), .val (.int p4), .val (.int p5), .val (.ref b1), .val (.long (((((p0.toInt64) <<< ((1 : Int32) &&& 0x3f).toInt64) + (p1.toInt64)) - ((p2.toInt64) <<< ((5 : Int32) &&& 0x3f).toInt64)) - ((p3.toInt64) <<< ((4 : Int32) &&& 0x3f).toInt64))), .second, .val (.int (1 : Int32)), .val (.ref b4), .val (.int (1 : Int32)), .val (.int ((own_sri p5 (1 : Int32)) - ((own_sri p5 (1 : Int32)) / (3 : Int32)) * (3 : Int32))), .val (.ref vT), .val (.ref (own_of ((own_sri p5 (1 : Int32)) - ((own_sri p5 (1 : Int32)) / (3 : Int32)) * (3 : Int32)) vT vF vU)), .val (.long (own_pts (own_clamp p0) (own_clamp p1) (own_clamp p2) (own_clamp p3))), .second, .val (.ref r15), .val (.long (own_pts xa15 xb15 xc15 xd15)), .second, .unset] [(.int (1 : Int32)), (.long ((own_pts xa15 xb15 xc15 xd15) - (own_pts (own_clamp p0) (own_clamp p1) (own_clamp p2) (own_clamp p3))))]))
    refine own_by (fun _ k => XS.iload X16.here hx rfl (hb hby at_159) rfl k) ?_
    show own_Go p.tables e below s _ _ _ (T16.setTop (mkF m 161 #[.val (.int p0), .val (.int p1), .val (.int p2), .val (.int p3), .val (.int p4), .val (.int p5), .val (.ref b1), .val (.long (((((p0.toInt64) <<< ((1 : Int32) &&& 0x3f).toInt64) + (p1.toInt64)) - ((p2.toInt64) <<< ((5 : Int32) &&& 0x3f).toInt64)) - ((p3.toInt64) <<< ((4 : Int32) &&& 0x3f).toInt64))), .second, .val (.int (1 : Int32)), .val (.ref b4), .val (.int (1 : Int32)), .val (.int ((own_sri p5 (1 : Int32)) - ((own_sri p5 (1 : Int32)) / (3 : Int32)) * (3 : Int32))), .val (.ref vT), .val (.ref (own_of ((own_sri p5 (1 : Int32)) - ((own_sri p5 (1 : Int32)) / (3 : Int32)) * (3 : Int32)) vT vF vU)), .val (.long (own_pts (own_clamp p0) (own_clamp p1) (own_clamp p2) (own_clamp p3))), .second, .val (.ref r15), .val (.long (own_pts xa15 xb15 xc15 xd15)), .second, .unset] [(.int ((own_sri p5 (1 : Int32)) - ((own_sri p5 (1 : Int32)) / (3 : Int32)) * (3 : Int32))), (.int (1 : Int32)), (.long ((own_pts xa15 xb15 xc15 xd15) - (own_pts (own_clamp p0) (own_clamp p1) (own_clamp p2) (own_clamp p3))))]))
    obtain ⟨v17, T17, L17, X17, q17, st17⟩ := own_callS X16 hx hZ hown (hw _ (List.mem_of_getElem? (i := 58) rfl)) (hw _ (List.mem_of_getElem? (i := 59) rfl)) (hw _ (List.mem_of_getElem? (i := 34) rfl)) (hw _ (List.mem_of_getElem? (i := 60) rfl)) (by decide) (rm9 l Z a0 hw [] (1 : Int32) ((own_sri p5 (1 : Int32)) - ((own_sri p5 (1 : Int32)) / (3 : Int32)) * (3 : Int32)) T15.heap n0 Z15) (W := 2) (by decide) (by decide) hh16 (g := (mkF m 161 #[.val (.int p0), .val (.int p1), .val (.int p2), .val (.int p3), .val (.int p4), .val (.int p5), .val (.ref b1), .val (.long (((((p0.toInt64) <<< ((1 : Int32) &&& 0x3f).toInt64) + (p1.toInt64)) - ((p2.toInt64) <<< ((5 : Int32) &&& 0x3f).toInt64)) - ((p3.toInt64) <<< ((4 : Int32) &&& 0x3f).toInt64))), .second, .val (.int (1 : Int32)), .val (.ref b4), .val (.int (1 : Int32)), .val (.int ((own_sri p5 (1 : Int32)) - ((own_sri p5 (1 : Int32)) / (3 : Int32)) * (3 : Int32))), .val (.ref vT), .val (.ref (own_of ((own_sri p5 (1 : Int32)) - ((own_sri p5 (1 : Int32)) / (3 : Int32)) * (3 : Int32)) vT vF vU)), .val (.long (own_pts (own_clamp p0) (own_clamp p1) (own_clamp p2) (own_clamp p3))), .second, .val (.ref r15), .val (.long (own_pts xa15 xb15 xc15 xd15)), .second, .unset] [(.int ((own_sri p5 (1 : Int32)) - ((own_sri p5 (1 : Int32)) / (3 : Int32)) * (3 : Int32))), (.int (1 : Int32)), (.long ((own_pts xa15 xb15 xc15 xd15) - (own_pts (own_clamp p0) (own_clamp p1) (own_clamp p2) (own_clamp p3))))])) rfl (by rw [hml]; rfl) (argsL := [(.int (1 : Int32)), (.int ((own_sri p5 (1 : Int32)) - ((own_sri p5 (1 : Int32)) / (3 : Int32)) * (3 : Int32)))]) (rest := [(.long ((own_pts xa15 xb15 xc15 xd15) - (own_pts (own_clamp p0) (own_clamp p1) (own_clamp p2) (own_clamp p3))))]) (lenOf pd_9 rfl) rfl rfl (by show 2 * 0 + _ ≤ _; exact Nat.le_of_eq rfl) (hb hby at_161) (by decide) (by decide)
    obtain ⟨rfl, Nq17, hh17⟩ := q17
    have N17 := Fr.app N16 Nq17
    refine own_by st17 ?_
    show own_Go p.tables e below s _ _ _ (T17.setTop (mkF m 164 #[.val (.int p0), .val (.int p1), .val (.int p2), .val (.int p3), .val (.int p4), .val (.int p5), .val (.ref b1), .val (.long (((((p0.toInt64) <<< ((1 : Int32) &&& 0x3f).toInt64) + (p1.toInt64)) - ((p2.toInt64) <<< ((5 : Int32) &&& 0x3f).toInt64)) - ((p3.toInt64) <<< ((4 : Int32) &&& 0x3f).toInt64))), .second, .val (.int (1 : Int32)), .val (.ref b4), .val (.int (1 : Int32)), .val (.int ((own_sri p5 (1 : Int32)) - ((own_sri p5 (1 : Int32)) / (3 : Int32)) * (3 : Int32))), .val (.ref vT), .val (.ref (own_of ((own_sri p5 (1 : Int32)) - ((own_sri p5 (1 : Int32)) / (3 : Int32)) * (3 : Int32)) vT vF vU)), .val (.long (own_pts (own_clamp p0) (own_clamp p1) (own_clamp p2) (own_clamp p3))), .second, .val (.ref r15), .val (.long (own_pts xa15 xb15 xc15 xd15)), .second, .unset] [(.long (own_delta (1 : Int32) ((own_sri p5 (1 : Int32)) - ((own_sri p5 (1 : Int32)) / (3 : Int32)) * (3 : Int32)))), (.long ((own_pts xa15 xb15 xc15 xd15) - (own_pts (own_clamp p0) (own_clamp p1) (own_clamp p2) (own_clamp p3))))]))
    refine own_by (fun _ k => XS.lcmp X17.here hx rfl (hb hby at_164) rfl k) ?_
    show own_Go p.tables e below s _ _ _ (T17.setTop (mkF m 165 #[.val (.int p0), .val (.int p1), .val (.int p2), .val (.int p3), .val (.int p4), .val (.int p5), .val (.ref b1), .val (.long (((((p0.toInt64) <<< ((1 : Int32) &&& 0x3f).toInt64) + (p1.toInt64)) - ((p2.toInt64) <<< ((5 : Int32) &&& 0x3f).toInt64)) - ((p3.toInt64) <<< ((4 : Int32) &&& 0x3f).toInt64))), .second, .val (.int (1 : Int32)), .val (.ref b4), .val (.int (1 : Int32)), .val (.int ((own_sri p5 (1 : Int32)) - ((own_sri p5 (1 : Int32)) / (3 : Int32)) * (3 : Int32))), .val (.ref vT), .val (.ref (own_of ((own_sri p5 (1 : Int32)) - ((own_sri p5 (1 : Int32)) / (3 : Int32)) * (3 : Int32)) vT vF vU)), .val (.long (own_pts (own_clamp p0) (own_clamp p1) (own_clamp p2) (own_clamp p3))), .second, .val (.ref r15), .val (.long (own_pts xa15 xb15 xc15 xd15)), .second, .unset] [(.int (lcmpW ((own_pts xa15 xb15 xc15 xd15) - (own_pts (own_clamp p0) (own_clamp p1) (own_clamp p2) (own_clamp p3))) (own_delta (1 : Int32) ((own_sri p5 (1 : Int32)) - ((own_sri p5 (1 : Int32)) / (3 : Int32)) * (3 : Int32)))))]))
    refine own_by (fun _ k => XS.ifNo X17.here hx rfl (hb hby at_165) rfl ((if0 _ _).trans (teq (show (lcmpW ((own_pts xa15 xb15 xc15 xd15) - (own_pts (own_clamp p0) (own_clamp p1) (own_clamp p2) (own_clamp p3))) (own_delta (1 : Int32) ((own_sri p5 (1 : Int32)) - ((own_sri p5 (1 : Int32)) / (3 : Int32)) * (3 : Int32)))) = (0 : Int32) from (lw_eq _ _).mpr (own_after nTF nTU nFU (own_sel _) (Or.inl ⟨rfl, rfl⟩) (own_clamp_le _) (own_clamp_le _) (own_clamp_le _) (own_clamp_le _) Step15))).2) k) ?_
    show own_Go p.tables e below s _ _ _ (T17.setTop (mkF m 168 #[.val (.int p0), .val (.int p1), .val (.int p2), .val (.int p3), .val (.int p4), .val (.int p5), .val (.ref b1), .val (.long (((((p0.toInt64) <<< ((1 : Int32) &&& 0x3f).toInt64) + (p1.toInt64)) - ((p2.toInt64) <<< ((5 : Int32) &&& 0x3f).toInt64)) - ((p3.toInt64) <<< ((4 : Int32) &&& 0x3f).toInt64))), .second, .val (.int (1 : Int32)), .val (.ref b4), .val (.int (1 : Int32)), .val (.int ((own_sri p5 (1 : Int32)) - ((own_sri p5 (1 : Int32)) / (3 : Int32)) * (3 : Int32))), .val (.ref vT), .val (.ref (own_of ((own_sri p5 (1 : Int32)) - ((own_sri p5 (1 : Int32)) / (3 : Int32)) * (3 : Int32)) vT vF vU)), .val (.long (own_pts (own_clamp p0) (own_clamp p1) (own_clamp p2) (own_clamp p3))), .second, .val (.ref r15), .val (.long (own_pts xa15 xb15 xc15 xd15)), .second, .unset] []))
    refine own_by (fun _ k => XS.iconst X17.here hx rfl (hb hby at_168) k) ?_
    show own_Go p.tables e below s _ _ _ (T17.setTop (mkF m 169 #[.val (.int p0), .val (.int p1), .val (.int p2), .val (.int p3), .val (.int p4), .val (.int p5), .val (.ref b1), .val (.long (((((p0.toInt64) <<< ((1 : Int32) &&& 0x3f).toInt64) + (p1.toInt64)) - ((p2.toInt64) <<< ((5 : Int32) &&& 0x3f).toInt64)) - ((p3.toInt64) <<< ((4 : Int32) &&& 0x3f).toInt64))), .second, .val (.int (1 : Int32)), .val (.ref b4), .val (.int (1 : Int32)), .val (.int ((own_sri p5 (1 : Int32)) - ((own_sri p5 (1 : Int32)) / (3 : Int32)) * (3 : Int32))), .val (.ref vT), .val (.ref (own_of ((own_sri p5 (1 : Int32)) - ((own_sri p5 (1 : Int32)) / (3 : Int32)) * (3 : Int32)) vT vF vU)), .val (.long (own_pts (own_clamp p0) (own_clamp p1) (own_clamp p2) (own_clamp p3))), .second, .val (.ref r15), .val (.long (own_pts xa15 xb15 xc15 xd15)), .second, .unset] [(.int (1 : Int32))]))
    refine own_by (fun _ k => XS.goto X17.here hx rfl (pc0 := 169) (pc' := 173) rfl (hb hby at_169) (by decide) (by decide) k) ?_
    show own_Go p.tables e below s _ _ _ (T17.setTop (mkF m 173 #[.val (.int p0), .val (.int p1), .val (.int p2), .val (.int p3), .val (.int p4), .val (.int p5), .val (.ref b1), .val (.long (((((p0.toInt64) <<< ((1 : Int32) &&& 0x3f).toInt64) + (p1.toInt64)) - ((p2.toInt64) <<< ((5 : Int32) &&& 0x3f).toInt64)) - ((p3.toInt64) <<< ((4 : Int32) &&& 0x3f).toInt64))), .second, .val (.int (1 : Int32)), .val (.ref b4), .val (.int (1 : Int32)), .val (.int ((own_sri p5 (1 : Int32)) - ((own_sri p5 (1 : Int32)) / (3 : Int32)) * (3 : Int32))), .val (.ref vT), .val (.ref (own_of ((own_sri p5 (1 : Int32)) - ((own_sri p5 (1 : Int32)) / (3 : Int32)) * (3 : Int32)) vT vF vU)), .val (.long (own_pts (own_clamp p0) (own_clamp p1) (own_clamp p2) (own_clamp p3))), .second, .val (.ref r15), .val (.long (own_pts xa15 xb15 xc15 xd15)), .second, .unset] [(.int (1 : Int32))]))
    refine own_by (fun _ k => XS.istore X17.here hx rfl (hb hby at_173) rfl (l' := #[.val (.int p0), .val (.int p1), .val (.int p2), .val (.int p3), .val (.int p4), .val (.int p5), .val (.ref b1), .val (.long (((((p0.toInt64) <<< ((1 : Int32) &&& 0x3f).toInt64) + (p1.toInt64)) - ((p2.toInt64) <<< ((5 : Int32) &&& 0x3f).toInt64)) - ((p3.toInt64) <<< ((4 : Int32) &&& 0x3f).toInt64))), .second, .val (.int (1 : Int32)), .val (.ref b4), .val (.int (1 : Int32)), .val (.int ((own_sri p5 (1 : Int32)) - ((own_sri p5 (1 : Int32)) / (3 : Int32)) * (3 : Int32))), .val (.ref vT), .val (.ref (own_of ((own_sri p5 (1 : Int32)) - ((own_sri p5 (1 : Int32)) / (3 : Int32)) * (3 : Int32)) vT vF vU)), .val (.long (own_pts (own_clamp p0) (own_clamp p1) (own_clamp p2) (own_clamp p3))), .second, .val (.ref r15), .val (.long (own_pts xa15 xb15 xc15 xd15)), .second, .val (.int (1 : Int32))]) rfl k) ?_
    show own_Go p.tables e below s _ _ _ (T17.setTop (mkF m 175 #[.val (.int p0), .val (.int p1), .val (.int p2), .val (.int p3), .val (.int p4), .val (.int p5), .val (.ref b1), .val (.long (((((p0.toInt64) <<< ((1 : Int32) &&& 0x3f).toInt64) + (p1.toInt64)) - ((p2.toInt64) <<< ((5 : Int32) &&& 0x3f).toInt64)) - ((p3.toInt64) <<< ((4 : Int32) &&& 0x3f).toInt64))), .second, .val (.int (1 : Int32)), .val (.ref b4), .val (.int (1 : Int32)), .val (.int ((own_sri p5 (1 : Int32)) - ((own_sri p5 (1 : Int32)) / (3 : Int32)) * (3 : Int32))), .val (.ref vT), .val (.ref (own_of ((own_sri p5 (1 : Int32)) - ((own_sri p5 (1 : Int32)) / (3 : Int32)) * (3 : Int32)) vT vF vU)), .val (.long (own_pts (own_clamp p0) (own_clamp p1) (own_clamp p2) (own_clamp p3))), .second, .val (.ref r15), .val (.long (own_pts xa15 xb15 xc15 xd15)), .second, .val (.int (1 : Int32))] []))
    refine own_by (fun _ k => XS.iload X17.here hx rfl (hb hby at_175) rfl k) ?_
    show own_Go p.tables e below s _ _ _ (T17.setTop (mkF m 177 #[.val (.int p0), .val (.int p1), .val (.int p2), .val (.int p3), .val (.int p4), .val (.int p5), .val (.ref b1), .val (.long (((((p0.toInt64) <<< ((1 : Int32) &&& 0x3f).toInt64) + (p1.toInt64)) - ((p2.toInt64) <<< ((5 : Int32) &&& 0x3f).toInt64)) - ((p3.toInt64) <<< ((4 : Int32) &&& 0x3f).toInt64))), .second, .val (.int (1 : Int32)), .val (.ref b4), .val (.int (1 : Int32)), .val (.int ((own_sri p5 (1 : Int32)) - ((own_sri p5 (1 : Int32)) / (3 : Int32)) * (3 : Int32))), .val (.ref vT), .val (.ref (own_of ((own_sri p5 (1 : Int32)) - ((own_sri p5 (1 : Int32)) / (3 : Int32)) * (3 : Int32)) vT vF vU)), .val (.long (own_pts (own_clamp p0) (own_clamp p1) (own_clamp p2) (own_clamp p3))), .second, .val (.ref r15), .val (.long (own_pts xa15 xb15 xc15 xd15)), .second, .val (.int (1 : Int32))] [(.int (1 : Int32))]))
    refine own_by (fun _ k => XS.ifNo X17.here hx rfl (hb hby at_177) rfl ((if0 _ _).trans (feq (by decide : ¬ ((1 : Int32) = (0 : Int32)))).1) k) ?_
    show own_Go p.tables e below s _ _ _ (T17.setTop (mkF m 180 #[.val (.int p0), .val (.int p1), .val (.int p2), .val (.int p3), .val (.int p4), .val (.int p5), .val (.ref b1), .val (.long (((((p0.toInt64) <<< ((1 : Int32) &&& 0x3f).toInt64) + (p1.toInt64)) - ((p2.toInt64) <<< ((5 : Int32) &&& 0x3f).toInt64)) - ((p3.toInt64) <<< ((4 : Int32) &&& 0x3f).toInt64))), .second, .val (.int (1 : Int32)), .val (.ref b4), .val (.int (1 : Int32)), .val (.int ((own_sri p5 (1 : Int32)) - ((own_sri p5 (1 : Int32)) / (3 : Int32)) * (3 : Int32))), .val (.ref vT), .val (.ref (own_of ((own_sri p5 (1 : Int32)) - ((own_sri p5 (1 : Int32)) / (3 : Int32)) * (3 : Int32)) vT vF vU)), .val (.long (own_pts (own_clamp p0) (own_clamp p1) (own_clamp p2) (own_clamp p3))), .second, .val (.ref r15), .val (.long (own_pts xa15 xb15 xc15 xd15)), .second, .val (.int (1 : Int32))] []))
    refine own_by (fun _ k => XS.iload X17.here hx rfl (hb hby at_180) rfl k) ?_
    show own_Go p.tables e below s _ _ _ (T17.setTop (mkF m 182 #[.val (.int p0), .val (.int p1), .val (.int p2), .val (.int p3), .val (.int p4), .val (.int p5), .val (.ref b1), .val (.long (((((p0.toInt64) <<< ((1 : Int32) &&& 0x3f).toInt64) + (p1.toInt64)) - ((p2.toInt64) <<< ((5 : Int32) &&& 0x3f).toInt64)) - ((p3.toInt64) <<< ((4 : Int32) &&& 0x3f).toInt64))), .second, .val (.int (1 : Int32)), .val (.ref b4), .val (.int (1 : Int32)), .val (.int ((own_sri p5 (1 : Int32)) - ((own_sri p5 (1 : Int32)) / (3 : Int32)) * (3 : Int32))), .val (.ref vT), .val (.ref (own_of ((own_sri p5 (1 : Int32)) - ((own_sri p5 (1 : Int32)) / (3 : Int32)) * (3 : Int32)) vT vF vU)), .val (.long (own_pts (own_clamp p0) (own_clamp p1) (own_clamp p2) (own_clamp p3))), .second, .val (.ref r15), .val (.long (own_pts xa15 xb15 xc15 xd15)), .second, .val (.int (1 : Int32))] [(.int (1 : Int32))]))
    refine own_by (fun _ k => XS.ifNo X17.here hx rfl (hb hby at_182) rfl ((if0 _ _).trans (feq (by decide : ¬ ((1 : Int32) = (0 : Int32)))).1) k) ?_
    show own_Go p.tables e below s _ _ _ (T17.setTop (mkF m 185 #[.val (.int p0), .val (.int p1), .val (.int p2), .val (.int p3), .val (.int p4), .val (.int p5), .val (.ref b1), .val (.long (((((p0.toInt64) <<< ((1 : Int32) &&& 0x3f).toInt64) + (p1.toInt64)) - ((p2.toInt64) <<< ((5 : Int32) &&& 0x3f).toInt64)) - ((p3.toInt64) <<< ((4 : Int32) &&& 0x3f).toInt64))), .second, .val (.int (1 : Int32)), .val (.ref b4), .val (.int (1 : Int32)), .val (.int ((own_sri p5 (1 : Int32)) - ((own_sri p5 (1 : Int32)) / (3 : Int32)) * (3 : Int32))), .val (.ref vT), .val (.ref (own_of ((own_sri p5 (1 : Int32)) - ((own_sri p5 (1 : Int32)) / (3 : Int32)) * (3 : Int32)) vT vF vU)), .val (.long (own_pts (own_clamp p0) (own_clamp p1) (own_clamp p2) (own_clamp p3))), .second, .val (.ref r15), .val (.long (own_pts xa15 xb15 xc15 xd15)), .second, .val (.int (1 : Int32))] []))
    refine own_by (fun _ k => XS.iconst X17.here hx rfl (hb hby at_185) k) ?_
    show own_Go p.tables e below s _ _ _ (T17.setTop (mkF m 186 #[.val (.int p0), .val (.int p1), .val (.int p2), .val (.int p3), .val (.int p4), .val (.int p5), .val (.ref b1), .val (.long (((((p0.toInt64) <<< ((1 : Int32) &&& 0x3f).toInt64) + (p1.toInt64)) - ((p2.toInt64) <<< ((5 : Int32) &&& 0x3f).toInt64)) - ((p3.toInt64) <<< ((4 : Int32) &&& 0x3f).toInt64))), .second, .val (.int (1 : Int32)), .val (.ref b4), .val (.int (1 : Int32)), .val (.int ((own_sri p5 (1 : Int32)) - ((own_sri p5 (1 : Int32)) / (3 : Int32)) * (3 : Int32))), .val (.ref vT), .val (.ref (own_of ((own_sri p5 (1 : Int32)) - ((own_sri p5 (1 : Int32)) / (3 : Int32)) * (3 : Int32)) vT vF vU)), .val (.long (own_pts (own_clamp p0) (own_clamp p1) (own_clamp p2) (own_clamp p3))), .second, .val (.ref r15), .val (.long (own_pts xa15 xb15 xc15 xd15)), .second, .val (.int (1 : Int32))] [(.int (1 : Int32))]))
    refine own_by (fun _ k => XS.goto X17.here hx rfl (pc0 := 186) (pc' := 190) rfl (hb hby at_186) (by decide) (by decide) k) ?_
    show own_Go p.tables e below s _ _ _ (T17.setTop (mkF m 190 #[.val (.int p0), .val (.int p1), .val (.int p2), .val (.int p3), .val (.int p4), .val (.int p5), .val (.ref b1), .val (.long (((((p0.toInt64) <<< ((1 : Int32) &&& 0x3f).toInt64) + (p1.toInt64)) - ((p2.toInt64) <<< ((5 : Int32) &&& 0x3f).toInt64)) - ((p3.toInt64) <<< ((4 : Int32) &&& 0x3f).toInt64))), .second, .val (.int (1 : Int32)), .val (.ref b4), .val (.int (1 : Int32)), .val (.int ((own_sri p5 (1 : Int32)) - ((own_sri p5 (1 : Int32)) / (3 : Int32)) * (3 : Int32))), .val (.ref vT), .val (.ref (own_of ((own_sri p5 (1 : Int32)) - ((own_sri p5 (1 : Int32)) / (3 : Int32)) * (3 : Int32)) vT vF vU)), .val (.long (own_pts (own_clamp p0) (own_clamp p1) (own_clamp p2) (own_clamp p3))), .second, .val (.ref r15), .val (.long (own_pts xa15 xb15 xc15 xd15)), .second, .val (.int (1 : Int32))] [(.int (1 : Int32))]))
    exact own_retZ X17 hx hlk Bd.returns (hb hby at_190) (by decide) (by decide) ⟨rfl, N17⟩
  · refine own_by (fun _ k => XS.ifYes X10.here hx rfl (pc0 := 86) (pc' := 93) rfl (hb hby at_86) rfl ((if0 _ _).trans (feq hc86_11).2) (by decide) (by decide) k) ?_
    show own_Go p.tables e below s _ _ _ (T10.setTop (mkF m 93 #[.val (.int p0), .val (.int p1), .val (.int p2), .val (.int p3), .val (.int p4), .val (.int p5), .val (.ref b1), .val (.long (((((p0.toInt64) <<< ((1 : Int32) &&& 0x3f).toInt64) + (p1.toInt64)) - ((p2.toInt64) <<< ((5 : Int32) &&& 0x3f).toInt64)) - ((p3.toInt64) <<< ((4 : Int32) &&& 0x3f).toInt64))), .second, .val (.int (1 : Int32)), .val (.ref b4), .unset, .unset, .unset, .unset, .unset, .unset, .unset, .unset, .unset, .unset] []))
    refine own_by (fun _ k => XS.iconst X10.here hx rfl (hb hby at_93) k) ?_
    show own_Go p.tables e below s _ _ _ (T10.setTop (mkF m 94 #[.val (.int p0), .val (.int p1), .val (.int p2), .val (.int p3), .val (.int p4), .val (.int p5), .val (.ref b1), .val (.long (((((p0.toInt64) <<< ((1 : Int32) &&& 0x3f).toInt64) + (p1.toInt64)) - ((p2.toInt64) <<< ((5 : Int32) &&& 0x3f).toInt64)) - ((p3.toInt64) <<< ((4 : Int32) &&& 0x3f).toInt64))), .second, .val (.int (1 : Int32)), .val (.ref b4), .unset, .unset, .unset, .unset, .unset, .unset, .unset, .unset, .unset, .unset] [(.int (0 : Int32))]))
    refine own_by (fun _ k => XS.istore X10.here hx rfl (hb hby at_94) rfl (l' := #[.val (.int p0), .val (.int p1), .val (.int p2), .val (.int p3), .val (.int p4), .val (.int p5), .val (.ref b1), .val (.long (((((p0.toInt64) <<< ((1 : Int32) &&& 0x3f).toInt64) + (p1.toInt64)) - ((p2.toInt64) <<< ((5 : Int32) &&& 0x3f).toInt64)) - ((p3.toInt64) <<< ((4 : Int32) &&& 0x3f).toInt64))), .second, .val (.int (1 : Int32)), .val (.ref b4), .val (.int (0 : Int32)), .unset, .unset, .unset, .unset, .unset, .unset, .unset, .unset, .unset]) rfl k) ?_
    show own_Go p.tables e below s _ _ _ (T10.setTop (mkF m 96 #[.val (.int p0), .val (.int p1), .val (.int p2), .val (.int p3), .val (.int p4), .val (.int p5), .val (.ref b1), .val (.long (((((p0.toInt64) <<< ((1 : Int32) &&& 0x3f).toInt64) + (p1.toInt64)) - ((p2.toInt64) <<< ((5 : Int32) &&& 0x3f).toInt64)) - ((p3.toInt64) <<< ((4 : Int32) &&& 0x3f).toInt64))), .second, .val (.int (1 : Int32)), .val (.ref b4), .val (.int (0 : Int32)), .unset, .unset, .unset, .unset, .unset, .unset, .unset, .unset, .unset] []))
    refine own_by (fun _ k => XS.iload X10.here hx rfl (hb hby at_96) rfl k) ?_
    show own_Go p.tables e below s _ _ _ (T10.setTop (mkF m 98 #[.val (.int p0), .val (.int p1), .val (.int p2), .val (.int p3), .val (.int p4), .val (.int p5), .val (.ref b1), .val (.long (((((p0.toInt64) <<< ((1 : Int32) &&& 0x3f).toInt64) + (p1.toInt64)) - ((p2.toInt64) <<< ((5 : Int32) &&& 0x3f).toInt64)) - ((p3.toInt64) <<< ((4 : Int32) &&& 0x3f).toInt64))), .second, .val (.int (1 : Int32)), .val (.ref b4), .val (.int (0 : Int32)), .unset, .unset, .unset, .unset, .unset, .unset, .unset, .unset, .unset] [(.int p5)]))
    refine own_by (fun _ k => XS.iconst X10.here hx rfl (hb hby at_98) k) ?_
    show own_Go p.tables e below s _ _ _ (T10.setTop (mkF m 99 #[.val (.int p0), .val (.int p1), .val (.int p2), .val (.int p3), .val (.int p4), .val (.int p5), .val (.ref b1), .val (.long (((((p0.toInt64) <<< ((1 : Int32) &&& 0x3f).toInt64) + (p1.toInt64)) - ((p2.toInt64) <<< ((5 : Int32) &&& 0x3f).toInt64)) - ((p3.toInt64) <<< ((4 : Int32) &&& 0x3f).toInt64))), .second, .val (.int (1 : Int32)), .val (.ref b4), .val (.int (0 : Int32)), .unset, .unset, .unset, .unset, .unset, .unset, .unset, .unset, .unset] [(.int (1 : Int32)), (.int p5)]))
    refine own_by (fun _ k => XS.iushr X10.here hx rfl (hb hby at_99) rfl k) ?_
    show own_Go p.tables e below s _ _ _ (T10.setTop (mkF m 100 #[.val (.int p0), .val (.int p1), .val (.int p2), .val (.int p3), .val (.int p4), .val (.int p5), .val (.ref b1), .val (.long (((((p0.toInt64) <<< ((1 : Int32) &&& 0x3f).toInt64) + (p1.toInt64)) - ((p2.toInt64) <<< ((5 : Int32) &&& 0x3f).toInt64)) - ((p3.toInt64) <<< ((4 : Int32) &&& 0x3f).toInt64))), .second, .val (.int (1 : Int32)), .val (.ref b4), .val (.int (0 : Int32)), .unset, .unset, .unset, .unset, .unset, .unset, .unset, .unset, .unset] [(.int (own_sri p5 (1 : Int32)))]))
    refine own_by (fun _ k => XS.iconst X10.here hx rfl (hb hby at_100) k) ?_
    show own_Go p.tables e below s _ _ _ (T10.setTop (mkF m 101 #[.val (.int p0), .val (.int p1), .val (.int p2), .val (.int p3), .val (.int p4), .val (.int p5), .val (.ref b1), .val (.long (((((p0.toInt64) <<< ((1 : Int32) &&& 0x3f).toInt64) + (p1.toInt64)) - ((p2.toInt64) <<< ((5 : Int32) &&& 0x3f).toInt64)) - ((p3.toInt64) <<< ((4 : Int32) &&& 0x3f).toInt64))), .second, .val (.int (1 : Int32)), .val (.ref b4), .val (.int (0 : Int32)), .unset, .unset, .unset, .unset, .unset, .unset, .unset, .unset, .unset] [(.int (3 : Int32)), (.int (own_sri p5 (1 : Int32)))]))
    refine own_by (fun _ k => XS.irem X10.here hx rfl (hb hby at_101) rfl (by decide) k) ?_
    show own_Go p.tables e below s _ _ _ (T10.setTop (mkF m 102 #[.val (.int p0), .val (.int p1), .val (.int p2), .val (.int p3), .val (.int p4), .val (.int p5), .val (.ref b1), .val (.long (((((p0.toInt64) <<< ((1 : Int32) &&& 0x3f).toInt64) + (p1.toInt64)) - ((p2.toInt64) <<< ((5 : Int32) &&& 0x3f).toInt64)) - ((p3.toInt64) <<< ((4 : Int32) &&& 0x3f).toInt64))), .second, .val (.int (1 : Int32)), .val (.ref b4), .val (.int (0 : Int32)), .unset, .unset, .unset, .unset, .unset, .unset, .unset, .unset, .unset] [(.int ((own_sri p5 (1 : Int32)) - ((own_sri p5 (1 : Int32)) / (3 : Int32)) * (3 : Int32)))]))
    refine own_by (fun _ k => XS.istore X10.here hx rfl (hb hby at_102) rfl (l' := #[.val (.int p0), .val (.int p1), .val (.int p2), .val (.int p3), .val (.int p4), .val (.int p5), .val (.ref b1), .val (.long (((((p0.toInt64) <<< ((1 : Int32) &&& 0x3f).toInt64) + (p1.toInt64)) - ((p2.toInt64) <<< ((5 : Int32) &&& 0x3f).toInt64)) - ((p3.toInt64) <<< ((4 : Int32) &&& 0x3f).toInt64))), .second, .val (.int (1 : Int32)), .val (.ref b4), .val (.int (0 : Int32)), .val (.int ((own_sri p5 (1 : Int32)) - ((own_sri p5 (1 : Int32)) / (3 : Int32)) * (3 : Int32))), .unset, .unset, .unset, .unset, .unset, .unset, .unset, .unset]) rfl k) ?_
    show own_Go p.tables e below s _ _ _ (T10.setTop (mkF m 104 #[.val (.int p0), .val (.int p1), .val (.int p2), .val (.int p3), .val (.int p4), .val (.int p5), .val (.ref b1), .val (.long (((((p0.toInt64) <<< ((1 : Int32) &&& 0x3f).toInt64) + (p1.toInt64)) - ((p2.toInt64) <<< ((5 : Int32) &&& 0x3f).toInt64)) - ((p3.toInt64) <<< ((4 : Int32) &&& 0x3f).toInt64))), .second, .val (.int (1 : Int32)), .val (.ref b4), .val (.int (0 : Int32)), .val (.int ((own_sri p5 (1 : Int32)) - ((own_sri p5 (1 : Int32)) / (3 : Int32)) * (3 : Int32))), .unset, .unset, .unset, .unset, .unset, .unset, .unset, .unset] []))
    refine own_by (fun _ k => XS.iload X10.here hx rfl (hb hby at_104) rfl k) ?_
    show own_Go p.tables e below s _ _ _ (T10.setTop (mkF m 106 #[.val (.int p0), .val (.int p1), .val (.int p2), .val (.int p3), .val (.int p4), .val (.int p5), .val (.ref b1), .val (.long (((((p0.toInt64) <<< ((1 : Int32) &&& 0x3f).toInt64) + (p1.toInt64)) - ((p2.toInt64) <<< ((5 : Int32) &&& 0x3f).toInt64)) - ((p3.toInt64) <<< ((4 : Int32) &&& 0x3f).toInt64))), .second, .val (.int (1 : Int32)), .val (.ref b4), .val (.int (0 : Int32)), .val (.int ((own_sri p5 (1 : Int32)) - ((own_sri p5 (1 : Int32)) / (3 : Int32)) * (3 : Int32))), .unset, .unset, .unset, .unset, .unset, .unset, .unset, .unset] [(.int (0 : Int32))]))
    refine own_by (fun _ k => XS.ifYes X10.here hx rfl (pc0 := 106) (pc' := 115) rfl (hb hby at_106) rfl ((if0 _ _).trans (teq (by decide : ((0 : Int32) = (0 : Int32)))).1) (by decide) (by decide) k) ?_
    show own_Go p.tables e below s _ _ _ (T10.setTop (mkF m 115 #[.val (.int p0), .val (.int p1), .val (.int p2), .val (.int p3), .val (.int p4), .val (.int p5), .val (.ref b1), .val (.long (((((p0.toInt64) <<< ((1 : Int32) &&& 0x3f).toInt64) + (p1.toInt64)) - ((p2.toInt64) <<< ((5 : Int32) &&& 0x3f).toInt64)) - ((p3.toInt64) <<< ((4 : Int32) &&& 0x3f).toInt64))), .second, .val (.int (1 : Int32)), .val (.ref b4), .val (.int (0 : Int32)), .val (.int ((own_sri p5 (1 : Int32)) - ((own_sri p5 (1 : Int32)) / (3 : Int32)) * (3 : Int32))), .unset, .unset, .unset, .unset, .unset, .unset, .unset, .unset] []))
    obtain ⟨T18, X18, e18, st18⟩ := getS2 X10 hx hZ hown (host := "") (Or.inl (hw _ (List.mem_of_getElem? (i := 41) rfl))) Via.refl rfl (SFALSE.ext O10.2) (g := (mkF m 115 #[.val (.int p0), .val (.int p1), .val (.int p2), .val (.int p3), .val (.int p4), .val (.int p5), .val (.ref b1), .val (.long (((((p0.toInt64) <<< ((1 : Int32) &&& 0x3f).toInt64) + (p1.toInt64)) - ((p2.toInt64) <<< ((5 : Int32) &&& 0x3f).toInt64)) - ((p3.toInt64) <<< ((4 : Int32) &&& 0x3f).toInt64))), .second, .val (.int (1 : Int32)), .val (.ref b4), .val (.int (0 : Int32)), .val (.int ((own_sri p5 (1 : Int32)) - ((own_sri p5 (1 : Int32)) / (3 : Int32)) * (3 : Int32))), .unset, .unset, .unset, .unset, .unset, .unset, .unset, .unset] [])) rfl (hb hby at_115)
    refine own_by st18 ?_
    show own_Go p.tables e below s _ _ _ (T18.setTop (mkF m 118 #[.val (.int p0), .val (.int p1), .val (.int p2), .val (.int p3), .val (.int p4), .val (.int p5), .val (.ref b1), .val (.long (((((p0.toInt64) <<< ((1 : Int32) &&& 0x3f).toInt64) + (p1.toInt64)) - ((p2.toInt64) <<< ((5 : Int32) &&& 0x3f).toInt64)) - ((p3.toInt64) <<< ((4 : Int32) &&& 0x3f).toInt64))), .second, .val (.int (1 : Int32)), .val (.ref b4), .val (.int (0 : Int32)), .val (.int ((own_sri p5 (1 : Int32)) - ((own_sri p5 (1 : Int32)) / (3 : Int32)) * (3 : Int32))), .unset, .unset, .unset, .unset, .unset, .unset, .unset, .unset] [(.ref vF)]))
    refine own_by (fun _ k => XS.astore X18.here hx rfl (hb hby at_118) rfl rfl (l' := #[.val (.int p0), .val (.int p1), .val (.int p2), .val (.int p3), .val (.int p4), .val (.int p5), .val (.ref b1), .val (.long (((((p0.toInt64) <<< ((1 : Int32) &&& 0x3f).toInt64) + (p1.toInt64)) - ((p2.toInt64) <<< ((5 : Int32) &&& 0x3f).toInt64)) - ((p3.toInt64) <<< ((4 : Int32) &&& 0x3f).toInt64))), .second, .val (.int (1 : Int32)), .val (.ref b4), .val (.int (0 : Int32)), .val (.int ((own_sri p5 (1 : Int32)) - ((own_sri p5 (1 : Int32)) / (3 : Int32)) * (3 : Int32))), .val (.ref vF), .unset, .unset, .unset, .unset, .unset, .unset, .unset]) rfl k) ?_
    show own_Go p.tables e below s _ _ _ (T18.setTop (mkF m 120 #[.val (.int p0), .val (.int p1), .val (.int p2), .val (.int p3), .val (.int p4), .val (.int p5), .val (.ref b1), .val (.long (((((p0.toInt64) <<< ((1 : Int32) &&& 0x3f).toInt64) + (p1.toInt64)) - ((p2.toInt64) <<< ((5 : Int32) &&& 0x3f).toInt64)) - ((p3.toInt64) <<< ((4 : Int32) &&& 0x3f).toInt64))), .second, .val (.int (1 : Int32)), .val (.ref b4), .val (.int (0 : Int32)), .val (.int ((own_sri p5 (1 : Int32)) - ((own_sri p5 (1 : Int32)) / (3 : Int32)) * (3 : Int32))), .val (.ref vF), .unset, .unset, .unset, .unset, .unset, .unset, .unset] []))
    refine own_by (fun _ k => XS.iload X18.here hx rfl (hb hby at_120) rfl k) ?_
    show own_Go p.tables e below s _ _ _ (T18.setTop (mkF m 122 #[.val (.int p0), .val (.int p1), .val (.int p2), .val (.int p3), .val (.int p4), .val (.int p5), .val (.ref b1), .val (.long (((((p0.toInt64) <<< ((1 : Int32) &&& 0x3f).toInt64) + (p1.toInt64)) - ((p2.toInt64) <<< ((5 : Int32) &&& 0x3f).toInt64)) - ((p3.toInt64) <<< ((4 : Int32) &&& 0x3f).toInt64))), .second, .val (.int (1 : Int32)), .val (.ref b4), .val (.int (0 : Int32)), .val (.int ((own_sri p5 (1 : Int32)) - ((own_sri p5 (1 : Int32)) / (3 : Int32)) * (3 : Int32))), .val (.ref vF), .unset, .unset, .unset, .unset, .unset, .unset, .unset] [(.int ((own_sri p5 (1 : Int32)) - ((own_sri p5 (1 : Int32)) / (3 : Int32)) * (3 : Int32)))]))
    obtain ⟨v19, T19, L19, X19, q19, st19⟩ := own_callS X18 hx hZ hown (hw _ (List.mem_of_getElem? (i := 44) rfl)) (hw _ (List.mem_of_getElem? (i := 45) rfl)) (hw _ (List.mem_of_getElem? (i := 34) rfl)) (hw _ (List.mem_of_getElem? (i := 46) rfl)) (by decide) (rm7 l Z a0 hw [] ((own_sri p5 (1 : Int32)) - ((own_sri p5 (1 : Int32)) / (3 : Int32)) * (3 : Int32)) T10.heap n0 Z10 vT vF vU (STRUE.ext O10.2) (SFALSE.ext O10.2) (SUNKNOWN.ext O10.2)) (W := 0) (by decide) (by decide) e18 (g := (mkF m 122 #[.val (.int p0), .val (.int p1), .val (.int p2), .val (.int p3), .val (.int p4), .val (.int p5), .val (.ref b1), .val (.long (((((p0.toInt64) <<< ((1 : Int32) &&& 0x3f).toInt64) + (p1.toInt64)) - ((p2.toInt64) <<< ((5 : Int32) &&& 0x3f).toInt64)) - ((p3.toInt64) <<< ((4 : Int32) &&& 0x3f).toInt64))), .second, .val (.int (1 : Int32)), .val (.ref b4), .val (.int (0 : Int32)), .val (.int ((own_sri p5 (1 : Int32)) - ((own_sri p5 (1 : Int32)) / (3 : Int32)) * (3 : Int32))), .val (.ref vF), .unset, .unset, .unset, .unset, .unset, .unset, .unset] [(.int ((own_sri p5 (1 : Int32)) - ((own_sri p5 (1 : Int32)) / (3 : Int32)) * (3 : Int32)))])) rfl (by rw [hml]; rfl) (argsL := [(.int ((own_sri p5 (1 : Int32)) - ((own_sri p5 (1 : Int32)) / (3 : Int32)) * (3 : Int32)))]) (rest := []) (lenOf pd_7 rfl) rfl rfl (by show 2 * 0 + _ ≤ _; exact Nat.le_of_eq rfl) (hb hby at_122) (by decide) (by decide)
    obtain ⟨rfl, Nq19, hh19⟩ := q19
    have N19 := Fr.app N10 Nq19
    refine own_by st19 ?_
    show own_Go p.tables e below s _ _ _ (T19.setTop (mkF m 125 #[.val (.int p0), .val (.int p1), .val (.int p2), .val (.int p3), .val (.int p4), .val (.int p5), .val (.ref b1), .val (.long (((((p0.toInt64) <<< ((1 : Int32) &&& 0x3f).toInt64) + (p1.toInt64)) - ((p2.toInt64) <<< ((5 : Int32) &&& 0x3f).toInt64)) - ((p3.toInt64) <<< ((4 : Int32) &&& 0x3f).toInt64))), .second, .val (.int (1 : Int32)), .val (.ref b4), .val (.int (0 : Int32)), .val (.int ((own_sri p5 (1 : Int32)) - ((own_sri p5 (1 : Int32)) / (3 : Int32)) * (3 : Int32))), .val (.ref vF), .unset, .unset, .unset, .unset, .unset, .unset, .unset] [(.ref (own_of ((own_sri p5 (1 : Int32)) - ((own_sri p5 (1 : Int32)) / (3 : Int32)) * (3 : Int32)) vT vF vU))]))
    refine own_by (fun _ k => XS.astore X19.here hx rfl (hb hby at_125) rfl rfl (l' := #[.val (.int p0), .val (.int p1), .val (.int p2), .val (.int p3), .val (.int p4), .val (.int p5), .val (.ref b1), .val (.long (((((p0.toInt64) <<< ((1 : Int32) &&& 0x3f).toInt64) + (p1.toInt64)) - ((p2.toInt64) <<< ((5 : Int32) &&& 0x3f).toInt64)) - ((p3.toInt64) <<< ((4 : Int32) &&& 0x3f).toInt64))), .second, .val (.int (1 : Int32)), .val (.ref b4), .val (.int (0 : Int32)), .val (.int ((own_sri p5 (1 : Int32)) - ((own_sri p5 (1 : Int32)) / (3 : Int32)) * (3 : Int32))), .val (.ref vF), .val (.ref (own_of ((own_sri p5 (1 : Int32)) - ((own_sri p5 (1 : Int32)) / (3 : Int32)) * (3 : Int32)) vT vF vU)), .unset, .unset, .unset, .unset, .unset, .unset]) rfl k) ?_
    show own_Go p.tables e below s _ _ _ (T19.setTop (mkF m 127 #[.val (.int p0), .val (.int p1), .val (.int p2), .val (.int p3), .val (.int p4), .val (.int p5), .val (.ref b1), .val (.long (((((p0.toInt64) <<< ((1 : Int32) &&& 0x3f).toInt64) + (p1.toInt64)) - ((p2.toInt64) <<< ((5 : Int32) &&& 0x3f).toInt64)) - ((p3.toInt64) <<< ((4 : Int32) &&& 0x3f).toInt64))), .second, .val (.int (1 : Int32)), .val (.ref b4), .val (.int (0 : Int32)), .val (.int ((own_sri p5 (1 : Int32)) - ((own_sri p5 (1 : Int32)) / (3 : Int32)) * (3 : Int32))), .val (.ref vF), .val (.ref (own_of ((own_sri p5 (1 : Int32)) - ((own_sri p5 (1 : Int32)) / (3 : Int32)) * (3 : Int32)) vT vF vU)), .unset, .unset, .unset, .unset, .unset, .unset] []))
    refine own_by (fun _ k => XS.aload X19.here hx rfl (hb hby at_127) rfl rfl k) ?_
    show own_Go p.tables e below s _ _ _ (T19.setTop (mkF m 129 #[.val (.int p0), .val (.int p1), .val (.int p2), .val (.int p3), .val (.int p4), .val (.int p5), .val (.ref b1), .val (.long (((((p0.toInt64) <<< ((1 : Int32) &&& 0x3f).toInt64) + (p1.toInt64)) - ((p2.toInt64) <<< ((5 : Int32) &&& 0x3f).toInt64)) - ((p3.toInt64) <<< ((4 : Int32) &&& 0x3f).toInt64))), .second, .val (.int (1 : Int32)), .val (.ref b4), .val (.int (0 : Int32)), .val (.int ((own_sri p5 (1 : Int32)) - ((own_sri p5 (1 : Int32)) / (3 : Int32)) * (3 : Int32))), .val (.ref vF), .val (.ref (own_of ((own_sri p5 (1 : Int32)) - ((own_sri p5 (1 : Int32)) / (3 : Int32)) * (3 : Int32)) vT vF vU)), .unset, .unset, .unset, .unset, .unset, .unset] [(.ref b4)]))
    obtain ⟨v20, T20, L20, X20, q20, st20⟩ := own_callV X19 hx hZ hown (hw _ (List.mem_of_getElem? (i := 24) rfl)) (hw _ (List.mem_of_getElem? (i := 25) rfl)) (hw _ (List.mem_of_getElem? (i := 27) rfl)) (hw _ (List.mem_of_getElem? (i := 26) rfl)) (hw _ (List.mem_of_getElem? (i := 2) rfl)) (hw _ (List.mem_of_getElem? (i := 28) rfl)) (by decide) (rm4 l Z a0 hw [] b4 T10.heap n0 Z10 (own_clamp p0) (own_clamp p1) (own_clamp p2) (own_clamp p3) Fx10 Fy10 Fz10 Fw10) (W := 0) (by decide) (by decide) hh19 A4_h10 (g := (mkF m 129 #[.val (.int p0), .val (.int p1), .val (.int p2), .val (.int p3), .val (.int p4), .val (.int p5), .val (.ref b1), .val (.long (((((p0.toInt64) <<< ((1 : Int32) &&& 0x3f).toInt64) + (p1.toInt64)) - ((p2.toInt64) <<< ((5 : Int32) &&& 0x3f).toInt64)) - ((p3.toInt64) <<< ((4 : Int32) &&& 0x3f).toInt64))), .second, .val (.int (1 : Int32)), .val (.ref b4), .val (.int (0 : Int32)), .val (.int ((own_sri p5 (1 : Int32)) - ((own_sri p5 (1 : Int32)) / (3 : Int32)) * (3 : Int32))), .val (.ref vF), .val (.ref (own_of ((own_sri p5 (1 : Int32)) - ((own_sri p5 (1 : Int32)) / (3 : Int32)) * (3 : Int32)) vT vF vU)), .unset, .unset, .unset, .unset, .unset, .unset] [(.ref b4)])) rfl (by rw [hml]; rfl) (argsL := []) (rest := []) (lenOf pd_4 rfl) rfl rfl (by show 2 * 0 + _ ≤ _; exact Nat.le_of_eq rfl) (hb hby at_129) (by decide) (by decide)
    obtain ⟨rfl, Nq20, hh20⟩ := q20
    have N20 := Fr.app N19 Nq20
    refine own_by st20 ?_
    show own_Go p.tables e below s _ _ _ (T20.setTop (mkF m 132 #[.val (.int p0), .val (.int p1), .val (.int p2), .val (.int p3), .val (.int p4), .val (.int p5), .val (.ref b1), .val (.long (((((p0.toInt64) <<< ((1 : Int32) &&& 0x3f).toInt64) + (p1.toInt64)) - ((p2.toInt64) <<< ((5 : Int32) &&& 0x3f).toInt64)) - ((p3.toInt64) <<< ((4 : Int32) &&& 0x3f).toInt64))), .second, .val (.int (1 : Int32)), .val (.ref b4), .val (.int (0 : Int32)), .val (.int ((own_sri p5 (1 : Int32)) - ((own_sri p5 (1 : Int32)) / (3 : Int32)) * (3 : Int32))), .val (.ref vF), .val (.ref (own_of ((own_sri p5 (1 : Int32)) - ((own_sri p5 (1 : Int32)) / (3 : Int32)) * (3 : Int32)) vT vF vU)), .unset, .unset, .unset, .unset, .unset, .unset] [(.long (own_pts (own_clamp p0) (own_clamp p1) (own_clamp p2) (own_clamp p3)))]))
    refine own_by (fun _ k => XS.lstore X20.here hx rfl (hb hby at_132) rfl (l' := #[.val (.int p0), .val (.int p1), .val (.int p2), .val (.int p3), .val (.int p4), .val (.int p5), .val (.ref b1), .val (.long (((((p0.toInt64) <<< ((1 : Int32) &&& 0x3f).toInt64) + (p1.toInt64)) - ((p2.toInt64) <<< ((5 : Int32) &&& 0x3f).toInt64)) - ((p3.toInt64) <<< ((4 : Int32) &&& 0x3f).toInt64))), .second, .val (.int (1 : Int32)), .val (.ref b4), .val (.int (0 : Int32)), .val (.int ((own_sri p5 (1 : Int32)) - ((own_sri p5 (1 : Int32)) / (3 : Int32)) * (3 : Int32))), .val (.ref vF), .val (.ref (own_of ((own_sri p5 (1 : Int32)) - ((own_sri p5 (1 : Int32)) / (3 : Int32)) * (3 : Int32)) vT vF vU)), .val (.long (own_pts (own_clamp p0) (own_clamp p1) (own_clamp p2) (own_clamp p3))), .second, .unset, .unset, .unset, .unset]) rfl k) ?_
    show own_Go p.tables e below s _ _ _ (T20.setTop (mkF m 134 #[.val (.int p0), .val (.int p1), .val (.int p2), .val (.int p3), .val (.int p4), .val (.int p5), .val (.ref b1), .val (.long (((((p0.toInt64) <<< ((1 : Int32) &&& 0x3f).toInt64) + (p1.toInt64)) - ((p2.toInt64) <<< ((5 : Int32) &&& 0x3f).toInt64)) - ((p3.toInt64) <<< ((4 : Int32) &&& 0x3f).toInt64))), .second, .val (.int (1 : Int32)), .val (.ref b4), .val (.int (0 : Int32)), .val (.int ((own_sri p5 (1 : Int32)) - ((own_sri p5 (1 : Int32)) / (3 : Int32)) * (3 : Int32))), .val (.ref vF), .val (.ref (own_of ((own_sri p5 (1 : Int32)) - ((own_sri p5 (1 : Int32)) / (3 : Int32)) * (3 : Int32)) vT vF vU)), .val (.long (own_pts (own_clamp p0) (own_clamp p1) (own_clamp p2) (own_clamp p3))), .second, .unset, .unset, .unset, .unset] []))
    refine own_by (fun _ k => XS.aload X20.here hx rfl (hb hby at_134) rfl rfl k) ?_
    show own_Go p.tables e below s _ _ _ (T20.setTop (mkF m 136 #[.val (.int p0), .val (.int p1), .val (.int p2), .val (.int p3), .val (.int p4), .val (.int p5), .val (.ref b1), .val (.long (((((p0.toInt64) <<< ((1 : Int32) &&& 0x3f).toInt64) + (p1.toInt64)) - ((p2.toInt64) <<< ((5 : Int32) &&& 0x3f).toInt64)) - ((p3.toInt64) <<< ((4 : Int32) &&& 0x3f).toInt64))), .second, .val (.int (1 : Int32)), .val (.ref b4), .val (.int (0 : Int32)), .val (.int ((own_sri p5 (1 : Int32)) - ((own_sri p5 (1 : Int32)) / (3 : Int32)) * (3 : Int32))), .val (.ref vF), .val (.ref (own_of ((own_sri p5 (1 : Int32)) - ((own_sri p5 (1 : Int32)) / (3 : Int32)) * (3 : Int32)) vT vF vU)), .val (.long (own_pts (own_clamp p0) (own_clamp p1) (own_clamp p2) (own_clamp p3))), .second, .unset, .unset, .unset, .unset] [(.ref b4)]))
    refine own_by (fun _ k => XS.aload X20.here hx rfl (hb hby at_136) rfl rfl k) ?_
    show own_Go p.tables e below s _ _ _ (T20.setTop (mkF m 138 #[.val (.int p0), .val (.int p1), .val (.int p2), .val (.int p3), .val (.int p4), .val (.int p5), .val (.ref b1), .val (.long (((((p0.toInt64) <<< ((1 : Int32) &&& 0x3f).toInt64) + (p1.toInt64)) - ((p2.toInt64) <<< ((5 : Int32) &&& 0x3f).toInt64)) - ((p3.toInt64) <<< ((4 : Int32) &&& 0x3f).toInt64))), .second, .val (.int (1 : Int32)), .val (.ref b4), .val (.int (0 : Int32)), .val (.int ((own_sri p5 (1 : Int32)) - ((own_sri p5 (1 : Int32)) / (3 : Int32)) * (3 : Int32))), .val (.ref vF), .val (.ref (own_of ((own_sri p5 (1 : Int32)) - ((own_sri p5 (1 : Int32)) / (3 : Int32)) * (3 : Int32)) vT vF vU)), .val (.long (own_pts (own_clamp p0) (own_clamp p1) (own_clamp p2) (own_clamp p3))), .second, .unset, .unset, .unset, .unset] [(.ref vF), (.ref b4)]))
    refine own_by (fun _ k => XS.aload X20.here hx rfl (hb hby at_138) rfl rfl k) ?_
    show own_Go p.tables e below s _ _ _ (T20.setTop (mkF m 140 #[.val (.int p0), .val (.int p1), .val (.int p2), .val (.int p3), .val (.int p4), .val (.int p5), .val (.ref b1), .val (.long (((((p0.toInt64) <<< ((1 : Int32) &&& 0x3f).toInt64) + (p1.toInt64)) - ((p2.toInt64) <<< ((5 : Int32) &&& 0x3f).toInt64)) - ((p3.toInt64) <<< ((4 : Int32) &&& 0x3f).toInt64))), .second, .val (.int (1 : Int32)), .val (.ref b4), .val (.int (0 : Int32)), .val (.int ((own_sri p5 (1 : Int32)) - ((own_sri p5 (1 : Int32)) / (3 : Int32)) * (3 : Int32))), .val (.ref vF), .val (.ref (own_of ((own_sri p5 (1 : Int32)) - ((own_sri p5 (1 : Int32)) / (3 : Int32)) * (3 : Int32)) vT vF vU)), .val (.long (own_pts (own_clamp p0) (own_clamp p1) (own_clamp p2) (own_clamp p3))), .second, .unset, .unset, .unset, .unset] [(.ref (own_of ((own_sri p5 (1 : Int32)) - ((own_sri p5 (1 : Int32)) / (3 : Int32)) * (3 : Int32)) vT vF vU)), (.ref vF), (.ref b4)]))
    obtain ⟨v21, T21, L21, X21, q21, st21⟩ := own_callV X20 hx hZ hown (hw _ (List.mem_of_getElem? (i := 47) rfl)) (hw _ (List.mem_of_getElem? (i := 48) rfl)) (hw _ (List.mem_of_getElem? (i := 50) rfl)) (hw _ (List.mem_of_getElem? (i := 49) rfl)) (hw _ (List.mem_of_getElem? (i := 2) rfl)) (hw _ (List.mem_of_getElem? (i := 51) rfl)) (by decide) (rm8 l Z a0 hw [] b4 vF (own_of ((own_sri p5 (1 : Int32)) - ((own_sri p5 (1 : Int32)) / (3 : Int32)) * (3 : Int32)) vT vF vU) T10.heap n0 Z10 vT vU (STRUE.ext O10.2) (SUNKNOWN.ext O10.2) nFU (own_clamp p0) (own_clamp p1) (own_clamp p2) (own_clamp p3) (own_clamp p4) A4_h10 Fx10 Fy10 Fz10 Fw10 Fu10 ge_b4) (W := 0) (by decide) (by decide) hh20 A4_h10 (g := (mkF m 140 #[.val (.int p0), .val (.int p1), .val (.int p2), .val (.int p3), .val (.int p4), .val (.int p5), .val (.ref b1), .val (.long (((((p0.toInt64) <<< ((1 : Int32) &&& 0x3f).toInt64) + (p1.toInt64)) - ((p2.toInt64) <<< ((5 : Int32) &&& 0x3f).toInt64)) - ((p3.toInt64) <<< ((4 : Int32) &&& 0x3f).toInt64))), .second, .val (.int (1 : Int32)), .val (.ref b4), .val (.int (0 : Int32)), .val (.int ((own_sri p5 (1 : Int32)) - ((own_sri p5 (1 : Int32)) / (3 : Int32)) * (3 : Int32))), .val (.ref vF), .val (.ref (own_of ((own_sri p5 (1 : Int32)) - ((own_sri p5 (1 : Int32)) / (3 : Int32)) * (3 : Int32)) vT vF vU)), .val (.long (own_pts (own_clamp p0) (own_clamp p1) (own_clamp p2) (own_clamp p3))), .second, .unset, .unset, .unset, .unset] [(.ref (own_of ((own_sri p5 (1 : Int32)) - ((own_sri p5 (1 : Int32)) / (3 : Int32)) * (3 : Int32)) vT vF vU)), (.ref vF), (.ref b4)])) rfl (by rw [hml]; rfl) (argsL := [(.ref vF), (.ref (own_of ((own_sri p5 (1 : Int32)) - ((own_sri p5 (1 : Int32)) / (3 : Int32)) * (3 : Int32)) vT vF vU))]) (rest := []) (lenOf pd_8 rfl) rfl rfl (by show 2 * 0 + _ ≤ _; exact Nat.le_of_eq rfl) (hb hby at_140) (by decide) (by decide)
    obtain ⟨r21, xa21, xb21, xc21, xd21, rfl, Nq21, Kq21, gr21, Er21, Fx21, Fy21, Fz21, Fw21, Step21⟩ := q21
    have N21 := Fr.app N20 Nq21
    have Z21 : n0 ≤ T21.heap.size := Nat.le_trans Z10 Kq21.1
    have O21 := O10.keep Kq21 all0
    have A4_h21 := A4_h10.keep Kq21
    have Fx10_h21 := Fx10.keep Kq21 nin0
    have Fy10_h21 := Fy10.keep Kq21 nin0
    have Fz10_h21 := Fz10.keep Kq21 nin0
    have Fw10_h21 := Fw10.keep Kq21 nin0
    have Fu10_h21 := Fu10.keep Kq21 nin0
    refine own_by st21 ?_
    show own_Go p.tables e below s _ _ _ (T21.setTop (mkF m 143 #[.val (.int p0), .val (.int p1), .val (.int p2), .val (.int p3), .val (.int p4), .val (.int p5), .val (.ref b1), .val (.long (((((p0.toInt64) <<< ((1 : Int32) &&& 0x3f).toInt64) + (p1.toInt64)) - ((p2.toInt64) <<< ((5 : Int32) &&& 0x3f).toInt64)) - ((p3.toInt64) <<< ((4 : Int32) &&& 0x3f).toInt64))), .second, .val (.int (1 : Int32)), .val (.ref b4), .val (.int (0 : Int32)), .val (.int ((own_sri p5 (1 : Int32)) - ((own_sri p5 (1 : Int32)) / (3 : Int32)) * (3 : Int32))), .val (.ref vF), .val (.ref (own_of ((own_sri p5 (1 : Int32)) - ((own_sri p5 (1 : Int32)) / (3 : Int32)) * (3 : Int32)) vT vF vU)), .val (.long (own_pts (own_clamp p0) (own_clamp p1) (own_clamp p2) (own_clamp p3))), .second, .unset, .unset, .unset, .unset] [(.ref r21)]))
    refine own_by (fun _ k => XS.astore X21.here hx rfl (hb hby at_143) rfl rfl (l' := #[.val (.int p0), .val (.int p1), .val (.int p2), .val (.int p3), .val (.int p4), .val (.int p5), .val (.ref b1), .val (.long (((((p0.toInt64) <<< ((1 : Int32) &&& 0x3f).toInt64) + (p1.toInt64)) - ((p2.toInt64) <<< ((5 : Int32) &&& 0x3f).toInt64)) - ((p3.toInt64) <<< ((4 : Int32) &&& 0x3f).toInt64))), .second, .val (.int (1 : Int32)), .val (.ref b4), .val (.int (0 : Int32)), .val (.int ((own_sri p5 (1 : Int32)) - ((own_sri p5 (1 : Int32)) / (3 : Int32)) * (3 : Int32))), .val (.ref vF), .val (.ref (own_of ((own_sri p5 (1 : Int32)) - ((own_sri p5 (1 : Int32)) / (3 : Int32)) * (3 : Int32)) vT vF vU)), .val (.long (own_pts (own_clamp p0) (own_clamp p1) (own_clamp p2) (own_clamp p3))), .second, .val (.ref r21), .unset, .unset, .unset]) rfl k) ?_
    show own_Go p.tables e below s _ _ _ (T21.setTop (mkF m 145 #[.val (.int p0), .val (.int p1), .val (.int p2), .val (.int p3), .val (.int p4), .val (.int p5), .val (.ref b1), .val (.long (((((p0.toInt64) <<< ((1 : Int32) &&& 0x3f).toInt64) + (p1.toInt64)) - ((p2.toInt64) <<< ((5 : Int32) &&& 0x3f).toInt64)) - ((p3.toInt64) <<< ((4 : Int32) &&& 0x3f).toInt64))), .second, .val (.int (1 : Int32)), .val (.ref b4), .val (.int (0 : Int32)), .val (.int ((own_sri p5 (1 : Int32)) - ((own_sri p5 (1 : Int32)) / (3 : Int32)) * (3 : Int32))), .val (.ref vF), .val (.ref (own_of ((own_sri p5 (1 : Int32)) - ((own_sri p5 (1 : Int32)) / (3 : Int32)) * (3 : Int32)) vT vF vU)), .val (.long (own_pts (own_clamp p0) (own_clamp p1) (own_clamp p2) (own_clamp p3))), .second, .val (.ref r21), .unset, .unset, .unset] []))
    refine own_by (fun _ k => XS.aload X21.here hx rfl (hb hby at_145) rfl rfl k) ?_
    show own_Go p.tables e below s _ _ _ (T21.setTop (mkF m 147 #[.val (.int p0), .val (.int p1), .val (.int p2), .val (.int p3), .val (.int p4), .val (.int p5), .val (.ref b1), .val (.long (((((p0.toInt64) <<< ((1 : Int32) &&& 0x3f).toInt64) + (p1.toInt64)) - ((p2.toInt64) <<< ((5 : Int32) &&& 0x3f).toInt64)) - ((p3.toInt64) <<< ((4 : Int32) &&& 0x3f).toInt64))), .second, .val (.int (1 : Int32)), .val (.ref b4), .val (.int (0 : Int32)), .val (.int ((own_sri p5 (1 : Int32)) - ((own_sri p5 (1 : Int32)) / (3 : Int32)) * (3 : Int32))), .val (.ref vF), .val (.ref (own_of ((own_sri p5 (1 : Int32)) - ((own_sri p5 (1 : Int32)) / (3 : Int32)) * (3 : Int32)) vT vF vU)), .val (.long (own_pts (own_clamp p0) (own_clamp p1) (own_clamp p2) (own_clamp p3))), .second, .val (.ref r21), .unset, .unset, .unset] [(.ref r21)]))
    obtain ⟨v22, T22, L22, X22, q22, st22⟩ := own_callV X21 hx hZ hown (hw _ (List.mem_of_getElem? (i := 24) rfl)) (hw _ (List.mem_of_getElem? (i := 25) rfl)) (hw _ (List.mem_of_getElem? (i := 27) rfl)) (hw _ (List.mem_of_getElem? (i := 26) rfl)) (hw _ (List.mem_of_getElem? (i := 2) rfl)) (hw _ (List.mem_of_getElem? (i := 28) rfl)) (by decide) (rm4 l Z a0 hw [] r21 T21.heap n0 Z21 xa21 xb21 xc21 xd21 Fx21 Fy21 Fz21 Fw21) (W := 0) (by decide) (by decide) rfl Er21 (g := (mkF m 147 #[.val (.int p0), .val (.int p1), .val (.int p2), .val (.int p3), .val (.int p4), .val (.int p5), .val (.ref b1), .val (.long (((((p0.toInt64) <<< ((1 : Int32) &&& 0x3f).toInt64) + (p1.toInt64)) - ((p2.toInt64) <<< ((5 : Int32) &&& 0x3f).toInt64)) - ((p3.toInt64) <<< ((4 : Int32) &&& 0x3f).toInt64))), .second, .val (.int (1 : Int32)), .val (.ref b4), .val (.int (0 : Int32)), .val (.int ((own_sri p5 (1 : Int32)) - ((own_sri p5 (1 : Int32)) / (3 : Int32)) * (3 : Int32))), .val (.ref vF), .val (.ref (own_of ((own_sri p5 (1 : Int32)) - ((own_sri p5 (1 : Int32)) / (3 : Int32)) * (3 : Int32)) vT vF vU)), .val (.long (own_pts (own_clamp p0) (own_clamp p1) (own_clamp p2) (own_clamp p3))), .second, .val (.ref r21), .unset, .unset, .unset] [(.ref r21)])) rfl (by rw [hml]; rfl) (argsL := []) (rest := []) (lenOf pd_4 rfl) rfl rfl (by show 2 * 0 + _ ≤ _; exact Nat.le_of_eq rfl) (hb hby at_147) (by decide) (by decide)
    obtain ⟨rfl, Nq22, hh22⟩ := q22
    have N22 := Fr.app N21 Nq22
    refine own_by st22 ?_
    show own_Go p.tables e below s _ _ _ (T22.setTop (mkF m 150 #[.val (.int p0), .val (.int p1), .val (.int p2), .val (.int p3), .val (.int p4), .val (.int p5), .val (.ref b1), .val (.long (((((p0.toInt64) <<< ((1 : Int32) &&& 0x3f).toInt64) + (p1.toInt64)) - ((p2.toInt64) <<< ((5 : Int32) &&& 0x3f).toInt64)) - ((p3.toInt64) <<< ((4 : Int32) &&& 0x3f).toInt64))), .second, .val (.int (1 : Int32)), .val (.ref b4), .val (.int (0 : Int32)), .val (.int ((own_sri p5 (1 : Int32)) - ((own_sri p5 (1 : Int32)) / (3 : Int32)) * (3 : Int32))), .val (.ref vF), .val (.ref (own_of ((own_sri p5 (1 : Int32)) - ((own_sri p5 (1 : Int32)) / (3 : Int32)) * (3 : Int32)) vT vF vU)), .val (.long (own_pts (own_clamp p0) (own_clamp p1) (own_clamp p2) (own_clamp p3))), .second, .val (.ref r21), .unset, .unset, .unset] [(.long (own_pts xa21 xb21 xc21 xd21))]))
    refine own_by (fun _ k => XS.lstore X22.here hx rfl (hb hby at_150) rfl (l' := #[.val (.int p0), .val (.int p1), .val (.int p2), .val (.int p3), .val (.int p4), .val (.int p5), .val (.ref b1), .val (.long (((((p0.toInt64) <<< ((1 : Int32) &&& 0x3f).toInt64) + (p1.toInt64)) - ((p2.toInt64) <<< ((5 : Int32) &&& 0x3f).toInt64)) - ((p3.toInt64) <<< ((4 : Int32) &&& 0x3f).toInt64))), .second, .val (.int (1 : Int32)), .val (.ref b4), .val (.int (0 : Int32)), .val (.int ((own_sri p5 (1 : Int32)) - ((own_sri p5 (1 : Int32)) / (3 : Int32)) * (3 : Int32))), .val (.ref vF), .val (.ref (own_of ((own_sri p5 (1 : Int32)) - ((own_sri p5 (1 : Int32)) / (3 : Int32)) * (3 : Int32)) vT vF vU)), .val (.long (own_pts (own_clamp p0) (own_clamp p1) (own_clamp p2) (own_clamp p3))), .second, .val (.ref r21), .val (.long (own_pts xa21 xb21 xc21 xd21)), .second, .unset]) rfl k) ?_
    show own_Go p.tables e below s _ _ _ (T22.setTop (mkF m 152 #[.val (.int p0), .val (.int p1), .val (.int p2), .val (.int p3), .val (.int p4), .val (.int p5), .val (.ref b1), .val (.long (((((p0.toInt64) <<< ((1 : Int32) &&& 0x3f).toInt64) + (p1.toInt64)) - ((p2.toInt64) <<< ((5 : Int32) &&& 0x3f).toInt64)) - ((p3.toInt64) <<< ((4 : Int32) &&& 0x3f).toInt64))), .second, .val (.int (1 : Int32)), .val (.ref b4), .val (.int (0 : Int32)), .val (.int ((own_sri p5 (1 : Int32)) - ((own_sri p5 (1 : Int32)) / (3 : Int32)) * (3 : Int32))), .val (.ref vF), .val (.ref (own_of ((own_sri p5 (1 : Int32)) - ((own_sri p5 (1 : Int32)) / (3 : Int32)) * (3 : Int32)) vT vF vU)), .val (.long (own_pts (own_clamp p0) (own_clamp p1) (own_clamp p2) (own_clamp p3))), .second, .val (.ref r21), .val (.long (own_pts xa21 xb21 xc21 xd21)), .second, .unset] []))
    refine own_by (fun _ k => XS.lload X22.here hx rfl (hb hby at_152) rfl k) ?_
    show own_Go p.tables e below s _ _ _ (T22.setTop (mkF m 154 #[.val (.int p0), .val (.int p1), .val (.int p2), .val (.int p3), .val (.int p4), .val (.int p5), .val (.ref b1), .val (.long (((((p0.toInt64) <<< ((1 : Int32) &&& 0x3f).toInt64) + (p1.toInt64)) - ((p2.toInt64) <<< ((5 : Int32) &&& 0x3f).toInt64)) - ((p3.toInt64) <<< ((4 : Int32) &&& 0x3f).toInt64))), .second, .val (.int (1 : Int32)), .val (.ref b4), .val (.int (0 : Int32)), .val (.int ((own_sri p5 (1 : Int32)) - ((own_sri p5 (1 : Int32)) / (3 : Int32)) * (3 : Int32))), .val (.ref vF), .val (.ref (own_of ((own_sri p5 (1 : Int32)) - ((own_sri p5 (1 : Int32)) / (3 : Int32)) * (3 : Int32)) vT vF vU)), .val (.long (own_pts (own_clamp p0) (own_clamp p1) (own_clamp p2) (own_clamp p3))), .second, .val (.ref r21), .val (.long (own_pts xa21 xb21 xc21 xd21)), .second, .unset] [(.long (own_pts xa21 xb21 xc21 xd21))]))
    refine own_by (fun _ k => XS.lload X22.here hx rfl (hb hby at_154) rfl k) ?_
    show own_Go p.tables e below s _ _ _ (T22.setTop (mkF m 156 #[.val (.int p0), .val (.int p1), .val (.int p2), .val (.int p3), .val (.int p4), .val (.int p5), .val (.ref b1), .val (.long (((((p0.toInt64) <<< ((1 : Int32) &&& 0x3f).toInt64) + (p1.toInt64)) - ((p2.toInt64) <<< ((5 : Int32) &&& 0x3f).toInt64)) - ((p3.toInt64) <<< ((4 : Int32) &&& 0x3f).toInt64))), .second, .val (.int (1 : Int32)), .val (.ref b4), .val (.int (0 : Int32)), .val (.int ((own_sri p5 (1 : Int32)) - ((own_sri p5 (1 : Int32)) / (3 : Int32)) * (3 : Int32))), .val (.ref vF), .val (.ref (own_of ((own_sri p5 (1 : Int32)) - ((own_sri p5 (1 : Int32)) / (3 : Int32)) * (3 : Int32)) vT vF vU)), .val (.long (own_pts (own_clamp p0) (own_clamp p1) (own_clamp p2) (own_clamp p3))), .second, .val (.ref r21), .val (.long (own_pts xa21 xb21 xc21 xd21)), .second, .unset] [(.long (own_pts (own_clamp p0) (own_clamp p1) (own_clamp p2) (own_clamp p3))), (.long (own_pts xa21 xb21 xc21 xd21))]))
    refine own_by (fun _ k => XS.lsub X22.here hx rfl (hb hby at_156) rfl k) ?_
    show own_Go p.tables e below s _ _ _ (T22.setTop (mkF m 157 #[.val (.int p0), .val (.int p1), .val (.int p2), .val (.int p3), .val (.int p4), .val (.int p5), .val (.ref b1), .val (.long (((((p0.toInt64) <<< ((1 : Int32) &&& 0x3f).toInt64) + (p1.toInt64)) - ((p2.toInt64) <<< ((5 : Int32) &&& 0x3f).toInt64)) - ((p3.toInt64) <<< ((4 : Int32) &&& 0x3f).toInt64))), .second, .val (.int (1 : Int32)), .val (.ref b4), .val (.int (0 : Int32)), .val (.int ((own_sri p5 (1 : Int32)) - ((own_sri p5 (1 : Int32)) / (3 : Int32)) * (3 : Int32))), .val (.ref vF), .val (.ref (own_of ((own_sri p5 (1 : Int32)) - ((own_sri p5 (1 : Int32)) / (3 : Int32)) * (3 : Int32)) vT vF vU)), .val (.long (own_pts (own_clamp p0) (own_clamp p1) (own_clamp p2) (own_clamp p3))), .second, .val (.ref r21), .val (.long (own_pts xa21 xb21 xc21 xd21)), .second, .unset] [(.long ((own_pts xa21 xb21 xc21 xd21) - (own_pts (own_clamp p0) (own_clamp p1) (own_clamp p2) (own_clamp p3))))]))
    refine own_by (fun _ k => XS.iload X22.here hx rfl (hb hby at_157) rfl k) ?_
    show own_Go p.tables e below s _ _ _ (T22.setTop (mkF m 159 #[.val (.int p0), .val (.int p1), .val (.int p2), .val (.int p3), .val (.int p4), .val (.int p5), .val (.ref b1), .val (.long (((((p0.toInt64) <<< ((1 : Int32) &&& 0x3f).toInt64) + (p1.toInt64)) - ((p2.toInt64) <<< ((5 : Int32) &&& 0x3f).toInt64)) - ((p3.toInt64) <<< ((4 : Int32) &&& 0x3f).toInt64))), .second, .val (.int (1 : Int32)), .val (.ref b4), .val (.int (0 : Int32)), .val (.int ((own_sri p5 (1 : Int32)) - ((own_sri p5 (1 : Int32)) / (3 : Int32)) * (3 : Int32))), .val (.ref vF), .val (.ref (own_of ((own_sri p5 (1 : Int32)) - ((own_sri p5 (1 : Int32)) / (3 : Int32)) * (3 : Int32)) vT vF vU)), .val (.long (own_pts (own_clamp p0) (own_clamp p1) (own_clamp p2) (own_clamp p3))), .second, .val (.ref r21), .val (.long (own_pts xa21 xb21 xc21 xd21)), .second, .unset] [(.int (0 : Int32)), (.long ((own_pts xa21 xb21 xc21 xd21) - (own_pts (own_clamp p0) (own_clamp p1) (own_clamp p2) (own_clamp p3))))]))
    refine own_by (fun _ k => XS.iload X22.here hx rfl (hb hby at_159) rfl k) ?_
    show own_Go p.tables e below s _ _ _ (T22.setTop (mkF m 161 #[.val (.int p0), .val (.int p1), .val (.int p2), .val (.int p3), .val (.int p4), .val (.int p5), .val (.ref b1), .val (.long (((((p0.toInt64) <<< ((1 : Int32) &&& 0x3f).toInt64) + (p1.toInt64)) - ((p2.toInt64) <<< ((5 : Int32) &&& 0x3f).toInt64)) - ((p3.toInt64) <<< ((4 : Int32) &&& 0x3f).toInt64))), .second, .val (.int (1 : Int32)), .val (.ref b4), .val (.int (0 : Int32)), .val (.int ((own_sri p5 (1 : Int32)) - ((own_sri p5 (1 : Int32)) / (3 : Int32)) * (3 : Int32))), .val (.ref vF), .val (.ref (own_of ((own_sri p5 (1 : Int32)) - ((own_sri p5 (1 : Int32)) / (3 : Int32)) * (3 : Int32)) vT vF vU)), .val (.long (own_pts (own_clamp p0) (own_clamp p1) (own_clamp p2) (own_clamp p3))), .second, .val (.ref r21), .val (.long (own_pts xa21 xb21 xc21 xd21)), .second, .unset] [(.int ((own_sri p5 (1 : Int32)) - ((own_sri p5 (1 : Int32)) / (3 : Int32)) * (3 : Int32))), (.int (0 : Int32)), (.long ((own_pts xa21 xb21 xc21 xd21) - (own_pts (own_clamp p0) (own_clamp p1) (own_clamp p2) (own_clamp p3))))]))
    obtain ⟨v23, T23, L23, X23, q23, st23⟩ := own_callS X22 hx hZ hown (hw _ (List.mem_of_getElem? (i := 58) rfl)) (hw _ (List.mem_of_getElem? (i := 59) rfl)) (hw _ (List.mem_of_getElem? (i := 34) rfl)) (hw _ (List.mem_of_getElem? (i := 60) rfl)) (by decide) (rm9 l Z a0 hw [] (0 : Int32) ((own_sri p5 (1 : Int32)) - ((own_sri p5 (1 : Int32)) / (3 : Int32)) * (3 : Int32)) T21.heap n0 Z21) (W := 2) (by decide) (by decide) hh22 (g := (mkF m 161 #[.val (.int p0), .val (.int p1), .val (.int p2), .val (.int p3), .val (.int p4), .val (.int p5), .val (.ref b1), .val (.long (((((p0.toInt64) <<< ((1 : Int32) &&& 0x3f).toInt64) + (p1.toInt64)) - ((p2.toInt64) <<< ((5 : Int32) &&& 0x3f).toInt64)) - ((p3.toInt64) <<< ((4 : Int32) &&& 0x3f).toInt64))), .second, .val (.int (1 : Int32)), .val (.ref b4), .val (.int (0 : Int32)), .val (.int ((own_sri p5 (1 : Int32)) - ((own_sri p5 (1 : Int32)) / (3 : Int32)) * (3 : Int32))), .val (.ref vF), .val (.ref (own_of ((own_sri p5 (1 : Int32)) - ((own_sri p5 (1 : Int32)) / (3 : Int32)) * (3 : Int32)) vT vF vU)), .val (.long (own_pts (own_clamp p0) (own_clamp p1) (own_clamp p2) (own_clamp p3))), .second, .val (.ref r21), .val (.long (own_pts xa21 xb21 xc21 xd21)), .second, .unset] [(.int ((own_sri p5 (1 : Int32)) - ((own_sri p5 (1 : Int32)) / (3 : Int32)) * (3 : Int32))), (.int (0 : Int32)), (.long ((own_pts xa21 xb21 xc21 xd21) - (own_pts (own_clamp p0) (own_clamp p1) (own_clamp p2) (own_clamp p3))))])) rfl (by rw [hml]; rfl) (argsL := [(.int (0 : Int32)), (.int ((own_sri p5 (1 : Int32)) - ((own_sri p5 (1 : Int32)) / (3 : Int32)) * (3 : Int32)))]) (rest := [(.long ((own_pts xa21 xb21 xc21 xd21) - (own_pts (own_clamp p0) (own_clamp p1) (own_clamp p2) (own_clamp p3))))]) (lenOf pd_9 rfl) rfl rfl (by show 2 * 0 + _ ≤ _; exact Nat.le_of_eq rfl) (hb hby at_161) (by decide) (by decide)
    obtain ⟨rfl, Nq23, hh23⟩ := q23
    have N23 := Fr.app N22 Nq23
    refine own_by st23 ?_
    show own_Go p.tables e below s _ _ _ (T23.setTop (mkF m 164 #[.val (.int p0), .val (.int p1), .val (.int p2), .val (.int p3), .val (.int p4), .val (.int p5), .val (.ref b1), .val (.long (((((p0.toInt64) <<< ((1 : Int32) &&& 0x3f).toInt64) + (p1.toInt64)) - ((p2.toInt64) <<< ((5 : Int32) &&& 0x3f).toInt64)) - ((p3.toInt64) <<< ((4 : Int32) &&& 0x3f).toInt64))), .second, .val (.int (1 : Int32)), .val (.ref b4), .val (.int (0 : Int32)), .val (.int ((own_sri p5 (1 : Int32)) - ((own_sri p5 (1 : Int32)) / (3 : Int32)) * (3 : Int32))), .val (.ref vF), .val (.ref (own_of ((own_sri p5 (1 : Int32)) - ((own_sri p5 (1 : Int32)) / (3 : Int32)) * (3 : Int32)) vT vF vU)), .val (.long (own_pts (own_clamp p0) (own_clamp p1) (own_clamp p2) (own_clamp p3))), .second, .val (.ref r21), .val (.long (own_pts xa21 xb21 xc21 xd21)), .second, .unset] [(.long (own_delta (0 : Int32) ((own_sri p5 (1 : Int32)) - ((own_sri p5 (1 : Int32)) / (3 : Int32)) * (3 : Int32)))), (.long ((own_pts xa21 xb21 xc21 xd21) - (own_pts (own_clamp p0) (own_clamp p1) (own_clamp p2) (own_clamp p3))))]))
    refine own_by (fun _ k => XS.lcmp X23.here hx rfl (hb hby at_164) rfl k) ?_
    show own_Go p.tables e below s _ _ _ (T23.setTop (mkF m 165 #[.val (.int p0), .val (.int p1), .val (.int p2), .val (.int p3), .val (.int p4), .val (.int p5), .val (.ref b1), .val (.long (((((p0.toInt64) <<< ((1 : Int32) &&& 0x3f).toInt64) + (p1.toInt64)) - ((p2.toInt64) <<< ((5 : Int32) &&& 0x3f).toInt64)) - ((p3.toInt64) <<< ((4 : Int32) &&& 0x3f).toInt64))), .second, .val (.int (1 : Int32)), .val (.ref b4), .val (.int (0 : Int32)), .val (.int ((own_sri p5 (1 : Int32)) - ((own_sri p5 (1 : Int32)) / (3 : Int32)) * (3 : Int32))), .val (.ref vF), .val (.ref (own_of ((own_sri p5 (1 : Int32)) - ((own_sri p5 (1 : Int32)) / (3 : Int32)) * (3 : Int32)) vT vF vU)), .val (.long (own_pts (own_clamp p0) (own_clamp p1) (own_clamp p2) (own_clamp p3))), .second, .val (.ref r21), .val (.long (own_pts xa21 xb21 xc21 xd21)), .second, .unset] [(.int (lcmpW ((own_pts xa21 xb21 xc21 xd21) - (own_pts (own_clamp p0) (own_clamp p1) (own_clamp p2) (own_clamp p3))) (own_delta (0 : Int32) ((own_sri p5 (1 : Int32)) - ((own_sri p5 (1 : Int32)) / (3 : Int32)) * (3 : Int32)))))]))
    refine own_by (fun _ k => XS.ifNo X23.here hx rfl (hb hby at_165) rfl ((if0 _ _).trans (teq (show (lcmpW ((own_pts xa21 xb21 xc21 xd21) - (own_pts (own_clamp p0) (own_clamp p1) (own_clamp p2) (own_clamp p3))) (own_delta (0 : Int32) ((own_sri p5 (1 : Int32)) - ((own_sri p5 (1 : Int32)) / (3 : Int32)) * (3 : Int32)))) = (0 : Int32) from (lw_eq _ _).mpr (own_after nTF nTU nFU (own_sel _) (Or.inr ⟨rfl, rfl⟩) (own_clamp_le _) (own_clamp_le _) (own_clamp_le _) (own_clamp_le _) Step21))).2) k) ?_
    show own_Go p.tables e below s _ _ _ (T23.setTop (mkF m 168 #[.val (.int p0), .val (.int p1), .val (.int p2), .val (.int p3), .val (.int p4), .val (.int p5), .val (.ref b1), .val (.long (((((p0.toInt64) <<< ((1 : Int32) &&& 0x3f).toInt64) + (p1.toInt64)) - ((p2.toInt64) <<< ((5 : Int32) &&& 0x3f).toInt64)) - ((p3.toInt64) <<< ((4 : Int32) &&& 0x3f).toInt64))), .second, .val (.int (1 : Int32)), .val (.ref b4), .val (.int (0 : Int32)), .val (.int ((own_sri p5 (1 : Int32)) - ((own_sri p5 (1 : Int32)) / (3 : Int32)) * (3 : Int32))), .val (.ref vF), .val (.ref (own_of ((own_sri p5 (1 : Int32)) - ((own_sri p5 (1 : Int32)) / (3 : Int32)) * (3 : Int32)) vT vF vU)), .val (.long (own_pts (own_clamp p0) (own_clamp p1) (own_clamp p2) (own_clamp p3))), .second, .val (.ref r21), .val (.long (own_pts xa21 xb21 xc21 xd21)), .second, .unset] []))
    refine own_by (fun _ k => XS.iconst X23.here hx rfl (hb hby at_168) k) ?_
    show own_Go p.tables e below s _ _ _ (T23.setTop (mkF m 169 #[.val (.int p0), .val (.int p1), .val (.int p2), .val (.int p3), .val (.int p4), .val (.int p5), .val (.ref b1), .val (.long (((((p0.toInt64) <<< ((1 : Int32) &&& 0x3f).toInt64) + (p1.toInt64)) - ((p2.toInt64) <<< ((5 : Int32) &&& 0x3f).toInt64)) - ((p3.toInt64) <<< ((4 : Int32) &&& 0x3f).toInt64))), .second, .val (.int (1 : Int32)), .val (.ref b4), .val (.int (0 : Int32)), .val (.int ((own_sri p5 (1 : Int32)) - ((own_sri p5 (1 : Int32)) / (3 : Int32)) * (3 : Int32))), .val (.ref vF), .val (.ref (own_of ((own_sri p5 (1 : Int32)) - ((own_sri p5 (1 : Int32)) / (3 : Int32)) * (3 : Int32)) vT vF vU)), .val (.long (own_pts (own_clamp p0) (own_clamp p1) (own_clamp p2) (own_clamp p3))), .second, .val (.ref r21), .val (.long (own_pts xa21 xb21 xc21 xd21)), .second, .unset] [(.int (1 : Int32))]))
    refine own_by (fun _ k => XS.goto X23.here hx rfl (pc0 := 169) (pc' := 173) rfl (hb hby at_169) (by decide) (by decide) k) ?_
    show own_Go p.tables e below s _ _ _ (T23.setTop (mkF m 173 #[.val (.int p0), .val (.int p1), .val (.int p2), .val (.int p3), .val (.int p4), .val (.int p5), .val (.ref b1), .val (.long (((((p0.toInt64) <<< ((1 : Int32) &&& 0x3f).toInt64) + (p1.toInt64)) - ((p2.toInt64) <<< ((5 : Int32) &&& 0x3f).toInt64)) - ((p3.toInt64) <<< ((4 : Int32) &&& 0x3f).toInt64))), .second, .val (.int (1 : Int32)), .val (.ref b4), .val (.int (0 : Int32)), .val (.int ((own_sri p5 (1 : Int32)) - ((own_sri p5 (1 : Int32)) / (3 : Int32)) * (3 : Int32))), .val (.ref vF), .val (.ref (own_of ((own_sri p5 (1 : Int32)) - ((own_sri p5 (1 : Int32)) / (3 : Int32)) * (3 : Int32)) vT vF vU)), .val (.long (own_pts (own_clamp p0) (own_clamp p1) (own_clamp p2) (own_clamp p3))), .second, .val (.ref r21), .val (.long (own_pts xa21 xb21 xc21 xd21)), .second, .unset] [(.int (1 : Int32))]))
    refine own_by (fun _ k => XS.istore X23.here hx rfl (hb hby at_173) rfl (l' := #[.val (.int p0), .val (.int p1), .val (.int p2), .val (.int p3), .val (.int p4), .val (.int p5), .val (.ref b1), .val (.long (((((p0.toInt64) <<< ((1 : Int32) &&& 0x3f).toInt64) + (p1.toInt64)) - ((p2.toInt64) <<< ((5 : Int32) &&& 0x3f).toInt64)) - ((p3.toInt64) <<< ((4 : Int32) &&& 0x3f).toInt64))), .second, .val (.int (1 : Int32)), .val (.ref b4), .val (.int (0 : Int32)), .val (.int ((own_sri p5 (1 : Int32)) - ((own_sri p5 (1 : Int32)) / (3 : Int32)) * (3 : Int32))), .val (.ref vF), .val (.ref (own_of ((own_sri p5 (1 : Int32)) - ((own_sri p5 (1 : Int32)) / (3 : Int32)) * (3 : Int32)) vT vF vU)), .val (.long (own_pts (own_clamp p0) (own_clamp p1) (own_clamp p2) (own_clamp p3))), .second, .val (.ref r21), .val (.long (own_pts xa21 xb21 xc21 xd21)), .second, .val (.int (1 : Int32))]) rfl k) ?_
    show own_Go p.tables e below s _ _ _ (T23.setTop (mkF m 175 #[.val (.int p0), .val (.int p1), .val (.int p2), .val (.int p3), .val (.int p4), .val (.int p5), .val (.ref b1), .val (.long (((((p0.toInt64) <<< ((1 : Int32) &&& 0x3f).toInt64) + (p1.toInt64)) - ((p2.toInt64) <<< ((5 : Int32) &&& 0x3f).toInt64)) - ((p3.toInt64) <<< ((4 : Int32) &&& 0x3f).toInt64))), .second, .val (.int (1 : Int32)), .val (.ref b4), .val (.int (0 : Int32)), .val (.int ((own_sri p5 (1 : Int32)) - ((own_sri p5 (1 : Int32)) / (3 : Int32)) * (3 : Int32))), .val (.ref vF), .val (.ref (own_of ((own_sri p5 (1 : Int32)) - ((own_sri p5 (1 : Int32)) / (3 : Int32)) * (3 : Int32)) vT vF vU)), .val (.long (own_pts (own_clamp p0) (own_clamp p1) (own_clamp p2) (own_clamp p3))), .second, .val (.ref r21), .val (.long (own_pts xa21 xb21 xc21 xd21)), .second, .val (.int (1 : Int32))] []))
    refine own_by (fun _ k => XS.iload X23.here hx rfl (hb hby at_175) rfl k) ?_
    show own_Go p.tables e below s _ _ _ (T23.setTop (mkF m 177 #[.val (.int p0), .val (.int p1), .val (.int p2), .val (.int p3), .val (.int p4), .val (.int p5), .val (.ref b1), .val (.long (((((p0.toInt64) <<< ((1 : Int32) &&& 0x3f).toInt64) + (p1.toInt64)) - ((p2.toInt64) <<< ((5 : Int32) &&& 0x3f).toInt64)) - ((p3.toInt64) <<< ((4 : Int32) &&& 0x3f).toInt64))), .second, .val (.int (1 : Int32)), .val (.ref b4), .val (.int (0 : Int32)), .val (.int ((own_sri p5 (1 : Int32)) - ((own_sri p5 (1 : Int32)) / (3 : Int32)) * (3 : Int32))), .val (.ref vF), .val (.ref (own_of ((own_sri p5 (1 : Int32)) - ((own_sri p5 (1 : Int32)) / (3 : Int32)) * (3 : Int32)) vT vF vU)), .val (.long (own_pts (own_clamp p0) (own_clamp p1) (own_clamp p2) (own_clamp p3))), .second, .val (.ref r21), .val (.long (own_pts xa21 xb21 xc21 xd21)), .second, .val (.int (1 : Int32))] [(.int (1 : Int32))]))
    refine own_by (fun _ k => XS.ifNo X23.here hx rfl (hb hby at_177) rfl ((if0 _ _).trans (feq (by decide : ¬ ((1 : Int32) = (0 : Int32)))).1) k) ?_
    show own_Go p.tables e below s _ _ _ (T23.setTop (mkF m 180 #[.val (.int p0), .val (.int p1), .val (.int p2), .val (.int p3), .val (.int p4), .val (.int p5), .val (.ref b1), .val (.long (((((p0.toInt64) <<< ((1 : Int32) &&& 0x3f).toInt64) + (p1.toInt64)) - ((p2.toInt64) <<< ((5 : Int32) &&& 0x3f).toInt64)) - ((p3.toInt64) <<< ((4 : Int32) &&& 0x3f).toInt64))), .second, .val (.int (1 : Int32)), .val (.ref b4), .val (.int (0 : Int32)), .val (.int ((own_sri p5 (1 : Int32)) - ((own_sri p5 (1 : Int32)) / (3 : Int32)) * (3 : Int32))), .val (.ref vF), .val (.ref (own_of ((own_sri p5 (1 : Int32)) - ((own_sri p5 (1 : Int32)) / (3 : Int32)) * (3 : Int32)) vT vF vU)), .val (.long (own_pts (own_clamp p0) (own_clamp p1) (own_clamp p2) (own_clamp p3))), .second, .val (.ref r21), .val (.long (own_pts xa21 xb21 xc21 xd21)), .second, .val (.int (1 : Int32))] []))
    refine own_by (fun _ k => XS.iload X23.here hx rfl (hb hby at_180) rfl k) ?_
    show own_Go p.tables e below s _ _ _ (T23.setTop (mkF m 182 #[.val (.int p0), .val (.int p1), .val (.int p2), .val (.int p3), .val (.int p4), .val (.int p5), .val (.ref b1), .val (.long (((((p0.toInt64) <<< ((1 : Int32) &&& 0x3f).toInt64) + (p1.toInt64)) - ((p2.toInt64) <<< ((5 : Int32) &&& 0x3f).toInt64)) - ((p3.toInt64) <<< ((4 : Int32) &&& 0x3f).toInt64))), .second, .val (.int (1 : Int32)), .val (.ref b4), .val (.int (0 : Int32)), .val (.int ((own_sri p5 (1 : Int32)) - ((own_sri p5 (1 : Int32)) / (3 : Int32)) * (3 : Int32))), .val (.ref vF), .val (.ref (own_of ((own_sri p5 (1 : Int32)) - ((own_sri p5 (1 : Int32)) / (3 : Int32)) * (3 : Int32)) vT vF vU)), .val (.long (own_pts (own_clamp p0) (own_clamp p1) (own_clamp p2) (own_clamp p3))), .second, .val (.ref r21), .val (.long (own_pts xa21 xb21 xc21 xd21)), .second, .val (.int (1 : Int32))] [(.int (1 : Int32))]))
    refine own_by (fun _ k => XS.ifNo X23.here hx rfl (hb hby at_182) rfl ((if0 _ _).trans (feq (by decide : ¬ ((1 : Int32) = (0 : Int32)))).1) k) ?_
    show own_Go p.tables e below s _ _ _ (T23.setTop (mkF m 185 #[.val (.int p0), .val (.int p1), .val (.int p2), .val (.int p3), .val (.int p4), .val (.int p5), .val (.ref b1), .val (.long (((((p0.toInt64) <<< ((1 : Int32) &&& 0x3f).toInt64) + (p1.toInt64)) - ((p2.toInt64) <<< ((5 : Int32) &&& 0x3f).toInt64)) - ((p3.toInt64) <<< ((4 : Int32) &&& 0x3f).toInt64))), .second, .val (.int (1 : Int32)), .val (.ref b4), .val (.int (0 : Int32)), .val (.int ((own_sri p5 (1 : Int32)) - ((own_sri p5 (1 : Int32)) / (3 : Int32)) * (3 : Int32))), .val (.ref vF), .val (.ref (own_of ((own_sri p5 (1 : Int32)) - ((own_sri p5 (1 : Int32)) / (3 : Int32)) * (3 : Int32)) vT vF vU)), .val (.long (own_pts (own_clamp p0) (own_clamp p1) (own_clamp p2) (own_clamp p3))), .second, .val (.ref r21), .val (.long (own_pts xa21 xb21 xc21 xd21)), .second, .val (.int (1 : Int32))] []))
    refine own_by (fun _ k => XS.iconst X23.here hx rfl (hb hby at_185) k) ?_
    show own_Go p.tables e below s _ _ _ (T23.setTop (mkF m 186 #[.val (.int p0), .val (.int p1), .val (.int p2), .val (.int p3), .val (.int p4), .val (.int p5), .val (.ref b1), .val (.long (((((p0.toInt64) <<< ((1 : Int32) &&& 0x3f).toInt64) + (p1.toInt64)) - ((p2.toInt64) <<< ((5 : Int32) &&& 0x3f).toInt64)) - ((p3.toInt64) <<< ((4 : Int32) &&& 0x3f).toInt64))), .second, .val (.int (1 : Int32)), .val (.ref b4), .val (.int (0 : Int32)), .val (.int ((own_sri p5 (1 : Int32)) - ((own_sri p5 (1 : Int32)) / (3 : Int32)) * (3 : Int32))), .val (.ref vF), .val (.ref (own_of ((own_sri p5 (1 : Int32)) - ((own_sri p5 (1 : Int32)) / (3 : Int32)) * (3 : Int32)) vT vF vU)), .val (.long (own_pts (own_clamp p0) (own_clamp p1) (own_clamp p2) (own_clamp p3))), .second, .val (.ref r21), .val (.long (own_pts xa21 xb21 xc21 xd21)), .second, .val (.int (1 : Int32))] [(.int (1 : Int32))]))
    refine own_by (fun _ k => XS.goto X23.here hx rfl (pc0 := 186) (pc' := 190) rfl (hb hby at_186) (by decide) (by decide) k) ?_
    show own_Go p.tables e below s _ _ _ (T23.setTop (mkF m 190 #[.val (.int p0), .val (.int p1), .val (.int p2), .val (.int p3), .val (.int p4), .val (.int p5), .val (.ref b1), .val (.long (((((p0.toInt64) <<< ((1 : Int32) &&& 0x3f).toInt64) + (p1.toInt64)) - ((p2.toInt64) <<< ((5 : Int32) &&& 0x3f).toInt64)) - ((p3.toInt64) <<< ((4 : Int32) &&& 0x3f).toInt64))), .second, .val (.int (1 : Int32)), .val (.ref b4), .val (.int (0 : Int32)), .val (.int ((own_sri p5 (1 : Int32)) - ((own_sri p5 (1 : Int32)) / (3 : Int32)) * (3 : Int32))), .val (.ref vF), .val (.ref (own_of ((own_sri p5 (1 : Int32)) - ((own_sri p5 (1 : Int32)) / (3 : Int32)) * (3 : Int32)) vT vF vU)), .val (.long (own_pts (own_clamp p0) (own_clamp p1) (own_clamp p2) (own_clamp p3))), .second, .val (.ref r21), .val (.long (own_pts xa21 xb21 xc21 xd21)), .second, .val (.int (1 : Int32))] [(.int (1 : Int32))]))
    exact own_retZ X23 hx hlk Bd.returns (hb hby at_190) (by decide) (by decide) ⟨rfl, N23⟩
theorem own_ord {t : Term} {args : Array Value} {s : State} {a : Addr} {k : Int32} {C n d : String} (ev : t.eval args s none [] s = some (.ref a)) (h : (Jvm.Cond.eq (.field t C n d) (.int k)).value args s none s [] = some true) : s.fieldOf? a C n d = some (.int k) := by
  exact (fld_at ev).symm.trans (eqv_i (F := .int k) rfl h)
set_option maxRecDepth 65536 in
set_option maxHeartbeats 40000000 in
theorem comes_1 {Post : Tables → Env → Array Value → State → Outcome → State → Prop} (hpost : ∀ tb e args s v u, (limb_1_1.after args s (.returned v) u = true ∧ limb_1_2.after args s (.returned v) u = true ∧ True) → FrameEnd s (.returned v) u (Jvm.fieldLocs frame_1_writes args s ++ Jvm.arrayLocs frame_1_arrays args s ++ Jvm.staticLocs frame_1_statics s) 16 128 → Post tb e args s (.returned v) u) :
    ArmFor flags0 classFile x code maxLocals ret World_1 tables_1 room_1 Calls_1 rest_1 Pre_1 Post := by
  intro l hfl _ _ p e ha hc hk s m args below hf hA hF happ hP
  obtain ⟨hcalls, hrest, hpre⟩ := hP
  obtain ⟨-, -, -, hnamed, -, -, -, hat⟩ := (Spec.applies_iff hf).mp happ
  obtain ⟨hg, hn⟩ := and_e (Cond.before_iff.mp (show (Jvm.Cond.and given_1 narrow_1).before args s = true from hpre))
  obtain ⟨hcount, hr0⟩ := and_e hg
  obtain ⟨ha0, hr1⟩ := and_e hr0
  obtain ⟨ha1, hr2⟩ := and_e hr1
  obtain ⟨ha2, hr3⟩ := and_e hr2
  obtain ⟨ha3, hr4⟩ := and_e hr3
  obtain ⟨ha4, hr5⟩ := and_e hr4
  obtain ⟨w0, w1, w2, w3, w4, w5, rfl⟩ : ∃ w0 w1 w2 w3 w4 w5 : Value, args = #[w0, w1, w2, w3, w4, w5] := by
    have hs : args.size = 6 := by simpa [Cond.value, given_1] using hcount
    obtain ⟨L⟩ := args
    match L, hs with
    | [w0, w1, w2, w3, w4, w5], _ => exact ⟨w0, w1, w2, w3, w4, w5, rfl⟩
  have hw := fun d (hd : d ∈ tables_1) => atoms_spec (ws := Jvm.Cond.code x code maxLocals ret :: tables_1) hat d (List.mem_cons_of_mem _ hd)
  obtain ⟨i0, ev0⟩ := is_v ha0
  obtain rfl : w0 = (.int i0) := Option.some.inj ev0
  obtain ⟨i1, ev1⟩ := is_v ha1
  obtain rfl : w1 = (.int i1) := Option.some.inj ev1
  obtain ⟨i2, ev2⟩ := is_v ha2
  obtain rfl : w2 = (.int i2) := Option.some.inj ev2
  obtain ⟨i3, ev3⟩ := is_v ha3
  obtain rfl : w3 = (.int i3) := Option.some.inj ev3
  obtain ⟨i4, ev4⟩ := is_v ha4
  obtain rfl : w4 = (.int i4) := Option.some.inj ev4
  obtain ⟨i5, ev5⟩ := is_v hr5
  obtain rfl : w5 = (.int i5) := Option.some.inj ev5
  obtain ⟨hxF, hn1⟩ := and_e hn
  obtain ⟨hxU, hn2⟩ := and_e hn1
  obtain ⟨hoF, hn3⟩ := and_e hn2
  obtain ⟨hoU, hn4⟩ := and_e hn3
  obtain ⟨hxT, hoT⟩ := and_e hn4
  obtain ⟨vF, evF⟩ := exa_v hxF
  obtain ⟨vU, evU⟩ := exa_v hxU
  obtain ⟨vT, evT⟩ := exa_v hxT
  have STT := Sta.start evT (Or.inr ⟨(hw _ (List.mem_of_getElem? (i := 42) rfl)), (hw _ (List.mem_of_getElem? (i := 55) rfl))⟩)
  have STF := Sta.start evF (Or.inr ⟨(hw _ (List.mem_of_getElem? (i := 42) rfl)), (hw _ (List.mem_of_getElem? (i := 43) rfl))⟩)
  have STU := Sta.start evU (Or.inr ⟨(hw _ (List.mem_of_getElem? (i := 42) rfl)), (hw _ (List.mem_of_getElem? (i := 53) rfl))⟩)
  have ordT := own_ord evT hoT
  have ordF := own_ord evF hoF
  have ordU := own_ord evU hoU
  have nTF : ¬ vT = vF := fun q => by rw [q, ordF] at ordT; exact absurd ordT (by decide)
  have nTU : ¬ vT = vU := fun q => by rw [q, ordU] at ordT; exact absurd ordT (by decide)
  have nFU : ¬ vF = vU := fun q => by rw [q, ordU] at ordF; exact absurd ordF (by decide)
  obtain ⟨n, o, h1, h2, h3, _, L, rfl, ⟨rfl, N⟩, hq⟩ := rm0 l s _ hw tables_1 i0 i1 i2 i3 i4 i5 s.heap s.heap.size (Nat.le_refl _) vT vF vU STT STF STU (Old.start s) nTF nTU nFU p e ha hc hk s m _ below hf ((Spec.applies_iff_loose hf).mp happ).1 ⟨rfl, State.Warmed39.refl s, rfl⟩ trivial
  refine ⟨n, _, h1, h2, h3, hpost _ _ _ _ _ _ ⟨Cond.after_iff.mpr rfl, Cond.after_iff.mpr (eq_i res_at (Term.int_eval (1)) rfl), trivial⟩ ⟨hq.1, hq.2.1, (hq.2.2.sift fun y hy => Or.inr (N y hy)).mono (by decide) (by decide)⟩⟩
theorem main_1_1 : Claimed_1_1 := comes_1 fun _ _ _ _ _ _ h hF => ⟨h.1, hF⟩
theorem main_1_2 : Claimed_1_2 := comes_1 fun _ _ _ _ _ _ h hF => ⟨h.2.1, hF⟩
end Jvm.Pilot.@@N@@
namespace Jvm.Pilot.@@N@@
open Jvm Jvm.ClassFile Sem Op Lib Jvm.Free Jvm.Stand Jvm.Pilot.@@N@@.Jvm.D
/-! MADE BY PROGRAM (witnessworld.py) out of the Statement's table words and the real class files: 15 classes; the members and pool entries that the words name. The judged class is class 1, her method 4. -/
namespace start1
open Jvm.ClassFile
def u (s : String) : CpInfo := .utf8 (stringToUtf16 s)
/-- a pool by its gaps: so many unusable entries, then the entry; so many at the end -/
def gap : Nat → List CpInfo → List CpInfo
  | 0, r => r
  | n + 1, r => .unusable :: gap n r
def poolList (es : List (Nat × CpInfo)) (last : Nat) : List CpInfo := es.foldr (fun e r => gap e.1 (e.2 :: r)) (gap last [])
def pool (es : List (Nat × CpInfo)) (last : Nat) : Array CpInfo := ⟨poolList es last⟩
def fileOf (pool : Array CpInfo) (this : Nat) (attrs : Array Attribute := #[]) (ms : Array MethodInfo := #[]) (fl : Nat := 33) (sup : Nat := 0) (ifs : Array Nat := #[]) (fds : Array FieldInfo := #[]) : ClassFile where
  minorVersion := 0
  majorVersion := 65
  constantPool := pool
  accessFlags := fl
  thisClass := this
  superClass := sup
  interfaces := ifs
  fields := fds
  methods := ms
  attributes := attrs
def plain (name : String) (sup : Option ClassId) : Class where
  name := name
  kind := .ordinary
  loader := none
  accessFlags := 33
  super := sup
  interfaces := #[]
  cf := none
  fields := #[]
  methods := #[]
  instanceTypes := #[]
  staticTypes := #[]
  resolved := #[]
  callSites := []
  init := .initialized
  statics := none
  mirror := none

def pool0 : Array CpInfo := pool [(5, u "<init>"), (0, u "()V"), (1, .class_ 10), (1, u "java/lang/Object")] 113

def k0c0 : Code := { maxStack := 0, maxLocals := 1, code := object_method_1_code, exceptionTable := #[], attributes := #[] }
def k0m0 : Method := { name := "<init>", desc := "()V", sig := { parameters := [], returnType := none }, accessFlags := 1, code := some k0c0 }
/-- java/lang/Object -/
def k0 : Class := { plain "java/lang/Object" none with
  accessFlags := 33
  interfaces := #[]
  cf := some (fileOf pool0 8 #[] #[{ accessFlags := 1, nameIndex := 5, descriptorIndex := 6, attributes := #[] }] 33 0 #[] #[])
  fields := #[]
  methods := #[k0m0]
  instanceTypes := #[]
  staticTypes := #[]
  resolved := Array.replicate 124 none
  statics := none }

def pool1 : Array CpInfo := pool [(2, .class_ 4), (1, u "java/lang/Object"), (0, u "<init>"), (0, u "()V"), (2, .integer 2147483646), (0, .methodref 11 12), (0, .class_ 13), (0, .nameAndType 14 15), (0, u "java/lang/Math"), (0, u "min"), (0, u "(II)I"), (0, .fieldref 17 18), (0, .class_ 19), (0, .nameAndType 20 21), (0, u "com/example/proofhound/proofhound/verdict/Verdict"), (0, u "TRUE"), (0, u "Lcom/example/proofhound/proofhound/verdict/Verdict;"), (0, .fieldref 17 23), (0, .nameAndType 24 21), (0, u "FALSE"), (0, .fieldref 17 26), (0, .nameAndType 27 21), (0, u "UNKNOWN"), (0, .long 2), (1, .long 18446744073709551600), (1, .long 18446744073709551584), (1, .class_ 35), (0, u "com/example/proofhound/proofhound/suite/Score"), (0, .methodref 34 37), (0, .nameAndType 5 38), (0, u "(IIIII)V"), (0, .methodref 34 40), (0, .nameAndType 41 42), (0, u "points"), (0, u "()J"), (0, .methodref 44 45), (0, .class_ 46), (0, .nameAndType 47 48), (0, u "com/example/proofhound/proofhound/suite/ScorePointsPinLaw"), (0, u "clamp"), (0, u "(I)I"), (0, .methodref 44 50), (0, .nameAndType 51 52), (0, u "obtainedOf"), (0, u "(I)Lcom/example/proofhound/proofhound/verdict/Verdict;"), (0, .methodref 34 54), (0, .nameAndType 55 56), (0, u "plus"), (0, u "(Lcom/example/proofhound/proofhound/verdict/Verdict;Lcom/example/proofhound/proofhound/verdict/Verdict;)Lcom/example/proofhound/proofhound/suite/Score;"), (0, .methodref 44 58), (0, .nameAndType 59 60), (0, u "delta"), (0, u "(ZI)J"), (3, u "law"), (0, u "(IIIIII)Z")] 2

def k1m0 : Method := { name := "<init>", desc := "()V", sig := { parameters := [], returnType := none }, accessFlags := 2, code := none }
def k1c1 : Code := { maxStack := 2, maxLocals := 1, code := method_2_code, exceptionTable := #[], attributes := #[] }
def k1m1 : Method := { name := "clamp", desc := "(I)I", sig := { parameters := [.int], returnType := some .int }, accessFlags := 10, code := some k1c1 }
def k1c2 : Code := { maxStack := 2, maxLocals := 1, code := method_3_code, exceptionTable := #[], attributes := #[] }
def k1m2 : Method := { name := "obtainedOf", desc := "(I)Lcom/example/proofhound/proofhound/verdict/Verdict;", sig := { parameters := [.int], returnType := some (.object "com/example/proofhound/proofhound/verdict/Verdict") }, accessFlags := 10, code := some k1c2 }
def k1c3 : Code := { maxStack := 2, maxLocals := 2, code := method_4_code, exceptionTable := #[], attributes := #[] }
def k1m3 : Method := { name := "delta", desc := "(ZI)J", sig := { parameters := [.boolean, .int], returnType := some .long }, accessFlags := 10, code := some k1c3 }
def k1c4 : Code := { maxStack := 7, maxLocals := 21, code := code, exceptionTable := #[], attributes := #[] }
def k1m4 : Method := { name := "law", desc := "(IIIIII)Z", sig := { parameters := [.int, .int, .int, .int, .int, .int], returnType := some .boolean }, accessFlags := 9, code := some k1c4 }
/-- com/example/proofhound/proofhound/suite/ScorePointsPinLaw -/
def k1 : Class := { plain "com/example/proofhound/proofhound/suite/ScorePointsPinLaw" (some 0) with
  accessFlags := 49
  interfaces := #[]
  cf := some (fileOf pool1 44 #[] #[{ accessFlags := 2, nameIndex := 5, descriptorIndex := 6, attributes := #[] }, { accessFlags := 10, nameIndex := 47, descriptorIndex := 48, attributes := #[] }, { accessFlags := 10, nameIndex := 51, descriptorIndex := 52, attributes := #[] }, { accessFlags := 10, nameIndex := 59, descriptorIndex := 60, attributes := #[] }, { accessFlags := 9, nameIndex := 64, descriptorIndex := 65, attributes := #[] }] 49 2 #[] #[])
  fields := #[]
  methods := #[k1m0, k1m1, k1m2, k1m3, k1m4]
  instanceTypes := #[]
  staticTypes := #[]
  resolved := Array.replicate 68 none
  statics := none }

def pool2 : Array CpInfo := pool [(1, .methodref 2 3), (0, .class_ 4), (0, .nameAndType 5 6), (0, u "java/lang/Object"), (0, u "<init>"), (0, u "()V"), (0, .class_ 8), (0, u "java/lang/Record")] 13

def k2c0 : Code := { maxStack := 1, maxLocals := 1, code := jdk_30_method_1_code, exceptionTable := #[], attributes := #[] }
def k2m0 : Method := { name := "<init>", desc := "()V", sig := { parameters := [], returnType := none }, accessFlags := 4, code := some k2c0 }
/-- java/lang/Record -/
def k2 : Class := { plain "java/lang/Record" (some 0) with
  accessFlags := 1057
  interfaces := #[]
  cf := some (fileOf pool2 7 #[] #[{ accessFlags := 4, nameIndex := 5, descriptorIndex := 6, attributes := #[] }] 1057 2 #[] #[])
  fields := #[]
  methods := #[k2m0]
  instanceTypes := #[]
  staticTypes := #[]
  resolved := Array.replicate 22 none
  statics := none }

def pool3 : Array CpInfo := pool [(1, .methodref 2 3), (0, .class_ 4), (0, .nameAndType 5 6), (0, u "java/lang/Record"), (0, u "<init>"), (0, u "()V"), (0, .fieldref 8 9), (0, .class_ 10), (0, .nameAndType 11 12), (0, u "com/example/proofhound/proofhound/suite/Score"), (0, u "correctTrue"), (0, u "I"), (0, .fieldref 8 14), (0, .nameAndType 15 12), (0, u "correctFalse"), (0, .fieldref 8 17), (0, .nameAndType 18 12), (0, u "wrongTrue"), (0, .fieldref 8 20), (0, .nameAndType 21 12), (0, u "wrongFalse"), (0, .fieldref 8 23), (0, .nameAndType 24 12), (0, u "unknown"), (0, .fieldref 26 27), (0, .class_ 28), (0, .nameAndType 29 30), (0, u "com/example/proofhound/proofhound/verdict/Verdict"), (0, u "UNKNOWN"), (0, u "Lcom/example/proofhound/proofhound/verdict/Verdict;"), (7, .methodref 8 39), (0, .nameAndType 5 40), (0, u "(IIIII)V"), (0, .fieldref 26 42), (0, .nameAndType 43 30), (0, u "TRUE"), (0, .long 2), (1, .long 32), (1, .long 16), (15, u "NONE"), (0, u "Lcom/example/proofhound/proofhound/suite/Score;"), (3, u "plus"), (0, u "(Lcom/example/proofhound/proofhound/verdict/Verdict;Lcom/example/proofhound/proofhound/verdict/Verdict;)Lcom/example/proofhound/proofhound/suite/Score;"), (1, u "points"), (0, u "()J")] 30

def k3c0 : Code := { maxStack := 2, maxLocals := 6, code := prog_221_method_1_code, exceptionTable := #[], attributes := #[] }
def k3m0 : Method := { name := "<init>", desc := "(IIIII)V", sig := { parameters := [.int, .int, .int, .int, .int], returnType := none }, accessFlags := 1, code := some k3c0 }
def k3c1 : Code := { maxStack := 8, maxLocals := 4, code := prog_221_method_2_code, exceptionTable := #[], attributes := #[] }
def k3m1 : Method := { name := "plus", desc := "(Lcom/example/proofhound/proofhound/verdict/Verdict;Lcom/example/proofhound/proofhound/verdict/Verdict;)Lcom/example/proofhound/proofhound/suite/Score;", sig := { parameters := [(.object "com/example/proofhound/proofhound/verdict/Verdict"), (.object "com/example/proofhound/proofhound/verdict/Verdict")], returnType := some (.object "com/example/proofhound/proofhound/suite/Score") }, accessFlags := 1, code := some k3c1 }
def k3c2 : Code := { maxStack := 6, maxLocals := 1, code := prog_221_method_3_code, exceptionTable := #[], attributes := #[] }
def k3m2 : Method := { name := "points", desc := "()J", sig := { parameters := [], returnType := some .long }, accessFlags := 1, code := some k3c2 }
/-- com/example/proofhound/proofhound/suite/Score -/
def k3 : Class := { plain "com/example/proofhound/proofhound/suite/Score" (some 2) with
  accessFlags := 49
  interfaces := #[]
  cf := some (fileOf pool3 8 #[] #[{ accessFlags := 1, nameIndex := 5, descriptorIndex := 40, attributes := #[] }, { accessFlags := 1, nameIndex := 69, descriptorIndex := 70, attributes := #[] }, { accessFlags := 1, nameIndex := 72, descriptorIndex := 73, attributes := #[] }] 49 2 #[] #[{ accessFlags := 18, nameIndex := 11, descriptorIndex := 12, attributes := #[] }, { accessFlags := 18, nameIndex := 15, descriptorIndex := 12, attributes := #[] }, { accessFlags := 18, nameIndex := 18, descriptorIndex := 12, attributes := #[] }, { accessFlags := 18, nameIndex := 21, descriptorIndex := 12, attributes := #[] }, { accessFlags := 18, nameIndex := 24, descriptorIndex := 12, attributes := #[] }, { accessFlags := 25, nameIndex := 64, descriptorIndex := 65, attributes := #[] }])
  fields := #[{ name := "correctTrue", type := .int, accessFlags := 18, slot := 0, constantValue := 0 }, { name := "correctFalse", type := .int, accessFlags := 18, slot := 1, constantValue := 0 }, { name := "wrongTrue", type := .int, accessFlags := 18, slot := 2, constantValue := 0 }, { name := "wrongFalse", type := .int, accessFlags := 18, slot := 3, constantValue := 0 }, { name := "unknown", type := .int, accessFlags := 18, slot := 4, constantValue := 0 }, { name := "NONE", type := (.object "com/example/proofhound/proofhound/suite/Score"), accessFlags := 25, slot := 0, constantValue := 0 }]
  methods := #[k3m0, k3m1, k3m2]
  instanceTypes := #[.int, .int, .int, .int, .int]
  staticTypes := #[(.object "com/example/proofhound/proofhound/suite/Score")]
  resolved := Array.replicate 104 none
  statics := none }

def pool4 : Array CpInfo := pool [(1, .class_ 2), (0, u "java/lang/Math"), (1, .class_ 6), (1, u "java/lang/Object"), (0, u "<init>"), (0, u "()V"), (89, .class_ 100), (1, u "java/lang/Math$RandomNumberGeneratorHolder"), (71, u "negativeZeroFloatBits"), (0, u "J"), (2, u "negativeZeroDoubleBits"), (24, u "min"), (43, u "$assertionsDisabled"), (0, u "Z"), (88, u "(II)I"), (2, u "twoToTheDoubleScaleDown"), (0, u "D"), (4, u "twoToTheDoubleScaleUp"), (9, u "E"), (3, u "PI"), (2, u "TAU"), (2, u "DEGREES_TO_RADIANS"), (0, u "RADIANS_TO_DEGREES")] 94

def k4m0 : Method := { name := "<init>", desc := "()V", sig := { parameters := [], returnType := none }, accessFlags := 2, code := none }
def k4c1 : Code := { maxStack := 2, maxLocals := 2, code := jdk_29_method_69_code, exceptionTable := #[], attributes := #[] }
def k4m1 : Method := { name := "min", desc := "(II)I", sig := { parameters := [.int, .int], returnType := some .int }, accessFlags := 9, code := some k4c1 }
/-- java/lang/Math -/
def k4 : Class := { plain "java/lang/Math" (some 0) with
  accessFlags := 49
  interfaces := #[]
  cf := some (fileOf pool4 1 #[.nestMembers #[98]] #[{ accessFlags := 2, nameIndex := 7, descriptorIndex := 8, attributes := #[] }, { accessFlags := 9, nameIndex := 201, descriptorIndex := 335, attributes := #[] }] 49 4 #[] #[{ accessFlags := 25, nameIndex := 354, descriptorIndex := 339, attributes := #[] }, { accessFlags := 25, nameIndex := 358, descriptorIndex := 339, attributes := #[] }, { accessFlags := 25, nameIndex := 361, descriptorIndex := 339, attributes := #[] }, { accessFlags := 26, nameIndex := 364, descriptorIndex := 339, attributes := #[] }, { accessFlags := 26, nameIndex := 365, descriptorIndex := 339, attributes := #[] }, { accessFlags := 26, nameIndex := 172, descriptorIndex := 173, attributes := #[] }, { accessFlags := 26, nameIndex := 176, descriptorIndex := 173, attributes := #[] }, { accessFlags := 8, nameIndex := 344, descriptorIndex := 339, attributes := #[] }, { accessFlags := 8, nameIndex := 338, descriptorIndex := 339, attributes := #[] }, { accessFlags := 4120, nameIndex := 245, descriptorIndex := 246, attributes := #[] }])
  fields := #[{ name := "E", type := .double, accessFlags := 25, slot := 0, constantValue := 0 }, { name := "PI", type := .double, accessFlags := 25, slot := 1, constantValue := 0 }, { name := "TAU", type := .double, accessFlags := 25, slot := 2, constantValue := 0 }, { name := "DEGREES_TO_RADIANS", type := .double, accessFlags := 26, slot := 3, constantValue := 0 }, { name := "RADIANS_TO_DEGREES", type := .double, accessFlags := 26, slot := 4, constantValue := 0 }, { name := "negativeZeroFloatBits", type := .long, accessFlags := 26, slot := 5, constantValue := 0 }, { name := "negativeZeroDoubleBits", type := .long, accessFlags := 26, slot := 6, constantValue := 0 }, { name := "twoToTheDoubleScaleUp", type := .double, accessFlags := 8, slot := 7, constantValue := 0 }, { name := "twoToTheDoubleScaleDown", type := .double, accessFlags := 8, slot := 8, constantValue := 0 }, { name := "$assertionsDisabled", type := .boolean, accessFlags := 4120, slot := 9, constantValue := 0 }]
  methods := #[k4m0, k4m1]
  instanceTypes := #[]
  staticTypes := #[.double, .double, .double, .double, .double, .long, .long, .double, .double, .boolean]
  resolved := Array.replicate 460 none
  statics := none }

def pool5 : Array CpInfo := pool [(1, .class_ 2), (0, u "java/lang/constant/Constable"), (0, .class_ 4), (0, u "java/lang/Object")] 6

/-- java/lang/constant/Constable -/
def k5 : Class := { plain "java/lang/constant/Constable" (some 0) with
  accessFlags := 1537
  interfaces := #[]
  cf := some (fileOf pool5 1 #[] #[] 1537 3 #[] #[])
  fields := #[]
  methods := #[]
  instanceTypes := #[]
  staticTypes := #[]
  resolved := Array.replicate 11 none
  statics := none }

def pool6 : Array CpInfo := pool [(1, .class_ 2), (0, u "java/lang/Comparable"), (0, .class_ 4), (0, u "java/lang/Object")] 7

/-- java/lang/Comparable -/
def k6 : Class := { plain "java/lang/Comparable" (some 0) with
  accessFlags := 1537
  interfaces := #[]
  cf := some (fileOf pool6 1 #[] #[] 1537 3 #[] #[])
  fields := #[]
  methods := #[]
  instanceTypes := #[]
  staticTypes := #[]
  resolved := Array.replicate 12 none
  statics := none }

def pool7 : Array CpInfo := pool [(1, .class_ 2), (0, u "java/io/Serializable"), (0, .class_ 4), (0, u "java/lang/Object")] 2

/-- java/io/Serializable -/
def k7 : Class := { plain "java/io/Serializable" (some 0) with
  accessFlags := 1537
  interfaces := #[]
  cf := some (fileOf pool7 1 #[] #[] 1537 3 #[] #[])
  fields := #[]
  methods := #[]
  instanceTypes := #[]
  staticTypes := #[]
  resolved := Array.replicate 7 none
  statics := none }

def pool8 : Array CpInfo := pool [(2, .class_ 4), (1, u "java/lang/Enum"), (0, u "name"), (0, u "Ljava/lang/String;"), (2, u "ordinal"), (0, u "I"), (1, .class_ 14), (1, u "java/lang/Object"), (4, u "hash"), (86, .class_ 108), (1, u "java/lang/Enum$EnumDesc"), (2, .class_ 112), (0, u "java/lang/constant/Constable"), (0, .class_ 114), (0, u "java/lang/Comparable"), (0, .class_ 116), (0, u "java/io/Serializable")] 87

/-- java/lang/Enum -/
def k8 : Class := { plain "java/lang/Enum" (some 0) with
  accessFlags := 1057
  interfaces := #[5, 6, 7]
  cf := some (fileOf pool8 2 #[.nestMembers #[106]] #[] 1057 12 #[111, 113, 115] #[{ accessFlags := 18, nameIndex := 5, descriptorIndex := 6, attributes := #[] }, { accessFlags := 18, nameIndex := 9, descriptorIndex := 10, attributes := #[] }, { accessFlags := 2, nameIndex := 19, descriptorIndex := 10, attributes := #[] }])
  fields := #[{ name := "name", type := (.object "java/lang/String"), accessFlags := 18, slot := 0, constantValue := 0 }, { name := "ordinal", type := .int, accessFlags := 18, slot := 1, constantValue := 0 }, { name := "hash", type := .int, accessFlags := 2, slot := 2, constantValue := 0 }]
  methods := #[]
  instanceTypes := #[(.object "java/lang/String"), .int, .int]
  staticTypes := #[]
  resolved := Array.replicate 204 none
  statics := none }

def pool9 : Array CpInfo := pool [(1, .class_ 2), (0, u "com/example/proofhound/proofhound/verdict/Verdict"), (2, u "TRUE"), (0, u "Lcom/example/proofhound/proofhound/verdict/Verdict;"), (2, u "FALSE"), (2, u "UNKNOWN"), (2, u "$VALUES"), (0, u "[Lcom/example/proofhound/proofhound/verdict/Verdict;"), (6, .class_ 25), (1, u "java/lang/Enum")] 25

/-- com/example/proofhound/proofhound/verdict/Verdict -/
def k9 : Class := { plain "com/example/proofhound/proofhound/verdict/Verdict" (some 8) with
  accessFlags := 16433
  interfaces := #[]
  cf := some (fileOf pool9 1 #[] #[] 16433 23 #[] #[{ accessFlags := 16409, nameIndex := 5, descriptorIndex := 6, attributes := #[] }, { accessFlags := 16409, nameIndex := 9, descriptorIndex := 6, attributes := #[] }, { accessFlags := 16409, nameIndex := 12, descriptorIndex := 6, attributes := #[] }, { accessFlags := 4122, nameIndex := 15, descriptorIndex := 16, attributes := #[] }])
  fields := #[{ name := "TRUE", type := (.object "com/example/proofhound/proofhound/verdict/Verdict"), accessFlags := 16409, slot := 0, constantValue := 0 }, { name := "FALSE", type := (.object "com/example/proofhound/proofhound/verdict/Verdict"), accessFlags := 16409, slot := 1, constantValue := 0 }, { name := "UNKNOWN", type := (.object "com/example/proofhound/proofhound/verdict/Verdict"), accessFlags := 16409, slot := 2, constantValue := 0 }, { name := "$VALUES", type := (.array (.object "com/example/proofhound/proofhound/verdict/Verdict")), accessFlags := 4122, slot := 3, constantValue := 0 }]
  methods := #[]
  instanceTypes := #[(.object "java/lang/String"), .int, .int]
  staticTypes := #[(.object "com/example/proofhound/proofhound/verdict/Verdict"), (.object "com/example/proofhound/proofhound/verdict/Verdict"), (.object "com/example/proofhound/proofhound/verdict/Verdict"), (.array (.object "com/example/proofhound/proofhound/verdict/Verdict"))]
  resolved := Array.replicate 51 none
  statics := some 0 }

def pool10 : Array CpInfo := pool [(1, u "java/lang/Cloneable"), (0, .class_ 1), (0, u "java/lang/Object"), (0, .class_ 3)] 3

/-- java/lang/Cloneable -/
def k10 : Class := { plain "java/lang/Cloneable" (some 0) with
  accessFlags := 1537
  interfaces := #[]
  cf := some (fileOf pool10 2 #[] #[] 1537 4 #[] #[])
  fields := #[]
  methods := #[]
  instanceTypes := #[]
  staticTypes := #[]
  resolved := Array.replicate 8 none
  statics := none }

/-- the primitive byte -/
def k11 : Class := { plain "byte" none with kind := .primitive 'B', accessFlags := 0x411 }
/-- [B -/
def k12 : Class := { plain "[B" (some 0) with kind := .array 11 .byte, interfaces := #[10, 7], accessFlags := 1041 }

/-- the primitive int -/
def k13 : Class := { plain "int" none with kind := .primitive 'I', accessFlags := 0x411 }
/-- [I -/
def k14 : Class := { plain "[I" (some 0) with kind := .array 13 .int, interfaces := #[10, 7], accessFlags := 1041 }

def heap : Heap := #[{ cls := 9, slots := #[.ref 1, .ref 2, .ref 3, .null], vm := .statics 9 },
  { cls := 9, slots := #[.null, .int 0, .int 0], vm := .none },
  { cls := 9, slots := #[.null, .int 1, .int 0], vm := .none },
  { cls := 9, slots := #[.null, .int 2, .int 0], vm := .none }]
def classes : Array Class := #[k0, k1, k2, k3, k4, k5, k6, k7, k8, k9, k10, k11, k12, k13, k14]
def interned : List (Array UInt16 × Addr) := []
def slotsUsed : Nat := 13
def theMethod : MethodId := ⟨1, 4⟩
def args0 : Array Value := #[.int 1, .int 2, .int 3, .int 4, .int 5, .int 6]
def aboutOver (below : List Frame) : State where
  vm := { classes := classes, interned := interned.toArray }
  heap := heap
  slotsUsed := slotsUsed
  threads := #[{ frames := .invoking theMethod args0 :: below }]
def below0 : List Frame := [.native { method := ⟨0, 0⟩, args := #[] }]
def about1 : State := aboutOver below0
def p0 : Program := .bare "" "" ""
def e0 : Env := launch0.env 0 0 0
theorem w_frames : about1.frames = Frame.invoking theMethod args0 :: below0 := rfl
set_option maxRecDepth 65536 in
theorem w_args : argsFit about1.vm theMethod args0 = true := by decide +kernel
set_option maxRecDepth 65536 in
theorem w_heap : heapFits about1 = true := by decide +kernel
set_option maxRecDepth 65536 in
theorem w_runnable : about1.curStatus? = some .runnable := by decide +kernel
set_option maxRecDepth 65536 in
theorem w_alone : about1.alone = true := by decide +kernel
set_option maxRecDepth 65536 in
theorem w_named : about1.methodNamed? x = some theMethod := by decide +kernel
set_option maxRecDepth 65536 in
theorem w_hears : about1.hears theMethod below0 = true := by decide +kernel
set_option maxRecDepth 65536 in
theorem w_ripe : about1.ripe theMethod args0 below0 = true := by decide +kernel
theorem w_running : about1.status = .running := rfl
set_option maxRecDepth 65536 in
theorem w_room : about1.hasRoom e0.platform room_1 = true :=
  launch0.hasRoom_least _ room_1 (by decide +kernel) (by decide +kernel) (by decide +kernel) (by decide +kernel) (by decide +kernel) (by decide +kernel)
theorem allAtoms_all (ts : List Jvm.Cond) (a : Array Jvm.Value) (st : Jvm.State) : (allAtoms ts).before a st = ts.all (fun c => c.before a st) := by
  induction ts with
  | nil => rfl
  | cons c t ih =>
    show (Jvm.Cond.and c (allAtoms t)).before a st = _
    rw [Jvm.Cond.before_and, ih, List.all_cons]
def words1 : List Jvm.Cond := Jvm.Cond.code x code maxLocals ret :: tables_1
/-- a 'code' word, met by the world's own term for the bytes: nothing is compared byte by byte -/
theorem code_word {y : MethodName} {bytes : ByteArray} {mx : Nat} {rt : Option FieldType} {a : Array Value} {s : State} {m : MethodId} {meth : Method} {c : Code} (h1 : s.methodNamed? y = some m) (h2 : s.vm.method? m = some meth) (h3 : meth.code = some c) (h4 : c.code = bytes)
    (h5 : (c.maxLocals == mx && c.exceptionTable.isEmpty && decide (c.maxStack ≤ mostOperands) && decide (meth.sig.returnType = rt) && !meth.locks && decide (parseMethodDescriptor y.desc = some meth.sig)) = true) : (Jvm.Cond.code y bytes mx rt).before a s = true := by
  simp only [Bool.and_eq_true, beq_iff_eq, Bool.not_eq_true', decide_eq_true_eq] at h5
  obtain ⟨⟨⟨⟨⟨g1, g2⟩, g3⟩, g4⟩, g5⟩, g6⟩ := h5
  simp [Cond.before, Cond.holds, Cond.value, h1, h2, h3, h4, g1, g2, g3, g4, g5, g6]
def isCode : Jvm.Cond → Bool
  | .code _ _ _ _ => true
  | _ => false
theorem all_split {L : List Jvm.Cond} {P : Jvm.Cond → Bool} (h1 : L.all (fun c => isCode c || P c) = true) (h2 : ∀ c ∈ L.filter isCode, P c = true) : L.all P = true := by
  refine List.all_eq_true.mpr fun c hc => ?_
  have h := List.all_eq_true.mp h1 c hc
  rcases Bool.eq_false_or_eq_true (isCode c) with hi | hi
  · exact h2 c (List.mem_filter.mpr ⟨hc, hi⟩)
  · simpa [hi] using h
set_option maxRecDepth 65536 in
theorem w_c0 : (Jvm.Cond.code x code maxLocals ret).before args0 about1 = true := code_word (m := ⟨1, 4⟩) (meth := k1m4) (c := k1c4) (by decide +kernel) rfl rfl rfl (by decide +kernel)
set_option maxRecDepth 65536 in
theorem w_c1 : (Jvm.Cond.code ({ cls := "com/example/proofhound/proofhound/suite/Score", name := "<init>", desc := "(IIIII)V" } : Jvm.MethodName) prog_221_method_1_code (6 : Nat) (Option.none : Option Jvm.ClassFile.FieldType)).before args0 about1 = true := code_word (m := ⟨3, 0⟩) (meth := k3m0) (c := k3c0) (by decide +kernel) rfl rfl rfl (by decide +kernel)
set_option maxRecDepth 65536 in
theorem w_c2 : (Jvm.Cond.code ({ cls := "java/lang/Record", name := "<init>", desc := "()V" } : Jvm.MethodName) jdk_30_method_1_code (1 : Nat) (Option.none : Option Jvm.ClassFile.FieldType)).before args0 about1 = true := code_word (m := ⟨2, 0⟩) (meth := k2m0) (c := k2c0) (by decide +kernel) rfl rfl rfl (by decide +kernel)
set_option maxRecDepth 65536 in
theorem w_c3 : (Jvm.Cond.code ({ cls := "java/lang/Object", name := "<init>", desc := "()V" } : Jvm.MethodName) object_method_1_code (1 : Nat) (Option.none : Option Jvm.ClassFile.FieldType)).before args0 about1 = true := code_word (m := ⟨0, 0⟩) (meth := k0m0) (c := k0c0) (by decide +kernel) rfl rfl rfl (by decide +kernel)
set_option maxRecDepth 65536 in
theorem w_c4 : (Jvm.Cond.code ({ cls := "com/example/proofhound/proofhound/suite/Score", name := "points", desc := "()J" } : Jvm.MethodName) prog_221_method_3_code (1 : Nat) (Option.some Jvm.ClassFile.FieldType.long)).before args0 about1 = true := code_word (m := ⟨3, 2⟩) (meth := k3m2) (c := k3c2) (by decide +kernel) rfl rfl rfl (by decide +kernel)
set_option maxRecDepth 65536 in
theorem w_c5 : (Jvm.Cond.code ({ cls := "com/example/proofhound/proofhound/suite/ScorePointsPinLaw", name := "clamp", desc := "(I)I" } : Jvm.MethodName) method_2_code (1 : Nat) (Option.some Jvm.ClassFile.FieldType.int)).before args0 about1 = true := code_word (m := ⟨1, 1⟩) (meth := k1m1) (c := k1c1) (by decide +kernel) rfl rfl rfl (by decide +kernel)
set_option maxRecDepth 65536 in
theorem w_c6 : (Jvm.Cond.code ({ cls := "java/lang/Math", name := "min", desc := "(II)I" } : Jvm.MethodName) jdk_29_method_69_code (2 : Nat) (Option.some Jvm.ClassFile.FieldType.int)).before args0 about1 = true := code_word (m := ⟨4, 1⟩) (meth := k4m1) (c := k4c1) (by decide +kernel) rfl rfl rfl (by decide +kernel)
set_option maxRecDepth 65536 in
theorem w_c7 : (Jvm.Cond.code ({ cls := "com/example/proofhound/proofhound/suite/ScorePointsPinLaw", name := "obtainedOf", desc := "(I)Lcom/example/proofhound/proofhound/verdict/Verdict;" } : Jvm.MethodName) method_3_code (1 : Nat) (Option.some (Jvm.ClassFile.FieldType.object "com/example/proofhound/proofhound/verdict/Verdict"))).before args0 about1 = true := code_word (m := ⟨1, 2⟩) (meth := k1m2) (c := k1c2) (by decide +kernel) rfl rfl rfl (by decide +kernel)
set_option maxRecDepth 65536 in
theorem w_c8 : (Jvm.Cond.code ({ cls := "com/example/proofhound/proofhound/suite/Score", name := "plus", desc := "(Lcom/example/proofhound/proofhound/verdict/Verdict;Lcom/example/proofhound/proofhound/verdict/Verdict;)Lcom/example/proofhound/proofhound/suite/Score;" } : Jvm.MethodName) prog_221_method_2_code (4 : Nat) (Option.some (Jvm.ClassFile.FieldType.object "com/example/proofhound/proofhound/suite/Score"))).before args0 about1 = true := code_word (m := ⟨3, 1⟩) (meth := k3m1) (c := k3c1) (by decide +kernel) rfl rfl rfl (by decide +kernel)
set_option maxRecDepth 65536 in
theorem w_c9 : (Jvm.Cond.code ({ cls := "com/example/proofhound/proofhound/suite/ScorePointsPinLaw", name := "delta", desc := "(ZI)J" } : Jvm.MethodName) method_4_code (2 : Nat) (Option.some Jvm.ClassFile.FieldType.long)).before args0 about1 = true := code_word (m := ⟨1, 3⟩) (meth := k1m3) (c := k1c3) (by decide +kernel) rfl rfl rfl (by decide +kernel)
def codes1 : List Jvm.Cond := [Jvm.Cond.code x code maxLocals ret, Jvm.Cond.code ({ cls := "com/example/proofhound/proofhound/suite/Score", name := "<init>", desc := "(IIIII)V" } : Jvm.MethodName) prog_221_method_1_code (6 : Nat) (Option.none : Option Jvm.ClassFile.FieldType), Jvm.Cond.code ({ cls := "java/lang/Record", name := "<init>", desc := "()V" } : Jvm.MethodName) jdk_30_method_1_code (1 : Nat) (Option.none : Option Jvm.ClassFile.FieldType), Jvm.Cond.code ({ cls := "java/lang/Object", name := "<init>", desc := "()V" } : Jvm.MethodName) object_method_1_code (1 : Nat) (Option.none : Option Jvm.ClassFile.FieldType), Jvm.Cond.code ({ cls := "com/example/proofhound/proofhound/suite/Score", name := "points", desc := "()J" } : Jvm.MethodName) prog_221_method_3_code (1 : Nat) (Option.some Jvm.ClassFile.FieldType.long), Jvm.Cond.code ({ cls := "com/example/proofhound/proofhound/suite/ScorePointsPinLaw", name := "clamp", desc := "(I)I" } : Jvm.MethodName) method_2_code (1 : Nat) (Option.some Jvm.ClassFile.FieldType.int), Jvm.Cond.code ({ cls := "java/lang/Math", name := "min", desc := "(II)I" } : Jvm.MethodName) jdk_29_method_69_code (2 : Nat) (Option.some Jvm.ClassFile.FieldType.int), Jvm.Cond.code ({ cls := "com/example/proofhound/proofhound/suite/ScorePointsPinLaw", name := "obtainedOf", desc := "(I)Lcom/example/proofhound/proofhound/verdict/Verdict;" } : Jvm.MethodName) method_3_code (1 : Nat) (Option.some (Jvm.ClassFile.FieldType.object "com/example/proofhound/proofhound/verdict/Verdict")), Jvm.Cond.code ({ cls := "com/example/proofhound/proofhound/suite/Score", name := "plus", desc := "(Lcom/example/proofhound/proofhound/verdict/Verdict;Lcom/example/proofhound/proofhound/verdict/Verdict;)Lcom/example/proofhound/proofhound/suite/Score;" } : Jvm.MethodName) prog_221_method_2_code (4 : Nat) (Option.some (Jvm.ClassFile.FieldType.object "com/example/proofhound/proofhound/suite/Score")), Jvm.Cond.code ({ cls := "com/example/proofhound/proofhound/suite/ScorePointsPinLaw", name := "delta", desc := "(ZI)J" } : Jvm.MethodName) method_4_code (2 : Nat) (Option.some Jvm.ClassFile.FieldType.long)]
set_option maxRecDepth 65536 in
theorem codes_eq : words1.filter isCode = codes1 := rfl
theorem w_codes : ∀ c ∈ words1.filter isCode, c.before args0 about1 = true := by
  rw [codes_eq]
  intro c hc
  simp only [codes1, List.mem_cons, List.not_mem_nil, or_false] at hc
  rcases hc with rfl | rfl | rfl | rfl | rfl | rfl | rfl | rfl | rfl | rfl
  · exact w_c0
  · exact w_c1
  · exact w_c2
  · exact w_c3
  · exact w_c4
  · exact w_c5
  · exact w_c6
  · exact w_c7
  · exact w_c8
  · exact w_c9
set_option maxRecDepth 65536 in
theorem w_t1 : (words1.take 24).all (fun c => isCode c || c.before args0 about1) = true := by decide +kernel
set_option maxRecDepth 65536 in
theorem w_t2 : ((words1.drop 24).take 24).all (fun c => isCode c || c.before args0 about1) = true := by decide +kernel
set_option maxRecDepth 65536 in
theorem w_t3 : ((words1.drop 24).drop 24).all (fun c => isCode c || c.before args0 about1) = true := by decide +kernel
theorem w_tables : (allAtoms (Jvm.Cond.code x code maxLocals ret :: tables_1)).before args0 about1 = true := by
  rw [allAtoms_all]
  show words1.all (fun c => c.before args0 about1) = true
  refine all_split ?_ w_codes
  rw [← List.take_append_drop 24 words1, List.all_append, w_t1, ← List.take_append_drop 24 (words1.drop 24), List.all_append, w_t2, w_t3]
  rfl
set_option maxRecDepth 65536 in
theorem w_case : (Jvm.Cond.and given_1 narrow_1).before args0 about1 = true := by decide +kernel
theorem w_applies : (headSpec (Jvm.Cond.code x code maxLocals ret :: tables_1) room_1).applies x e0.platform about1 = true :=
  (Spec.applies_iff w_frames).mpr ⟨w_running, w_runnable, w_alone, w_named, w_hears, w_ripe, w_room, w_tables⟩
theorem atStart : AtStart classFile x code maxLocals ret World_1 tables_1 room_1 Calls_1 rest_1 Pre_1 launch0 p0 e0 about1 theMethod args0 below0 :=
  ⟨lists_1, trivial, launch0.admits_env _ _ _, launch0.least_env, fairChoices_fair.cas, fairChoices_fair.clock, w_frames, w_args, w_heap, w_applies, trivial, trivial, w_case⟩
end start1
theorem witness_1 : WitnessClaimed_1 := ⟨start1.p0, start1.e0, start1.about1, start1.theMethod, start1.args0, start1.below0, start1.atStart⟩
end Jvm.Pilot.@@N@@
