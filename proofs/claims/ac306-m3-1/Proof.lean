import JvmDerived
import JvmDerived.Pilot.@@N@@Statement
import JvmDerived.Pilot.@@N@@Code
set_option linter.unusedVariables false
set_option linter.unusedSimpArgs false
namespace Jvm.Pilot.@@N@@
open Jvm Jvm.ClassFile Sem Op Lib Jvm.Free Jvm.Stand Jvm.LawKit Jvm.RoadKit Bundle Jvm.Pilot.@@N@@.Jvm.D
/-- Java's >>> on longs and on ints -/
def own_sr (x : Int64) (k : Int32) : Int64 := ((x.toUInt64 >>> (k &&& 0x3f).toInt64.toUInt64).toInt64)
def own_sri (x : Int32) (k : Int32) : Int32 := ((x.toUInt32 >>> (k &&& 31).toUInt32).toInt32)
section Own
variable {p : Program} {l : Launch} {e : Env} {R : Room} {s : State} {m : MethodId} {args : Array Value} {below : List Frame} {meth : Method} {c : Code} {T : State} {locs : List Loc} {cells slots : Nat} {Z : State} {a0 : Array Value} {h : Heap} {Q : Option Value → Heap → List Loc → Prop} {kc kn : Nat}
/-- from the state A the body comes to an end that answers Q -/
def own_Go (tb : Tables) (e : Env) (below : List Frame) (s : State) (Q : Option Value → Heap → List Loc → Prop) (kc kn : Nat) (A : State) : Prop :=
  ∃ s₂ o, Steps tb e below A s₂ ∧ s₂.status = .running ∧ Ended s₂ below o ∧ ∃ v L, o = .returned v ∧ Q v s₂.heap L ∧ FrameEnd s o s₂ L kc kn
theorem own_by {tb : Tables} {A B : State} (g : ∀ t, Steps tb e below B t → Steps tb e below A t) (k : own_Go tb e below s Q kc kn B) : own_Go tb e below s Q kc kn A := by
  obtain ⟨s₂, o, h1, r⟩ := k
  exact ⟨s₂, o, g s₂ h1, r⟩
theorem own_end (X : Stand p l e R s m args below meth c T locs cells slots) {v : Option Value} (hv : meth.sig.returnType = none → v = none) (hlocks : meth.locks = false) {A : State}
    (hA : ∀ fs : List Frame, (∀ (f : JFrame) (acts : List Action), f.method = m → f.locked = none → f.entered = [] → (doReturn e (T.setTop f) acts v).1 = T.setFrames fs) → Steps p.tables e below A (T.setFrames fs)) (hk : cells ≤ kc) (hn : slots ≤ kn) (hQ : Q v T.heap locs) : own_Go p.tables e below s Q kc kn A := by
  obtain ⟨fs, hr, hrun, hended, hW, hsame⟩ := X.leave hv hlocks
  exact ⟨_, _, hA fs hr, hrun, hended, _, _, rfl, hQ, ⟨_, rfl⟩, hW, hsame.mono hk hn⟩
theorem own_retZ (X : Stand p l e R s m args below meth c T locs cells slots) (hx : p.tables.exec = Jvm.exec) (hlocks : meth.locks = false) (hret : meth.sig.returnType = some .boolean) {pc : Nat} {Ls : Array Slot} {z : Int32} {rest : List Value} (hd : decode c.code pc = .ok (.ireturn, 1)) (hk : cells ≤ kc) (hn : slots ≤ kn) (hQ : Q (some (.int (z &&& 1))) T.heap locs) : own_Go p.tables e below s Q kc kn (T.setTop (mkF m pc Ls (.int z :: rest))) :=
  own_end X (v := some (.int (z &&& 1))) (fun q => by rw [hret] at q; cases q) hlocks (fun fs hr => retN X hx (t := .boolean) hret (by simp) hd hr) hk hn hQ
theorem own_retI (X : Stand p l e R s m args below meth c T locs cells slots) (hx : p.tables.exec = Jvm.exec) (hlocks : meth.locks = false) (hret : meth.sig.returnType = some .int) {pc : Nat} {Ls : Array Slot} {z : Int32} {rest : List Value} (hd : decode c.code pc = .ok (.ireturn, 1)) (hk : cells ≤ kc) (hn : slots ≤ kn) (hQ : Q (some (.int z)) T.heap locs) : own_Go p.tables e below s Q kc kn (T.setTop (mkF m pc Ls (.int z :: rest))) :=
  own_end X (v := some (.int z)) (fun q => by rw [hret] at q; cases q) hlocks (fun fs hr => retOut X hx hret rfl (Or.inl ⟨rfl, Or.inl rfl, z, rfl⟩) hd hr) hk hn hQ
theorem own_retJ (X : Stand p l e R s m args below meth c T locs cells slots) (hx : p.tables.exec = Jvm.exec) (hlocks : meth.locks = false) (hret : meth.sig.returnType = some .long) {pc : Nat} {Ls : Array Slot} {z : Int64} {rest : List Value} (hd : decode c.code pc = .ok (.lreturn, 1)) (hk : cells ≤ kc) (hn : slots ≤ kn) (hQ : Q (some (.long z)) T.heap locs) : own_Go p.tables e below s Q kc kn (T.setTop (mkF m pc Ls (.long z :: rest))) :=
  own_end X (v := some (.long z)) (fun q => by rw [hret] at q; cases q) hlocks (fun fs hr => retOut X hx hret rfl (Or.inr (Or.inl ⟨rfl, rfl, z, rfl⟩)) hd hr) hk hn hQ
theorem own_retA (X : Stand p l e R s m args below meth c T locs cells slots) (hx : p.tables.exec = Jvm.exec) (hlocks : meth.locks = false) {t : FieldType} (hret : meth.sig.returnType = some t) (ht : t.isReference = true) {pc : Nat} {Ls : Array Slot} {a : Addr} {rest : List Value} (hd : decode c.code pc = .ok (.areturn, 1)) (hk : cells ≤ kc) (hn : slots ≤ kn) (hQ : Q (some (.ref a)) T.heap locs) : own_Go p.tables e below s Q kc kn (T.setTop (mkF m pc Ls (.ref a :: rest))) :=
  own_end X (v := some (.ref a)) (fun q => by rw [hret] at q; cases q) hlocks (fun fs hr => retOut X hx hret (by cases t <;> first | rfl | cases ht) (Or.inr (Or.inr (Or.inr (Or.inr ⟨rfl, ht, rfl⟩)))) hd hr) hk hn hQ
theorem own_retD (X : Stand p l e R s m args below meth c T locs cells slots) (hx : p.tables.exec = Jvm.exec) (hlocks : meth.locks = false) (hret : meth.sig.returnType = some .double) {pc : Nat} {Ls : Array Slot} {z : UInt64} {rest : List Value} (hd : decode c.code pc = .ok (.dreturn, 1)) (hk : cells ≤ kc) (hn : slots ≤ kn) (hQ : Q (some (.double z)) T.heap locs) : own_Go p.tables e below s Q kc kn (T.setTop (mkF m pc Ls (.double z :: rest))) :=
  own_end X (v := some (.double z)) (fun q => by rw [hret] at q; cases q) hlocks (fun fs hr => retOut X hx hret rfl (Or.inr (Or.inr (Or.inl ⟨rfl, rfl, z, rfl⟩))) hd hr) hk hn hQ
theorem own_retV (X : Stand p l e R s m args below meth c T locs cells slots) (hx : p.tables.exec = Jvm.exec) (hlocks : meth.locks = false) (hret : meth.sig.returnType = none) {pc : Nat} {Ls : Array Slot} (hd : decode c.code pc = .ok (.return_, 1)) (hk : cells ≤ kc) (hn : slots ≤ kn) (hQ : Q none T.heap locs) : own_Go p.tables e below s Q kc kn (T.setTop (mkF m pc Ls [])) :=
  own_end X (v := none) (fun _ => rfl) hlocks (fun fs hr => X.returnOut hx hret hd hr) hk hn hQ
/-- what a body of this text answers: from these arguments, at this heap -/
abbrev own_Met (l : Launch) (Z : State) (y : MethodName) (bytes : ByteArray) (maxL : Nat) (ret : Option FieldType) (ws : List Jvm.Cond) (rm : Room) (as' : Array Value) (h0 : Heap) (Q : Option Value → Heap → List Loc → Prop) : Prop :=
  MetFree l y (head1 (Jvm.Cond.code y bytes maxL ret :: ws) rm) (fun a U => a = as' ∧ Z.Warmed39 U.vm ∧ U.heap = h0) (fun _ _ _ _ _ => True) (fun _ U o U' => ∃ v L, o = .returned v ∧ Q v U'.heap L ∧ FrameEnd U o U' L rm.cells rm.slots)
theorem own_callS (X : Stand p l e R s m args below meth c T locs cells slots) (hx : p.tables.exec = Jvm.exec) (hZ : Z.Warmed39 s.vm) {own : String} {index : Nat} {y : MethodName} {bytes : ByteArray} {maxL : Nat} {ret : Option FieldType} {rm : Room} {as' : Array Value}
    (hown : s.vm.findClass own = some m.cls) (w1 : (Jvm.Cond.methodLink own index y).before a0 Z = true) (w2 : (Jvm.Cond.static y).before a0 Z = true) (w3 : (Jvm.Cond.initialized y.cls).before a0 Z = true) (w4 : (Jvm.Cond.code y bytes maxL ret).before a0 Z = true)
    (hy : y.cls ≠ "java/lang/invoke/MethodHandle" ∧ y.cls ≠ "java/lang/invoke/VarHandle") (hM : own_Met l Z y bytes maxL ret [] rm as' h Q) {W : Nat} (hf : rm.frames + 1 ≤ R.frames) (hl : W + (maxL + 11) + rm.locals ≤ R.locals) (eT : T.heap = h)
    {g : JFrame} (hg : g.method = m) (hsize : g.locals.size = c.maxLocals) {argsL rest : List Value} (hlen : ∀ sig, parseMethodDescriptor y.desc = some sig → argsL.length = sig.parameters.length) (hstack : g.stack = argsL.reverse ++ rest) (has : argsL.toArray = as')
    (hW : 2 * g.monitorRoom + (rest.map fun v => v.category).sum ≤ W) (hdg : decode c.code g.pc = .ok (.invokestatic index, 3)) (hc : cells + rm.cells ≤ R.cells) (hn : slots + rm.slots ≤ R.slots) :
    ∃ (v : Option Value) (T' : State) (L : List Loc), Stand p l e R s m args below meth c T' (locs ++ L) (cells + rm.cells) (slots + rm.slots) ∧ Q v T'.heap L ∧ ∀ t, Steps p.tables e below (T'.setTop { g with pc := g.pc + 3, stack := v.toList ++ rest }) t → Steps p.tables e below (T.setTop g) t := by
  subst eT
  obtain ⟨v, vm₁, ⟨T', L', k', n'⟩, -, X', ⟨Lc, hQ, l1, y1, z1⟩, st⟩ := Jvm.LawKit.callS X hx (y := y) hown (mvT hZ w1) (mvT hZ w2) (mvT hZ w3) (mvT hZ w4) hy (backOf (W := W) hM hZ w4 w3 hf hl) hg hsize (argsL := argsL) (rest := rest) hlen hstack hW hdg (fun _ _ => ⟨has, rfl, hc, hn⟩)
  dsimp only [Pt.U, Pt.locs, Pt.cells, Pt.slots] at X' l1 y1 z1 st hQ
  subst l1 y1 z1
  exact ⟨v, T', Lc, X', hQ, st⟩
theorem own_callI (X : Stand p l e R s m args below meth c T locs cells slots) (hx : p.tables.exec = Jvm.exec) (hZ : Z.Warmed39 s.vm) {own : String} {index : Nat} {y : MethodName} {bytes : ByteArray} {maxL : Nat} {rm : Room} {as' : Array Value} (hy1 : y.name = "<init>")
    (hown : s.vm.findClass own = some m.cls) (w1 : (Jvm.Cond.methodLink own index y).before a0 Z = true) (w2 : (Jvm.Cond.instanceMethod y).before a0 Z = true) (w3 : (Jvm.Cond.initialized y.cls).before a0 Z = true) (w4 : (Jvm.Cond.code y bytes maxL none).before a0 Z = true)
    (hy : y.cls ≠ "java/lang/invoke/MethodHandle" ∧ y.cls ≠ "java/lang/invoke/VarHandle") (hM : own_Met l Z y bytes maxL none [] rm as' h Q) {W : Nat} (hf : rm.frames + 1 ≤ R.frames) (hl : W + (maxL + 11) + rm.locals ≤ R.locals) (eT : T.heap = h)
    {g : JFrame} (hg : g.method = m) (hsize : g.locals.size = c.maxLocals) {a : Addr} {argsL rest : List Value} (hlen : ∀ sig, parseMethodDescriptor y.desc = some sig → argsL.length = sig.parameters.length) (hstack : g.stack = argsL.reverse ++ .ref a :: rest) (has : (Value.ref a :: argsL).toArray = as')
    (hW : 2 * g.monitorRoom + (rest.map fun v => v.category).sum ≤ W) (hdg : decode c.code g.pc = .ok (.invokespecial index, 3)) (hc : cells + rm.cells ≤ R.cells) (hn : slots + rm.slots ≤ R.slots) :
    ∃ (v : Option Value) (T' : State) (L : List Loc), Stand p l e R s m args below meth c T' (locs ++ L) (cells + rm.cells) (slots + rm.slots) ∧ Q v T'.heap L ∧ ∀ t, Steps p.tables e below (T'.setTop { g with pc := g.pc + 3, stack := v.toList ++ rest }) t → Steps p.tables e below (T.setTop g) t := by
  subst eT
  obtain ⟨v, vm₁, ⟨T', L', k', n'⟩, -, X', ⟨Lc, hQ, l1, y1, z1⟩, st⟩ := X.specialBack hx (y := y) hy1 hown (mvT hZ w1) (mvT hZ w2) (mvT hZ w4) hy (backOf (W := W) hM hZ w4 w3 hf hl) hg hsize (Steps.refl _) (a := a) (argsL := argsL) (rest := rest) hlen hstack hW hdg (fun _ _ => ⟨has, rfl, hc, hn⟩)
  dsimp only [Pt.U, Pt.locs, Pt.cells, Pt.slots] at X' l1 y1 z1 st hQ
  subst l1 y1 z1
  exact ⟨v, T', Lc, X', hQ, fun t k => st.trans k⟩
theorem own_callV (X : Stand p l e R s m args below meth c T locs cells slots) (hx : p.tables.exec = Jvm.exec) (hZ : Z.Warmed39 s.vm) {own : String} {index : Nat} {y : MethodName} {bytes : ByteArray} {maxL : Nat} {ret : Option FieldType} {rm : Room} {as' : Array Value}
    (hown : s.vm.findClass own = some m.cls) (w1 : (Jvm.Cond.methodLink own index y).before a0 Z = true) (w5 : (Jvm.Cond.declares y).before a0 Z = true) (w6 : (Jvm.Cond.selects y.cls y y).before a0 Z = true) (w2 : (Jvm.Cond.instanceMethod y).before a0 Z = true) (w3 : (Jvm.Cond.initialized y.cls).before a0 Z = true) (w4 : (Jvm.Cond.code y bytes maxL ret).before a0 Z = true)
    (hy : y.cls ≠ "java/lang/invoke/MethodHandle" ∧ y.cls ≠ "java/lang/invoke/VarHandle") (hM : own_Met l Z y bytes maxL ret [] rm as' h Q) {W : Nat} (hf : rm.frames + 1 ≤ R.frames) (hl : W + (maxL + 11) + rm.locals ≤ R.locals) (eT : T.heap = h) {a : Addr} (E : Exa Z h a y.cls)
    {g : JFrame} (hg : g.method = m) (hsize : g.locals.size = c.maxLocals) {argsL rest : List Value} (hlen : ∀ sig, parseMethodDescriptor y.desc = some sig → argsL.length = sig.parameters.length) (hstack : g.stack = argsL.reverse ++ .ref a :: rest) (has : (Value.ref a :: argsL).toArray = as')
    (hW : 2 * g.monitorRoom + (rest.map fun v => v.category).sum ≤ W) (hdg : decode c.code g.pc = .ok (.invokevirtual index, 3)) (hc : cells + rm.cells ≤ R.cells) (hn : slots + rm.slots ≤ R.slots) :
    ∃ (v : Option Value) (T' : State) (L : List Loc), Stand p l e R s m args below meth c T' (locs ++ L) (cells + rm.cells) (slots + rm.slots) ∧ Q v T'.heap L ∧ ∀ t, Steps p.tables e below (T'.setTop { g with pc := g.pc + 3, stack := v.toList ++ rest }) t → Steps p.tables e below (T.setTop g) t := by
  subst eT
  obtain ⟨cq, kq, qa, qb, qc⟩ := isOf hZ rfl E
  obtain ⟨v, vm₁, ⟨T', L', k', n'⟩, -, X', ⟨Lc, hQ, l1, y1, z1⟩, st⟩ := X.virtualBack hx (y := y) (z := y) hown (mvT hZ w1) (mvT hZ w5) (notFace_of_selects (args := #[]) (mvT hZ w6)) (mvT hZ w6) (mvT hZ w2) hy (backOf (W := W) hM hZ w4 w3 hf hl) qa qc hg hsize (Steps.refl _) (argsL := argsL) (rest := rest) hlen hstack hW hdg (fun _ _ => ⟨has, rfl, hc, hn⟩)
  dsimp only [Pt.U, Pt.locs, Pt.cells, Pt.slots] at X' l1 y1 z1 st hQ
  subst l1 y1 z1
  exact ⟨v, T', Lc, X', hQ, fun t k => st.trans k⟩
end Own

/-! ## the table of references: what stands in the heap -/
def own_i (k : Nat) : Int32 := Int32.ofNat k
theorem own_i_clamp : ∀ k, k < 6 → (own_i k).toNatClampNeg = k := by decide
theorem own_i_nn : ∀ k, k < 6 → ¬ own_i k < 0 := by decide
theorem own_i_lt : ∀ j, j < 6 → ∀ k, k < 6 → (own_i j < own_i k ↔ j < k) := by decide
theorem own_i_eq : ∀ j, j < 6 → ∀ k, k < 6 → (own_i j = own_i k ↔ j = k) := by decide
theorem own_i_succ : ∀ k, k < 6 → own_i k + 1 = own_i (k + 1) := by decide
theorem own_i_pred : ∀ k, k < 6 → own_i (k + 1) - 1 = own_i k := by decide
def own_iv (vs : List Int32) : List Value := vs.map Value.int
theorem own_iv_set (vs : List Int32) (i : Nat) (x : Int32) : (own_iv vs).set i (.int x) = own_iv (vs.set i x) := by simp [own_iv, List.map_set]
theorem own_iv_get (vs : List Int32) (i : Nat) : (own_iv vs).getD i (.int (0 : Int32)) = .int (vs.getD i 0) := by
  simp only [own_iv, List.getD_eq_getElem?_getD, List.getElem?_map]
  cases vs[i]? <;> rfl
theorem own_iv_len (vs : List Int32) : (own_iv vs).length = vs.length := by simp [own_iv]
def own_pr (i : Int32) (x y : Value) : List Value := if i = 0 then [x, y] else [y, x]
theorem own_pr_get {i : Int32} (hi : i = 0 ∨ i = 1) (x y d : Value) : (own_pr i x y).getD i.toNatClampNeg d = x := by rcases hi with rfl | rfl <;> rfl
theorem own_pr_set {i : Int32} (hi : i = 0 ∨ i = 1) (x y z : Value) : (own_pr i x y).set i.toNatClampNeg z = own_pr i z y := by rcases hi with rfl | rfl <;> rfl
theorem own_pr_len {i : Int32} (hi : i = 0 ∨ i = 1) (x y : Value) : i.toNatClampNeg < (own_pr i x y).length := by
  rcases hi with rfl | rfl
  · exact (by decide : (0 : Int32).toNatClampNeg < 2)
  · exact (by decide : (1 : Int32).toNatClampNeg < 2)
theorem own_pr_swap (x y : Value) : own_pr 0 x y = own_pr 1 y x := rfl
theorem own_i01 {i : Int32} (hi : i = 0 ∨ i = 1) : ¬ i < 0 ∧ i < (2 : Int32) := by rcases hi with rfl | rfl <;> decide
section OwnTab
variable {p : Program} {l : Launch} {e : Env} {R : Room} {s : State} {m : MethodId} {args : Array Value} {below : List Frame} {meth : Method} {c : Code} {T : State} {locs : List Loc} {cells slots : Nat} {Z : State} {a0 : Array Value} {h h' : Heap} {a : Addr} {k : ClassId} {ty : FieldType} {z : Int32} {vs : List Value} {dv : Value}
theorem own_ld (X : Stand p l e R s m args below meth c T locs cells slots) (hx : p.tables.exec = Jvm.exec) (hZ : Z.Warmed39 s.vm) (eT : T.heap = h) (A : Arv Z h a k .int z vs dv) {j : Int32} (hj : ¬ j < 0 ∧ j < z) {v : Value} (hv : vs.getD j.toNatClampNeg dv = v)
    {g : JFrame} (hg : g.method = m) {rest : List Value} (hs : g.stack = .int j :: .ref a :: rest) (hd : decode c.code g.pc = .ok (.iaload, 1)) : ∀ t, Steps p.tables e below (T.setTop { g with pc := g.pc + 1, stack := v :: rest }) t → Steps p.tables e below (T.setTop g) t := by
  obtain ⟨cl, Ar, -, Sz, Nn, Hs, -⟩ := A
  have hin := inb_of Sz hj
  exact fun t k => X.iaload hx (j := j) (v := v) (by rw [eT]; exact Ar.1) (State.isArrayOf_alike hZ.alike Ar.2.1) Ar.2.2 hin (Hs.at hin hv) hg hs hd t k
theorem own_ldA (X : Stand p l e R s m args below meth c T locs cells slots) (hx : p.tables.exec = Jvm.exec) (hZ : Z.Warmed39 s.vm) (eT : T.heap = h) (A : Arv Z h a k ty z vs dv) (hty : ty.isReference = true) {j : Int32} (hj : ¬ j < 0 ∧ j < z) {v : Value} (hv : vs.getD j.toNatClampNeg dv = v)
    {g : JFrame} (hg : g.method = m) {rest : List Value} (hs : g.stack = .int j :: .ref a :: rest) (hd : decode c.code g.pc = .ok (.aaload, 1)) : ∀ t, Steps p.tables e below (T.setTop { g with pc := g.pc + 1, stack := v :: rest }) t → Steps p.tables e below (T.setTop g) t := by
  obtain ⟨cl, Ar, -, Sz, Nn, Hs, -⟩ := A
  have hin := inb_of Sz hj
  exact fun t k => X.aaload hx (j := j) (v := v) (by rw [eT]; exact Ar.1) (State.isArrayOf_alike hZ.alike Ar.2.1) hty Ar.2.2 hin (Hs.at hin hv) hg hs hd t k
theorem own_len (X : Stand p l e R s m args below meth c T locs cells slots) (hx : p.tables.exec = Jvm.exec) (hZ : Z.Warmed39 s.vm) (eT : T.heap = h) (A : Arv Z h a k ty z vs dv)
    {g : JFrame} (hg : g.method = m) {rest : List Value} (hs : g.stack = .ref a :: rest) (hd : decode c.code g.pc = .ok (.arraylength, 1)) : ∀ t, Steps p.tables e below (T.setTop { g with pc := g.pc + 1, stack := .int z :: rest }) t → Steps p.tables e below (T.setTop g) t := by
  obtain ⟨cl, Ar, -, Sz, Nn, -, -⟩ := A
  intro t k
  refine X.arraylength hx (by rw [eT]; exact Ar.1) (State.isArrayOf_alike hZ.alike Ar.2.1) hg hs hd t ?_
  rw [len_of Sz Nn]
  exact k
theorem own_st (X : Stand p l e R s m args below meth c T locs cells slots) (hx : p.tables.exec = Jvm.exec) (hZ : Z.Warmed39 s.vm) (eT : T.heap = h) (A : Arv Z h a k .int z vs dv) {j x : Int32} (hj : ¬ j < 0 ∧ j < z)
    {g : JFrame} (hg : g.method = m) {rest : List Value} (hs : g.stack = .int x :: .int j :: .ref a :: rest) (hd : decode c.code g.pc = .ok (.iastore, 1)) :
    ∃ T' h', Stand p l e R s m args below meth c T' (locs ++ [⟨a, j.toNatClampNeg⟩]) cells slots ∧ T'.heap = h' ∧ Wr h h' a j.toNatClampNeg (.int x) ∧ ∀ t, Steps p.tables e below (T'.setTop { g with pc := g.pc + 1, stack := rest }) t → Steps p.tables e below (T.setTop g) t := by
  obtain ⟨cl, Ar, -, Sz, Nn, Hs, -⟩ := A
  exact stI X hx hZ eT Ar (inb_of Sz hj) hg hs hd
theorem own_stA (X : Stand p l e R s m args below meth c T locs cells slots) (hx : p.tables.exec = Jvm.exec) (hZ : Z.Warmed39 s.vm) (eT : T.heap = h) (A : Arv Z h a k (.array ty) z vs dv) {C : String} (O : OvrA Z k ty C) {y : Addr} (I : Ins Z h y C true) {j : Int32} (hj : ¬ j < 0 ∧ j < z)
    {g : JFrame} (hg : g.method = m) {rest : List Value} (hs : g.stack = .ref y :: .int j :: .ref a :: rest) (hd : decode c.code g.pc = .ok (.aastore, 1)) :
    ∃ T' h', Stand p l e R s m args below meth c T' (locs ++ [⟨a, j.toNatClampNeg⟩]) cells slots ∧ T'.heap = h' ∧ Wr h h' a j.toNatClampNeg (.ref y) ∧ ∀ t, Steps p.tables e below (T'.setTop { g with pc := g.pc + 1, stack := rest }) t → Steps p.tables e below (T.setTop g) t := by
  obtain ⟨cl, Ar, qk, Sz, Nn, Hs, -⟩ := A
  exact stR X hx hZ eT Ar (inb_of Sz hj) rfl (Sto.ofVA Ar qk O I) hg hs hd
theorem own_set (A : Arv Z h a k ty z vs dv) {j : Int32} {v : Value} (hv : fits ty v = true) (W : Wr h h' a j.toNatClampNeg v) {i : Nat} (hj : j.toNatClampNeg = i) (hi : i < vs.length) : Arv Z h' a k ty z (vs.set i v) dv := by
  obtain ⟨cl, Ar, qk, Sz, Nn, Hs, Gt⟩ := A
  exact Arv.set Ar qk Sz Nn Hs Gt hv W i hj hi
end OwnTab

section OwnP
variable {p : Program} {l : Launch} {e : Env} {R : Room} {s : State} {m : MethodId} {args : Array Value} {below : List Frame} {meth : Method} {c : Code} {T : State} {locs : List Loc} {cells slots : Nat} {Z : State} {a0 : Array Value} {h : Heap} {Q : Option Value → Heap → List Loc → Prop}
/-- a private method by invokevirtual; w6: any method that the class selects (so it is no interface) -/
theorem own_callP (X : Stand p l e R s m args below meth c T locs cells slots) (hx : p.tables.exec = Jvm.exec) (hZ : Z.Warmed39 s.vm) {own : String} {index : Nat} {y y' : MethodName} {bytes : ByteArray} {maxL : Nat} {ret : Option FieldType} {rm : Room} {as' : Array Value}
    (hown : s.vm.findClass own = some m.cls) (w1 : (Jvm.Cond.methodLink own index y).before a0 Z = true) (w2 : (Jvm.Cond.instanceMethod y).before a0 Z = true) (w5 : (Jvm.Cond.privateMethod y).before a0 Z = true) (w6 : (Jvm.Cond.selects y.cls y' y').before a0 Z = true) (hyy : y'.cls = y.cls) (w3 : (Jvm.Cond.initialized y.cls).before a0 Z = true) (w4 : (Jvm.Cond.code y bytes maxL ret).before a0 Z = true)
    (hy : y.cls ≠ "java/lang/invoke/MethodHandle" ∧ y.cls ≠ "java/lang/invoke/VarHandle") (hM : own_Met l Z y bytes maxL ret [] rm as' h Q) {W : Nat} (hf : rm.frames + 1 ≤ R.frames) (hl : W + (maxL + 11) + rm.locals ≤ R.locals) (eT : T.heap = h) {a : Addr} (E : Exa Z h a y.cls)
    {g : JFrame} (hg : g.method = m) (hsize : g.locals.size = c.maxLocals) {argsL rest : List Value} (hlen : ∀ sig, parseMethodDescriptor y.desc = some sig → argsL.length = sig.parameters.length) (hstack : g.stack = argsL.reverse ++ .ref a :: rest) (has : (Value.ref a :: argsL).toArray = as')
    (hW : 2 * g.monitorRoom + (rest.map fun v => v.category).sum ≤ W) (hdg : decode c.code g.pc = .ok (.invokevirtual index, 3)) (hc : cells + rm.cells ≤ R.cells) (hn : slots + rm.slots ≤ R.slots) :
    ∃ (v : Option Value) (T' : State) (L : List Loc), Stand p l e R s m args below meth c T' (locs ++ L) (cells + rm.cells) (slots + rm.slots) ∧ Q v T'.heap L ∧ ∀ t, Steps p.tables e below (T'.setTop { g with pc := g.pc + 3, stack := v.toList ++ rest }) t → Steps p.tables e below (T.setTop g) t := by
  subst eT
  obtain ⟨cell, kc, q1, q2, q3, q4, -⟩ := id E
  have hpriv : s.PrivateAt y := Cond.privateMethod_at (mvP hZ w5 (args := #[]))
  have hinst : (Jvm.Cond.instanceMethod y).before args s = true := mvT hZ w2
  obtain ⟨cc, rr, mm, s1, s2, s3, s4, kP, s5, s6⟩ := Cond.selects_spec (mvT (args := args) hZ w6)
  have hsel : (Jvm.Cond.selects y.cls y y).before args s = true := by
    have hcl := findClass_of_methodNamed s3
    rw [hyy] at hcl
    exact selects_self_of_private hcl s5 s6 hpriv hinst hy
  obtain ⟨v, vm₁, ⟨T', L', k', n'⟩, -, X', ⟨Lc, hQ, l1, y1, z1⟩, st⟩ := X.privateBack hx (y := y) hown (mvT hZ w1) hinst hsel hpriv (mvT hZ w4) hy (backOf (W := W) hM hZ w4 w3 hf hl) hg hsize (Steps.refl _) (a := a) q1 (fun q r => by rw [r] at q4; cases q4) (argsL := argsL) (rest := rest) hlen hstack hW hdg (fun _ _ => ⟨has, rfl, hc, hn⟩)
  dsimp only [Pt.U, Pt.locs, Pt.cells, Pt.slots] at X' l1 y1 z1 st hQ
  subst l1 y1 z1
  exact ⟨v, T', Lc, X', hQ, fun t k => st.trans k⟩
end OwnP

/-! ## doubles that are whole numbers times a power of two -/
section OwnDy
open Jvm.FP Jvm.FP.Core Jvm.Free.Fl
/-- c * 2^q and n * 2^e are one number -/
def own_R (c : Nat) (q : Int) (n : Nat) (e : Int) : Prop := c * 2 ^ (q - e).toNat = n * 2 ^ (e - q).toNat
theorem own_R_scale {c : Nat} {q : Int} {n : Nat} {e : Int} (B : Nat) (hq : -(B : Int) ≤ q) (he : -(B : Int) ≤ e) : own_R c q n e ↔ c * 2 ^ (q + B).toNat = n * 2 ^ (e + B).toNat := by
  unfold own_R
  rcases Int.le_total e q with h | h
  · have h1 : (e - q).toNat = 0 := by omega
    have h2 : (q + B).toNat = (q - e).toNat + (e + B).toNat := by omega
    rw [h1, h2, Nat.pow_add, ← Nat.mul_assoc, Nat.pow_zero, Nat.mul_one]
    exact (Nat.mul_left_inj (Nat.ne_of_gt (Nat.two_pow_pos _))).symm
  · have h1 : (q - e).toNat = 0 := by omega
    have h2 : (e + B).toNat = (e - q).toNat + (q + B).toNat := by omega
    rw [h1, h2, Nat.pow_add, ← Nat.mul_assoc, Nat.pow_zero, Nat.mul_one]
    exact (Nat.mul_left_inj (Nat.ne_of_gt (Nat.two_pow_pos _))).symm
theorem own_R.refl (c : Nat) (q : Int) : own_R c q c q := rfl
theorem own_R.symm {c : Nat} {q : Int} {n : Nat} {e : Int} (h : own_R c q n e) : own_R n e c q := Eq.symm h
theorem own_R.trans {c : Nat} {q : Int} {n : Nat} {e : Int} {m : Nat} {f : Int} (h : own_R c q n e) (g : own_R n e m f) : own_R c q m f := by
  have B : ∃ B : Nat, -(B : Int) ≤ q ∧ -(B : Int) ≤ e ∧ -(B : Int) ≤ f := ⟨q.natAbs + e.natAbs + f.natAbs, by omega, by omega, by omega⟩
  obtain ⟨B, b1, b2, b3⟩ := B
  exact (own_R_scale B b1 b3).mpr (((own_R_scale B b1 b2).mp h).trans ((own_R_scale B b2 b3).mp g))
theorem own_R.mul {c d n m : Nat} {q r e f : Int} (h : own_R c q n e) (g : own_R d r m f) : own_R (c * d) (q + r) (n * m) (e + f) := by
  have B : ∃ B : Nat, -(B : Int) ≤ q ∧ -(B : Int) ≤ e ∧ -(B : Int) ≤ r ∧ -(B : Int) ≤ f := ⟨q.natAbs + e.natAbs + r.natAbs + f.natAbs, by omega, by omega, by omega, by omega⟩
  obtain ⟨B, b1, b2, b3, b4⟩ := B
  have h' := (own_R_scale B b1 b2).mp h
  have g' := (own_R_scale B b3 b4).mp g
  refine (own_R_scale (B + B) (by omega) (by omega)).mpr ?_
  have e1 : (q + r + ((B + B : Nat) : Int)).toNat = (q + B).toNat + (r + B).toNat := by omega
  have e2 : (e + f + ((B + B : Nat) : Int)).toNat = (e + B).toNat + (f + B).toNat := by omega
  rw [e1, e2, Nat.pow_add, Nat.pow_add, Nat.mul_mul_mul_comm, h', g', Nat.mul_mul_mul_comm]
/-- the difference of the exponents alone counts -/
theorem own_R.shift {c n : Nat} {q e q' e' : Int} (h : own_R c q n e) (k : q' - e' = q - e) : own_R c q' n e' := by
  unfold own_R at *
  have : e' - q' = e - q := by omega
  rw [k, this]; exact h
theorem own_R.add {c d n m : Nat} {q e : Int} (h : own_R c q n e) (g : own_R d q m e) : own_R (c + d) q (n + m) e := by
  unfold own_R at *
  rw [Nat.add_mul, Nat.add_mul, h, g]
theorem own_R.up (n k : Nat) (e : Int) : own_R n e (n * 2 ^ k) (e - k) := by
  unfold own_R
  have h1 : (e - (e - (k : Int))).toNat = k := by omega
  have h2 : (e - (k : Int) - e).toNat = 0 := by omega
  rw [h1, h2, Nat.pow_zero, Nat.mul_one]
theorem own_R.zero {q : Int} {n : Nat} {e : Int} (h : own_R 0 q n e) : n = 0 := by
  unfold own_R at h
  rw [Nat.zero_mul] at h
  rcases Nat.mul_eq_zero.mp h.symm with h | h
  · exact h
  · exact absurd h (Nat.ne_of_gt (Nat.two_pow_pos _))
/-- a number of at most 53 digits is one of the format's -/
theorem own_can {n : Nat} {e : Int} (s : Bool) (hn : n < 2 ^ 53) (he : -1022 ≤ e) (he2 : e ≤ 900) : ∃ c q, roundRatio b64 s n 1 e = .fin s c q ∧ own_R c q n e := by
  by_cases h0 : n = 0
  · subst h0
    exact ⟨0, b64.qmin, by unfold roundRatio; rw [if_pos rfl], by unfold own_R; rw [Nat.zero_mul, Nat.zero_mul]⟩
  · have l1 := Nat.log2_self_le h0
    have l2 : n < 2 ^ (n.log2 + 1) := Nat.lt_log2_self
    have l3 : n.log2 ≤ 52 := by
      have := (Nat.log2_lt h0).mpr hn
      omega
    obtain ⟨k, hk⟩ : ∃ k, n.log2 + k = 52 := ⟨52 - n.log2, by omega⟩
    have r := own_R.up n k e
    refine ⟨n * 2 ^ k, e - k, ?_, r.symm⟩
    have f1 : n * 2 ^ k < 2 ^ 53 := by
      have : n * 2 ^ k < 2 ^ (n.log2 + 1) * 2 ^ k := Nat.mul_lt_mul_of_pos_right l2 (Nat.two_pow_pos _)
      rw [← Nat.pow_add] at this
      have e2 : n.log2 + 1 + k = 53 := by omega
      rw [e2] at this; exact this
    have f2 : 2 ^ 52 ≤ n * 2 ^ k := by
      have : 2 ^ n.log2 * 2 ^ k ≤ n * 2 ^ k := Nat.mul_le_mul_right _ l1
      rw [← Nat.pow_add, hk] at this; exact this
    refine roundRatio_exact good_b64 (by decide) (show Jvm.FP.Core.fits b64 (Datum.fin s (n * 2 ^ k) (e - k)) from ⟨f1, ?_, ?_, Or.inr f2⟩) ?_
    · have : b64.qmin = -1074 := by decide
      omega
    · have : b64.qmax = 971 := by decide
      omega
    · rw [Nat.mul_one]; exact r
/-- the double a is n * 2^e -/
def own_Dy (a : UInt64) (n : Nat) (e : Int) : Prop := ∃ c q, val64 a = .fin false c q ∧ own_R c q n e
theorem own_round_R {s : Bool} {c n : Nat} {q e : Int} (h : own_R c q n e) : roundRatio b64 s c 1 q = roundRatio b64 s n 1 e :=
  roundRatio_congr (by decide) (by decide) (by rw [Nat.mul_one, Nat.mul_one]; exact h)
theorem own_Dy.val {a : UInt64} {n : Nat} {e : Int} (h : own_Dy a n e) : val64 a = roundRatio b64 false n 1 e := by
  obtain ⟨c, q, h1, h2⟩ := h
  rw [← own_round_R h2, h1]
  have := round_of_fits good_b64 (val64_fits a)
  rw [h1] at this
  exact this.symm
theorem own_Dy.nn {a : UInt64} {n : Nat} {e : Int} (h : own_Dy a n e) : NoNaN64 a := by
  obtain ⟨c, q, h1, h2⟩ := h
  exact val64_no.mpr (by rw [h1]; exact Datum.noConfusion)
theorem own_Dy.eq {a b : UInt64} {n : Nat} {e : Int} (h : own_Dy a n e) (g : own_Dy b n e) : a = b := val64_inj (val64_no.mp h.nn) (h.val.trans g.val.symm)
theorem own_Dy.re {a : UInt64} {n m : Nat} {e f : Int} (h : own_Dy a n e) (r : own_R n e m f) : own_Dy a m f := by
  obtain ⟨c, q, h1, h2⟩ := h
  exact ⟨c, q, h1, h2.trans r⟩
theorem own_Dy.of {a : UInt64} {n : Nat} {e : Int} (hn : n < 2 ^ 53) (he : -1022 ≤ e) (he2 : e ≤ 900) (h : val64 a = roundRatio b64 false n 1 e) : own_Dy a n e := by
  obtain ⟨c, q, h1, h2⟩ := own_can false hn he he2
  exact ⟨c, q, h.trans h1, h2⟩
theorem own_Dy.l2d {v : Int64} (h0 : 0 ≤ v.toInt) (h1 : v.toInt < 2 ^ 53) : own_Dy (FP.l2d v) v.toInt.toNat 0 := by
  refine own_Dy.of (by omega) (by omega) (by omega) ?_
  rw [show FP.l2d v = Core.l2d v from rfl, val64_l2d]
  unfold ofInt
  rw [show decide (v.toInt < 0) = false from decide_eq_false (by omega), show v.toInt.natAbs = v.toInt.toNat by omega]
  rfl
theorem own_Dy.mul {a b : UInt64} {n m : Nat} {e f : Int} (ha : own_Dy a n e) (hb : own_Dy b m f) (hn : n * m < 2 ^ 53) (he : -1022 ≤ e + f) (he2 : e + f ≤ 900) : own_Dy (FP.dmul a b) (n * m) (e + f) := by
  obtain ⟨c, q, h1, h2⟩ := ha
  obtain ⟨d, r, g1, g2⟩ := hb
  refine own_Dy.of hn he he2 ?_
  rw [show FP.dmul a b = Core.dmul a b from rfl, val64_dmul, h1, g1]
  exact own_round_R (h2.mul g2)
theorem own_Dy.add {a b : UInt64} {n m : Nat} {e : Int} (ha : own_Dy a n e) (hb : own_Dy b m e) (hn : n + m < 2 ^ 53) (he : -1022 ≤ e) (he2 : e ≤ 900) : own_Dy (FP.dadd a b) (n + m) e := by
  obtain ⟨c, q, h1, h2⟩ := ha
  obtain ⟨d, r, g1, g2⟩ := hb
  refine own_Dy.of hn he he2 ?_
  rw [show FP.dadd a b = Core.dadd a b from rfl, val64_dadd, h1, g1]
  have hs : sumUnits false c q false d r (min q r) = ((inUnits c q (min q r) + inUnits d r (min q r) : Nat) : Int) := by
    unfold sumUnits signed; simp
  have hz : sumSign false false (sumUnits false c q false d r (min q r)) = false := by
    rw [hs]; unfold sumSign
    split
    · rfl
    · exact decide_eq_false (by omega)
  simp only [exactSum]
  rw [hz, hs]
  refine own_round_R ?_
  have i1 : own_R (inUnits c q (min q r)) (min q r) c q := by
    unfold own_R inUnits
    have : (min q r - q).toNat = 0 := by omega
    rw [this, Nat.pow_zero, Nat.mul_one]
  have i2 : own_R (inUnits d r (min q r)) (min q r) d r := by
    unfold own_R inUnits
    have : (min q r - r).toNat = 0 := by omega
    rw [this, Nat.pow_zero, Nat.mul_one]
  exact (i1.trans h2).add (i2.trans g2)
theorem own_cmp {a b : UInt64} {n m : Nat} {e : Int} (ha : own_Dy a n e) (hb : own_Dy b m e) : FP.dcmp a b = some (compare (n : Int) (m : Int)) := by
  obtain ⟨c, q, h1, h2⟩ := ha
  obtain ⟨d, r, g1, g2⟩ := hb
  show order (val64 a) (val64 b) = _
  rw [h1, g1]
  simp only [order, signed, Bool.false_eq_true, if_false]
  have i1 : own_R (inUnits c q (min q r)) (min q r) c q := by
    unfold own_R inUnits
    have : (min q r - q).toNat = 0 := by omega
    rw [this, Nat.pow_zero, Nat.mul_one]
  have i2 : own_R (inUnits d r (min q r)) (min q r) d r := by
    unfold own_R inUnits
    have : (min q r - r).toNat = 0 := by omega
    rw [this, Nat.pow_zero, Nat.mul_one]
  have j1 := i1.trans h2
  have j2 := i2.trans g2
  unfold own_R at j1 j2
  generalize inUnits c q (min q r) = x at *
  generalize inUnits d r (min q r) = y at *
  generalize (min q r - e).toNat = u at *
  generalize (e - min q r).toNat = w at *
  have pu := Nat.two_pow_pos u
  have pw := Nat.two_pow_pos w
  have lt : x < y ↔ n < m := by
    rw [← Nat.mul_lt_mul_right pu, j1, j2, Nat.mul_lt_mul_right pw]
  have eq : x = y ↔ n = m := by
    constructor
    · intro h; rw [h, j2] at j1; exact (Nat.eq_of_mul_eq_mul_right pw j1).symm
    · intro h; rw [h, ← j2] at j1; exact Nat.eq_of_mul_eq_mul_right pu j1
  congr 1
  simp only [compare, compareOfLessAndEq, Int.ofNat_lt, Int.ofNat_inj]
  by_cases hl : x < y
  · rw [if_pos hl, if_pos (lt.mp hl)]
  · rw [if_neg hl, if_neg (fun q => hl (lt.mpr q))]
    by_cases hq : x = y
    · rw [if_pos hq, if_pos (eq.mp hq)]
    · rw [if_neg hq, if_neg (fun q => hq (eq.mpr q))]
end OwnDy

section OwnDy2
open Jvm.FP Jvm.FP.Core Jvm.Free.Fl
theorem own_rr_nn (f : Fmt) (s : Bool) (A B : Nat) (e : Int) : roundRatio f s A B e ≠ .nan := by
  unfold roundRatio roundAt settle bound
  repeat' split
  all_goals exact Datum.noConfusion
theorem own_Dy.div {a b : UInt64} {n : Nat} {e f : Int} (ha : own_Dy a n e) (hb : own_Dy b 1 f) (hn : n < 2 ^ 53) (he : -1022 ≤ e - f) (he2 : e - f ≤ 900) : own_Dy (FP.ddiv a b) n (e - f) := by
  obtain ⟨c, q, h1, h2⟩ := ha
  obtain ⟨d, r, g1, g2⟩ := hb
  refine own_Dy.of hn he he2 ?_
  rw [show FP.ddiv a b = Core.ddiv a b from rfl, val64_ddiv, h1, g1]
  have hd : d ≠ 0 := fun z => by
    subst z
    exact absurd g2.zero (by decide)
  simp only [quotient]
  rw [if_neg hd]
  refine roundRatio_congr (by omega) (by decide) ?_
  exact (h2.mul g2.symm).shift (by omega)
theorem own_pow_dy {w : Int32} {k : Nat} (hk : k ≤ 30) (hw : w.toInt = 2 ^ k) : own_Dy (FP.i2d w) 1 k := by
  have h1 : w.toInt64.toInt = 2 ^ k := by rw [c_i2l, hw]
  have hb : (2 : Int) ^ k ≤ 2 ^ 30 := by
    have : (2 : Nat) ^ k ≤ 2 ^ 30 := Nat.pow_le_pow_right (by decide) hk
    exact_mod_cast this
  have hp : (0 : Int) < 2 ^ k := by
    have : 0 < (2 : Nat) ^ k := Nat.two_pow_pos k
    exact_mod_cast this
  rw [i2d_w]
  have q := own_Dy.l2d (v := w.toInt64) (by rw [h1]; omega) (by rw [h1]; omega)
  refine q.re ?_
  have e1 : w.toInt64.toInt.toNat = 1 * 2 ^ k := by
    rw [h1, Nat.one_mul]
    have : ((2 : Int) ^ k) = ((2 ^ k : Nat) : Int) := by push_cast; rfl
    rw [this, Int.toNat_natCast]
  rw [e1]
  have := (own_R.up 1 k (k : Int)).symm
  rw [Int.sub_self] at this
  exact this
theorem own_int_dy {t : Int32} (h0 : 0 ≤ t.toInt) : own_Dy (FP.i2d t) t.toInt.toNat 0 := by
  have r := rng32 t
  rw [i2d_w]
  have q := own_Dy.l2d (v := t.toInt64) (by rw [c_i2l]; exact h0) (by rw [c_i2l]; omega)
  rw [c_i2l] at q
  exact q
/-- a long as a double: nought, or a number with 53 digits -/
theorem own_shape (v : Int64) : ∃ s c q, val64 (FP.l2d v) = .fin s c q ∧ (c = 0 ∨ (2 ^ 52 ≤ c ∧ c < 2 ^ 53 ∧ -60 ≤ q ∧ q ≤ 20)) := by
  by_cases h : v.toInt = 0
  · have e : v = 0 := Int64.toInt_inj.mp (by rw [h]; rfl)
    subst e
    exact ⟨false, 0, -1074, by decide +kernel, Or.inl rfl⟩
  · have hb := Core.l2d_big h
    have hm := Core.l2d_mag v
    show ∃ s c q, Core.decode b64 (Core.l2d v).toNat = .fin s c q ∧ _
    generalize (Core.l2d v).toNat = N at *
    have t : b64.tails = 2 ^ 52 := by decide
    have x : b64.exps = 2 ^ 11 := by decide
    have qm : b64.qmin = -1074 := by decide
    have hE : fieldE b64 N = N / 2 ^ 52 % 2 ^ 11 := by unfold fieldE; rw [t, x]
    have hT : fieldT b64 N = N % 2 ^ 52 := by unfold fieldT; rw [t]
    unfold Core.decode
    rw [if_neg (by rw [hE, x]; omega), if_neg (by rw [hE]; omega)]
    exact ⟨_, _, _, rfl, Or.inr ⟨by rw [t]; omega, by rw [t, hT]; omega, by rw [qm, hE]; omega, by rw [qm, hE]; omega⟩⟩
theorem own_mulpow {x D : UInt64} {s : Bool} {c : Nat} {q : Int} {E : Nat} (hx : val64 x = .fin s c q) (hc : c = 0 ∨ (2 ^ 52 ≤ c ∧ c < 2 ^ 53 ∧ -60 ≤ q ∧ q ≤ 20)) (hD : own_Dy D 1 E) (hE : E ≤ 100) : ∃ c' q', val64 (FP.dmul x D) = .fin s c' q' ∧ own_R c' q' c (q + E) := by
  obtain ⟨d, r, g1, g2⟩ := hD
  rw [show FP.dmul x D = Core.dmul x D from rfl, val64_dmul, hx, g1]
  have e1 : (s != false) = s := by cases s <;> rfl
  have e2 : roundRatio b64 s (c * d) 1 (q + r) = roundRatio b64 s c 1 (q + E) := by
    have := (own_R.refl c q).mul g2
    rw [Nat.mul_one] at this
    exact own_round_R this
  show ∃ c' q', roundRatio b64 (s != false) (c * d) 1 (q + r) = _ ∧ _
  rw [e1, e2]
  rcases hc with rfl | ⟨h1, h2, h3, h4⟩
  · exact ⟨0, b64.qmin, by unfold roundRatio; rw [if_pos rfl], by unfold own_R; rw [Nat.zero_mul, Nat.zero_mul]⟩
  · refine ⟨c, q + E, ?_, own_R.refl _ _⟩
    refine roundRatio_exact good_b64 (by decide) (show Jvm.FP.Core.fits b64 (Datum.fin s c (q + E)) from ⟨h2, ?_, ?_, Or.inr h1⟩) (by rw [Nat.mul_one])
    · have : b64.qmin = -1074 := by decide
      omega
    · have : b64.qmax = 971 := by decide
      omega
/-- x / (n / 2^E) and (x * 2^E) / n are one double -/
theorem own_same (v : Int64) {cov D N : UInt64} {n E : Nat} (hn : n ≠ 0) (hE : E ≤ 100) (hc : own_Dy cov n (-(E : Int))) (hD : own_Dy D 1 E) (hN : own_Dy N n 0) :
    FP.ddiv (FP.l2d v) cov = FP.ddiv (FP.dmul (FP.l2d v) D) N ∧ NoNaN64 (FP.ddiv (FP.l2d v) cov) ∧ NoNaN64 (FP.dmul (FP.l2d v) D) ∧ NoNaN64 (FP.ddiv (FP.dmul (FP.l2d v) D) N) := by
  obtain ⟨s, c, q, hx, hs⟩ := own_shape v
  obtain ⟨c', q', hm, hr⟩ := own_mulpow hx hs hD hE
  obtain ⟨d, r, g1, g2⟩ := hc
  obtain ⟨dN, rN, k1, k2⟩ := hN
  have hd : d ≠ 0 := fun z => by subst z; exact hn g2.zero
  have hdN : dN ≠ 0 := fun z => by subst z; exact hn k2.zero
  have e1 : (s != false) = s := by cases s <;> rfl
  have v1 : val64 (FP.ddiv (FP.l2d v) cov) = roundRatio b64 s c d (q - r) := by
    rw [show FP.ddiv (FP.l2d v) cov = Core.ddiv (FP.l2d v) cov from rfl, val64_ddiv, hx, g1]
    simp only [quotient]
    rw [if_neg hd, e1]
  have v2 : val64 (FP.ddiv (FP.dmul (FP.l2d v) D) N) = roundRatio b64 s c' dN (q' - rN) := by
    rw [show FP.ddiv (FP.dmul (FP.l2d v) D) N = Core.ddiv (FP.dmul (FP.l2d v) D) N from rfl, val64_ddiv, hm, k1]
    simp only [quotient]
    rw [if_neg hdN, e1]
  have ee : roundRatio b64 s c d (q - r) = roundRatio b64 s c' dN (q' - rN) := by
    refine roundRatio_congr (by omega) (by omega) ?_
    have a1 : own_R dN rN d (r + E) := k2.trans ((g2.shift (q' := r + E) (e' := 0) (by omega)).symm)
    have a2 := hr.symm.mul a1
    exact a2.shift (by omega)
  have n1 : NoNaN64 (FP.ddiv (FP.l2d v) cov) := val64_no.mpr (by rw [v1]; exact own_rr_nn _ _ _ _ _)
  have n2 : NoNaN64 (FP.ddiv (FP.dmul (FP.l2d v) D) N) := val64_no.mpr (by rw [v2]; exact own_rr_nn _ _ _ _ _)
  have n3 : NoNaN64 (FP.dmul (FP.l2d v) D) := val64_no.mpr (by rw [hm]; exact Datum.noConfusion)
  exact ⟨val64_inj (val64_no.mp n1) (by rw [v1, v2, ee]), n1, n3, n2⟩
end OwnDy2

/-! ## interface calls, nest mates, reference arrays, getClass, Class constants, instanceof -/
/-- a word of the table -/
theorem ow {Z : State} {a0 : Array Value} (hw : ∀ d ∈ tables_1, d.before a0 Z = true) (i : Nat) {d : Jvm.Cond} (h : tables_1[i]? = some d) : d.before a0 Z = true := hw _ (List.mem_of_getElem? h)
set_option maxRecDepth 65536
set_option maxHeartbeats 80000000
section OwnAl
variable {p : Program} {l : Launch} {e : Env} {R : Room} {s : State} {m : MethodId} {args : Array Value} {below : List Frame} {meth : Method} {c : Code} {T : State} {locs : List Loc} {cells slots : Nat} {Z : State} {a0 : Array Value} {h h' : Heap} {a : Addr} {k : ClassId} {ty : FieldType} {z : Int32} {vs : List Value} {dv : Value} {Q : Option Value → Heap → List Loc → Prop}
theorem own_callF (X : Stand p l e R s m args below meth c T locs cells slots) (hx : p.tables.exec = Jvm.exec) (hZ : Z.Warmed39 s.vm) {own : String} {index count : Nat} {xi y : MethodName} {bytes : ByteArray} {maxL : Nat} {ret : Option FieldType} {rm : Room} {as' : Array Value}
    (hown : s.vm.findClass own = some m.cls) (w1 : (Jvm.Cond.methodLink own index xi).before a0 Z = true) (w5 : (Jvm.Cond.declares xi).before a0 Z = true) (w7 : (Jvm.Cond.interfaceMethod xi.cls xi.cls xi.name xi.desc).before args s = true) (w6 : (Jvm.Cond.selects y.cls xi y).before a0 Z = true) (w2 : (Jvm.Cond.instanceMethod y).before a0 Z = true)
    (w8 : (Jvm.Cond.publicMethod y).before a0 Z = true) (w9 : (Jvm.Cond.unhidden y.cls xi.name xi.desc).before a0 Z = true) (w10 : (Jvm.Cond.castable y.cls xi.cls).before a0 Z = true) (w3 : (Jvm.Cond.initialized y.cls).before a0 Z = true) (w4 : (Jvm.Cond.code y bytes maxL ret).before a0 Z = true)
    (hy : xi.cls ≠ "java/lang/invoke/MethodHandle" ∧ xi.cls ≠ "java/lang/invoke/VarHandle") (hM : own_Met l Z y bytes maxL ret [] rm as' h Q) {W : Nat} (hf : rm.frames + 1 ≤ R.frames) (hl : W + (maxL + 11) + rm.locals ≤ R.locals) (eT : T.heap = h) {a : Addr} (E : Exa Z h a y.cls)
    {g : JFrame} (hg : g.method = m) (hsize : g.locals.size = c.maxLocals) {argsL rest : List Value} (hlen : ∀ sig, parseMethodDescriptor xi.desc = some sig → argsL.length = sig.parameters.length) (hstack : g.stack = argsL.reverse ++ .ref a :: rest) (has : (Value.ref a :: argsL).toArray = as')
    (hW : 2 * g.monitorRoom + (rest.map fun v => v.category).sum ≤ W) (hdg : decode c.code g.pc = .ok (.invokeinterface index count, 5)) (hc : cells + rm.cells ≤ R.cells) (hn : slots + rm.slots ≤ R.slots) :
    ∃ (v : Option Value) (T' : State) (L : List Loc), Stand p l e R s m args below meth c T' (locs ++ L) (cells + rm.cells) (slots + rm.slots) ∧ Q v T'.heap L ∧ ∀ t, Steps p.tables e below (T'.setTop { g with pc := g.pc + 5, stack := v.toList ++ rest }) t → Steps p.tables e below (T.setTop g) t := by
  subst eT
  obtain ⟨cq, kq, qa, qb, qc⟩ := isOf hZ rfl E
  obtain ⟨v, vm₁, ⟨T', L', k', n'⟩, -, X', ⟨Lc, hQ, l1, y1, z1⟩, st⟩ := X.interfaceBack hx (xi := xi) (y := y) hown (mvT hZ w1) (mvT hZ w5) w7 (mvT hZ w6) (mvT hZ w2) (mvT hZ w8) (mvT hZ w9) (mvT hZ w10) hy (backOf (W := W) hM hZ w4 w3 hf hl) qa qb qc hg hsize (Steps.refl _) (argsL := argsL) (rest := rest) hlen hstack hW hdg (fun _ _ => ⟨has, rfl, hc, hn⟩)
  dsimp only [Pt.U, Pt.locs, Pt.cells, Pt.slots] at X' l1 y1 z1 st hQ
  subst l1 y1 z1
  exact ⟨v, T', Lc, X', hQ, fun t k => st.trans k⟩
theorem own_callN (X : Stand p l e R s m args below meth c T locs cells slots) (hx : p.tables.exec = Jvm.exec) (hZ : Z.Warmed39 s.vm) {own host : String} {index : Nat} {y : MethodName} {bytes : ByteArray} {maxL : Nat} {rm : Room} {as' : Array Value} (hy1 : y.name = "<init>")
    (hown : s.vm.findClass own = some m.cls) (w1 : (Jvm.Cond.methodLinkNest own index y host).before a0 Z = true) (w2 : (Jvm.Cond.instanceMethod y).before a0 Z = true) (w3 : (Jvm.Cond.initialized y.cls).before a0 Z = true) (w4 : (Jvm.Cond.code y bytes maxL none).before a0 Z = true)
    (hy : y.cls ≠ "java/lang/invoke/MethodHandle" ∧ y.cls ≠ "java/lang/invoke/VarHandle") (hM : own_Met l Z y bytes maxL none [] rm as' h Q) {W : Nat} (hf : rm.frames + 1 ≤ R.frames) (hl : W + (maxL + 11) + rm.locals ≤ R.locals) (eT : T.heap = h)
    {g : JFrame} (hg : g.method = m) (hsize : g.locals.size = c.maxLocals) {a : Addr} {argsL rest : List Value} (hlen : ∀ sig, parseMethodDescriptor y.desc = some sig → argsL.length = sig.parameters.length) (hstack : g.stack = argsL.reverse ++ .ref a :: rest) (has : (Value.ref a :: argsL).toArray = as')
    (hW : 2 * g.monitorRoom + (rest.map fun v => v.category).sum ≤ W) (hdg : decode c.code g.pc = .ok (.invokespecial index, 3)) (hc : cells + rm.cells ≤ R.cells) (hn : slots + rm.slots ≤ R.slots) :
    ∃ (v : Option Value) (T' : State) (L : List Loc), Stand p l e R s m args below meth c T' (locs ++ L) (cells + rm.cells) (slots + rm.slots) ∧ Q v T'.heap L ∧ ∀ t, Steps p.tables e below (T'.setTop { g with pc := g.pc + 3, stack := v.toList ++ rest }) t → Steps p.tables e below (T.setTop g) t := by
  subst eT
  obtain ⟨v, vm₁, ⟨T', L', k', n'⟩, -, X', ⟨Lc, hQ, l1, y1, z1⟩, st⟩ := X.specialBackNest hx (y := y) hy1 hown (Cond.methodLinkNest_wide hZ w1 :) (mvT hZ w2) (mvT hZ w4) hy (backOf (W := W) hM hZ w4 w3 hf hl) hg hsize (Steps.refl _) (a := a) (argsL := argsL) (rest := rest) hlen hstack hW hdg (fun _ _ => ⟨has, rfl, hc, hn⟩)
  dsimp only [Pt.U, Pt.locs, Pt.cells, Pt.slots] at X' l1 y1 z1 st hQ
  subst l1 y1 z1
  exact ⟨v, T', Lc, X', hQ, fun t k => st.trans k⟩
theorem own_stO (X : Stand p l e R s m args below meth c T locs cells slots) (hx : p.tables.exec = Jvm.exec) (hZ : Z.Warmed39 s.vm) (eT : T.heap = h) (A : Arv Z h a k (.object "java/lang/Object") z vs dv) {C : String} (O : Ovr Z k C) {y : Addr} (I : Ins Z h y C true) {j : Int32} (hj : ¬ j < 0 ∧ j < z)
    {g : JFrame} (hg : g.method = m) {rest : List Value} (hs : g.stack = .ref y :: .int j :: .ref a :: rest) (hd : decode c.code g.pc = .ok (.aastore, 1)) :
    ∃ T' h', Stand p l e R s m args below meth c T' (locs ++ [⟨a, j.toNatClampNeg⟩]) cells slots ∧ T'.heap = h' ∧ Wr h h' a j.toNatClampNeg (.ref y) ∧ ∀ t, Steps p.tables e below (T'.setTop { g with pc := g.pc + 1, stack := rest }) t → Steps p.tables e below (T.setTop g) t := by
  obtain ⟨cl, Ar, qk, Sz, Nn, Hs, -⟩ := A
  exact stR X hx hZ eT Ar (inb_of Sz hj) rfl (Sto.ofV Ar qk O I) hg hs hd
/-- the Class object of C -/
def own_Mi (Z : State) (C : String) (mr : Addr) : Prop := ∃ (c : ClassId) (k : Class), Z.vm.findClass C = some c ∧ Z.vm.classes[c]? = some k ∧ k.mirror = some mr
theorem own_gc (X : Stand p l e R s m args below meth c T locs cells slots) (hx : p.tables.exec = Jvm.exec) (hZ : Z.Warmed39 s.vm) {own C : String} {index : Nat} (hown : s.vm.findClass own = some m.cls)
    (w1 : (Jvm.Cond.methodLink own index ⟨"java/lang/Object", "getClass", "()Ljava/lang/Class;"⟩).before a0 Z = true) (w2 : (Jvm.Cond.declares ⟨"java/lang/Object", "getClass", "()Ljava/lang/Class;"⟩).before a0 Z = true) (w3 : (Jvm.Cond.noSuperclass "java/lang/Object").before a0 Z = true) (w4 : (Jvm.Cond.selects C ⟨"java/lang/Object", "getClass", "()Ljava/lang/Class;"⟩ ⟨"java/lang/Object", "getClass", "()Ljava/lang/Class;"⟩).before a0 Z = true)
    (w5 : (Jvm.Cond.instanceMethod ⟨"java/lang/Object", "getClass", "()Ljava/lang/Class;"⟩).before a0 Z = true) (w6 : (Jvm.Cond.native ⟨"java/lang/Object", "getClass", "()Ljava/lang/Class;"⟩).before a0 Z = true) (eT : T.heap = h) (E : Exa Z h a C) {mr : Addr} (M : own_Mi Z C mr)
    {g : JFrame} (hg : g.method = m) (hsize : g.locals.size = c.maxLocals) {rest : List Value} (hs : g.stack = .ref a :: rest) (hd : decode c.code g.pc = .ok (.invokevirtual index, 3)) (hf : 1 ≤ R.frames) {W : Nat} (hW : 2 * g.monitorRoom + (rest.map fun v => v.category).sum ≤ W) (hl : W + (nativeFrameWords "java/lang/Object" "getClass" 1 + 11) ≤ R.locals) :
    ∃ T', Stand p l e R s m args below meth c T' locs cells slots ∧ T'.heap = h ∧ ∀ t, Steps p.tables e below (T'.setTop { g with pc := g.pc + 3, stack := .ref mr :: rest }) t → Steps p.tables e below (T.setTop g) t := by
  obtain ⟨cB, kB, i1, i2, i3⟩ := isOf hZ eT E
  obtain ⟨cc, kc, m1, m2, m3⟩ := M
  rw [hZ.alike.findClass] at i1
  cases i1.symm.trans m1
  obtain ⟨k', q, ek⟩ := hZ.alike.2.2 _ _ m2
  obtain ⟨vm', X', st⟩ := X.getClassOf hx hown (mvT hZ w1) (mvT hZ w2) (nf_top (args := #[]) (mvT hZ w3)) (mvT hZ w4) (mvT hZ w5) (mvT hZ w6) (by rw [hZ.alike.findClass]; exact m1) i3 q (by rw [ek]; exact m3) hg hsize hs hd hf (by omega)
  exact ⟨_, X', eT, st⟩
theorem own_ldcC (X : Stand p l e R s m args below meth c T locs cells slots) (hx : p.tables.exec = Jvm.exec) (hZ : Z.Warmed39 s.vm) {own C : String} {index : Nat} (hown : s.vm.findClass own = some m.cls) (w : (Jvm.Cond.classLink own index C).before a0 Z = true) (eT : T.heap = h) {mr : Addr} (M : own_Mi Z C mr)
    {g : JFrame} (hg : g.method = m) (hd : decode c.code g.pc = .ok (.ldc index, 2)) : ∃ T', Stand p l e R s m args below meth c T' locs cells slots ∧ T'.heap = h ∧ ∀ t, Steps p.tables e below (T'.setTop { g with pc := g.pc + 2, stack := .ref mr :: g.stack }) t → Steps p.tables e below (T.setTop g) t := by
  obtain ⟨cc, kc, m1, m2, m3⟩ := M
  obtain ⟨k', q, ek⟩ := hZ.alike.2.2 _ _ m2
  obtain ⟨vm', X', st⟩ := X.ldcMirror hx hown (mv hZ w) (a := mr) (by simp only [Term.eval, hZ.alike.findClass, m1, Option.bind_eq_bind, Option.bind_some, q]; rw [ek, m3]; rfl) hg hd
  exact ⟨_, X', eT, st⟩
/-- an ordinary class K isn't met on the way up from C -/
theorem own_NS0 {O K : String} {n : Nat} (w : (Jvm.Cond.noSuperclass O).before a0 Z = true) (wk : (Jvm.Cond.instantiable K n).before a0 Z = true) (hn : O ≠ K) : NS Z O K := by
  obtain ⟨c, k, h1, h2, h3, -, -⟩ := Cond.noSuperclass_spec w
  obtain ⟨t, kt, g1, -⟩ := Cond.instantiable_spec wk
  have ne := ids_ne h1 g1 hn
  refine ⟨c, t, h1, g1, fun fuel => ?_⟩
  cases fuel with
  | zero => rfl
  | succ f => simp [Vm.isSubclassAux, ne, h2, h3]
theorem own_NSno {C S K : String} {n : Nat} (w : (Jvm.Cond.superclass C S).before a0 Z = true) (wk : (Jvm.Cond.instantiable K n).before a0 Z = true) (N : NS Z C K) (hn : C ≠ K) : ∃ c t, Z.vm.findClass C = some c ∧ Z.vm.findClass K = some t ∧ Z.vm.assignable c t = false := by
  obtain ⟨c, t, h0, g0, n3⟩ := N
  obtain ⟨p, k, kp, h1, h2, h3, h4, h5, -, h7⟩ := Cond.superclass_spec h0 w
  obtain ⟨t', kt, g1, g2, g3, g4, -⟩ := Cond.instantiable_spec wk
  cases g0.symm.trans g1
  have ne := ids_ne h0 g0 hn
  have g5 : kt.isInterface = false := by cases q : kt.isInterface <;> simp_all
  refine ⟨c, t, h0, g0, ?_⟩
  show Z.vm.assignableAux (255 + 1) c t = false
  simp [Vm.assignableAux, ne, h2, g2, h5, g3, g5, Vm.isSubclass, n3]
end OwnAl

/-! ## a body that may intern strings: its end is the wide one -/
section OwnWide
variable {p : Program} {l : Launch} {e : Env} {R : Room} {s : State} {m : MethodId} {args : Array Value} {below : List Frame} {meth : Method} {c : Code} {T : State} {locs : List Loc} {cells slots : Nat} {Z : State} {a0 : Array Value} {h : Heap} {Q : Option Value → Heap → List Loc → Prop} {kc kn : Nat}
def own_GoW (tb : Tables) (e : Env) (below : List Frame) (s : State) (Q : Option Value → Heap → List Loc → Prop) (kc kn : Nat) (A : State) : Prop :=
  ∃ s₂ o, Steps tb e below A s₂ ∧ s₂.status = .running ∧ Ended s₂ below o ∧ ∃ v L, o = .returned v ∧ Q v s₂.heap L ∧ ReturnedEndW s o s₂ L kc kn
theorem own_byW {tb : Tables} {A B : State} (g : ∀ t, Steps tb e below B t → Steps tb e below A t) (k : own_GoW tb e below s Q kc kn B) : own_GoW tb e below s Q kc kn A := by
  obtain ⟨s₂, o, h1, r⟩ := k
  exact ⟨s₂, o, g s₂ h1, r⟩
theorem own_endW {vm1 : Vm} (X : Stand p l e R (s.setVm vm1) m args below meth c T locs cells slots) {k1 : Nat} (hS : s.Since vm1 k1) (hk1 : k1 ≤ T.heap.size) {v : Option Value} (hv : meth.sig.returnType = none → v = none) (hlocks : meth.locks = false) {A : State}
    (hA : ∀ fs : List Frame, (∀ (f : JFrame) (acts : List Action), f.method = m → f.locked = none → f.entered = [] → (doReturn e (T.setTop f) acts v).1 = T.setFrames fs) → Steps p.tables e below A (T.setFrames fs)) (hk : cells ≤ kc) (hn : slots ≤ kn) (hQ : Q v T.heap locs) : own_GoW p.tables e below s Q kc kn A := by
  obtain ⟨fs, hr, hrun, hended, h1, h2, h3, h4⟩ := X.leaveW hS hk1 hv hlocks
  exact ⟨_, _, hA fs hr, hrun, hended, _, _, rfl, hQ, h1, h2, h3, h4.mono hk hn⟩
theorem own_retZW {vm1 : Vm} (X : Stand p l e R (s.setVm vm1) m args below meth c T locs cells slots) {k1 : Nat} (hS : s.Since vm1 k1) (hk1 : k1 ≤ T.heap.size) (hx : p.tables.exec = Jvm.exec) (hlocks : meth.locks = false) (hret : meth.sig.returnType = some .boolean) {pc : Nat} {Ls : Array Slot} {z : Int32} {rest : List Value} (hd : decode c.code pc = .ok (.ireturn, 1)) (hk : cells ≤ kc) (hn : slots ≤ kn) (hQ : Q (some (.int (z &&& 1))) T.heap locs) : own_GoW p.tables e below s Q kc kn (T.setTop (mkF m pc Ls (.int z :: rest))) :=
  own_endW X hS hk1 (v := some (.int (z &&& 1))) (fun q => by rw [hret] at q; cases q) hlocks (fun fs hr => retN X hx (t := .boolean) hret (by simp) hd hr) hk hn hQ
abbrev own_MetW (l : Launch) (Z : State) (y : MethodName) (bytes : ByteArray) (maxL : Nat) (ret : Option FieldType) (ws : List Jvm.Cond) (rm : Room) (as' : Array Value) (h0 : Heap) (Q : Option Value → Heap → List Loc → Prop) : Prop :=
  MetFree l y (head1 (Jvm.Cond.code y bytes maxL ret :: ws) rm) (fun a U => a = as' ∧ Z.Warmed39 U.vm ∧ U.heap = h0) (fun _ _ _ _ _ => True) (fun _ U o U' => ∃ v L, o = .returned v ∧ Q v U'.heap L ∧ ReturnedEndW U o U' L rm.cells rm.slots)
end OwnWide

theorem d4_0 : decode jdk_22_method_1_code 0 = .ok (.aload_n 0, 1) := by decide +kernel
theorem d4_1 : decode jdk_22_method_1_code 1 = .ok (.invokespecial 1, 3) := by decide +kernel
theorem d4_4 : decode jdk_22_method_1_code 4 = .ok (.return_, 1) := by decide +kernel
theorem pf_4 : plainFor (⟨"java/util/AbstractCollection", "<init>", "()V"⟩ : MethodName) = true := by first | exact plainFor_of_name (by first | (simp [plainName, overriddenIn]; done) | decide +kernel) | decide +kernel
theorem pd_4 : parseMethodDescriptor "()V" = some ⟨[], none⟩ := by decide +kernel
theorem ef_4 (m : MethodId) (p0 : Addr) : entryFrame m #[(.ref p0)] 1 = mkF m 0 #[.val (.ref p0)] [] := by first | (simp [entryFrame, mkF, argsToLocals, Value.category]; done) | rfl
def Q4 (Z : State) (p0 : Addr) (h0 : Heap) (n0 : Nat) (v : Option Value) (h : Heap) (L : List Loc) : Prop := v = none ∧ Fr n0 L ∧ h = h0
theorem rm4 (l : Launch) (Z : State) (a0 : Array Value) (hw : ∀ d ∈ tables_1, d.before a0 Z = true) (ws : List Jvm.Cond) (p0 : Addr) (h0 : Heap) (n0 : Nat) (Z0 : n0 ≤ h0.size)  :
    own_Met l Z (⟨"java/util/AbstractCollection", "<init>", "()V"⟩ : MethodName) jdk_22_method_1_code 1 none ws ({ frames := 1, cells := 0, slots := 0, locals := 13 } : Room) #[(.ref p0)] h0 (Q4 Z p0 h0 n0) := by
  refine MetFree.of_bodySF pf_4 hisR ?_
  intro p e s m args below meth c s₁ Bd hml0 hP hK
  obtain ⟨rfl, hZ, hh⟩ := hP
  have hx := Bd.exec
  have hby := Bd.bytes
  have hlk : meth.locks = false := BodyLoose.notSynchronized Bd
  have hml : c.maxLocals = 1 := hml0
  have hown : s.vm.findClass "java/util/AbstractCollection" = some m.cls := findClass_of_methodNamed Bd.named
  have hnm := (name_of_methodNamed Bd.named Bd.method).1
  have X0 : Stand p l e ({ frames := 1, cells := 0, slots := 0, locals := 13 } : Room) s m #[(.ref p0)] below meth c s₁ [] 0 0 := Stand.of_body Bd
  have e0 : s₁.heap = h0 := by rw [← hh, Bd.state]; rfl
  have N0 := Fr.nil n0
  show own_Go _ _ _ _ (Q4 Z p0 h0 n0) _ _ _
  refine own_by (fun _ k => castTop (ef_4 m p0) k) ?_
  show own_Go _ _ _ _ _ _ _ (s₁.setTop (mkF m 0 #[.val (.ref p0)] []))
  refine own_by (fun _ kz => XS.aloadN X0.here hx rfl (hb hby d4_0) rfl rfl kz) ?_
  show own_Go _ _ _ _ _ _ _ (s₁.setTop (mkF m 1 #[.val (.ref p0)] [(.ref p0)]))
  obtain ⟨T1, X1, e1, st1⟩ := initO X0 hx hZ hown (ow hw 24 rfl) (ow hw 25 rfl) (ow hw 26 rfl) e0 (g := (mkF m 1 #[.val (.ref p0)] [(.ref p0)])) rfl (by rw [hml]; rfl) rfl (hb hby d4_1) (by decide) (W := 0) (by show 2 * 0 + _ ≤ _; exact Nat.le_of_eq rfl) (by decide)
  refine own_by st1 ?_
  show own_Go _ _ _ _ _ _ _ (T1.setTop (mkF m 4 #[.val (.ref p0)] []))
  exact own_retV X1 hx hlk Bd.returns (hb hby d4_4) (by decide) (by decide) ⟨rfl, N0, e1⟩
theorem d8_0 : decode jdk_18_method_1_code 0 = .ok (.aload_n 0, 1) := by decide +kernel
theorem d8_1 : decode jdk_18_method_1_code 1 = .ok (.invokespecial 1, 3) := by decide +kernel
theorem d8_4 : decode jdk_18_method_1_code 4 = .ok (.return_, 1) := by decide +kernel
theorem pf_8 : plainFor (⟨"java/lang/Number", "<init>", "()V"⟩ : MethodName) = true := by first | exact plainFor_of_name (by first | (simp [plainName, overriddenIn]; done) | decide +kernel) | decide +kernel
theorem pd_8 : parseMethodDescriptor "()V" = some ⟨[], none⟩ := by decide +kernel
theorem ef_8 (m : MethodId) (p0 : Addr) : entryFrame m #[(.ref p0)] 1 = mkF m 0 #[.val (.ref p0)] [] := by first | (simp [entryFrame, mkF, argsToLocals, Value.category]; done) | rfl
def Q8 (Z : State) (p0 : Addr) (h0 : Heap) (n0 : Nat) (v : Option Value) (h : Heap) (L : List Loc) : Prop := v = none ∧ Fr n0 L ∧ h = h0
theorem rm8 (l : Launch) (Z : State) (a0 : Array Value) (hw : ∀ d ∈ tables_1, d.before a0 Z = true) (ws : List Jvm.Cond) (p0 : Addr) (h0 : Heap) (n0 : Nat) (Z0 : n0 ≤ h0.size)  :
    own_Met l Z (⟨"java/lang/Number", "<init>", "()V"⟩ : MethodName) jdk_18_method_1_code 1 none ws ({ frames := 1, cells := 0, slots := 0, locals := 13 } : Room) #[(.ref p0)] h0 (Q8 Z p0 h0 n0) := by
  refine MetFree.of_bodySF pf_8 hisR ?_
  intro p e s m args below meth c s₁ Bd hml0 hP hK
  obtain ⟨rfl, hZ, hh⟩ := hP
  have hx := Bd.exec
  have hby := Bd.bytes
  have hlk : meth.locks = false := BodyLoose.notSynchronized Bd
  have hml : c.maxLocals = 1 := hml0
  have hown : s.vm.findClass "java/lang/Number" = some m.cls := findClass_of_methodNamed Bd.named
  have hnm := (name_of_methodNamed Bd.named Bd.method).1
  have X0 : Stand p l e ({ frames := 1, cells := 0, slots := 0, locals := 13 } : Room) s m #[(.ref p0)] below meth c s₁ [] 0 0 := Stand.of_body Bd
  have e0 : s₁.heap = h0 := by rw [← hh, Bd.state]; rfl
  have N0 := Fr.nil n0
  show own_Go _ _ _ _ (Q8 Z p0 h0 n0) _ _ _
  refine own_by (fun _ k => castTop (ef_8 m p0) k) ?_
  show own_Go _ _ _ _ _ _ _ (s₁.setTop (mkF m 0 #[.val (.ref p0)] []))
  refine own_by (fun _ kz => XS.aloadN X0.here hx rfl (hb hby d8_0) rfl rfl kz) ?_
  show own_Go _ _ _ _ _ _ _ (s₁.setTop (mkF m 1 #[.val (.ref p0)] [(.ref p0)]))
  obtain ⟨T1, X1, e1, st1⟩ := initO X0 hx hZ hown (ow hw 48 rfl) (ow hw 25 rfl) (ow hw 26 rfl) e0 (g := (mkF m 1 #[.val (.ref p0)] [(.ref p0)])) rfl (by rw [hml]; rfl) rfl (hb hby d8_1) (by decide) (W := 0) (by show 2 * 0 + _ ≤ _; exact Nat.le_of_eq rfl) (by decide)
  refine own_by st1 ?_
  show own_Go _ _ _ _ _ _ _ (T1.setTop (mkF m 4 #[.val (.ref p0)] []))
  exact own_retV X1 hx hlk Bd.returns (hb hby d8_4) (by decide) (by decide) ⟨rfl, N0, e1⟩
theorem d15_0 : decode jdk_30_method_1_code 0 = .ok (.aload_n 0, 1) := by decide +kernel
theorem d15_1 : decode jdk_30_method_1_code 1 = .ok (.invokespecial 1, 3) := by decide +kernel
theorem d15_4 : decode jdk_30_method_1_code 4 = .ok (.return_, 1) := by decide +kernel
theorem pf_15 : plainFor (⟨"java/lang/Record", "<init>", "()V"⟩ : MethodName) = true := by first | exact plainFor_of_name (by first | (simp [plainName, overriddenIn]; done) | decide +kernel) | decide +kernel
theorem pd_15 : parseMethodDescriptor "()V" = some ⟨[], none⟩ := by decide +kernel
theorem ef_15 (m : MethodId) (p0 : Addr) : entryFrame m #[(.ref p0)] 1 = mkF m 0 #[.val (.ref p0)] [] := by first | (simp [entryFrame, mkF, argsToLocals, Value.category]; done) | rfl
def Q15 (Z : State) (p0 : Addr) (h0 : Heap) (n0 : Nat) (v : Option Value) (h : Heap) (L : List Loc) : Prop := v = none ∧ Fr n0 L ∧ h = h0
theorem rm15 (l : Launch) (Z : State) (a0 : Array Value) (hw : ∀ d ∈ tables_1, d.before a0 Z = true) (ws : List Jvm.Cond) (p0 : Addr) (h0 : Heap) (n0 : Nat) (Z0 : n0 ≤ h0.size)  :
    own_Met l Z (⟨"java/lang/Record", "<init>", "()V"⟩ : MethodName) jdk_30_method_1_code 1 none ws ({ frames := 1, cells := 0, slots := 0, locals := 13 } : Room) #[(.ref p0)] h0 (Q15 Z p0 h0 n0) := by
  refine MetFree.of_bodySF pf_15 hisR ?_
  intro p e s m args below meth c s₁ Bd hml0 hP hK
  obtain ⟨rfl, hZ, hh⟩ := hP
  have hx := Bd.exec
  have hby := Bd.bytes
  have hlk : meth.locks = false := BodyLoose.notSynchronized Bd
  have hml : c.maxLocals = 1 := hml0
  have hown : s.vm.findClass "java/lang/Record" = some m.cls := findClass_of_methodNamed Bd.named
  have hnm := (name_of_methodNamed Bd.named Bd.method).1
  have X0 : Stand p l e ({ frames := 1, cells := 0, slots := 0, locals := 13 } : Room) s m #[(.ref p0)] below meth c s₁ [] 0 0 := Stand.of_body Bd
  have e0 : s₁.heap = h0 := by rw [← hh, Bd.state]; rfl
  have N0 := Fr.nil n0
  show own_Go _ _ _ _ (Q15 Z p0 h0 n0) _ _ _
  refine own_by (fun _ k => castTop (ef_15 m p0) k) ?_
  show own_Go _ _ _ _ _ _ _ (s₁.setTop (mkF m 0 #[.val (.ref p0)] []))
  refine own_by (fun _ kz => XS.aloadN X0.here hx rfl (hb hby d15_0) rfl rfl kz) ?_
  show own_Go _ _ _ _ _ _ _ (s₁.setTop (mkF m 1 #[.val (.ref p0)] [(.ref p0)]))
  obtain ⟨T1, X1, e1, st1⟩ := initO X0 hx hZ hown (ow hw 105 rfl) (ow hw 25 rfl) (ow hw 26 rfl) e0 (g := (mkF m 1 #[.val (.ref p0)] [(.ref p0)])) rfl (by rw [hml]; rfl) rfl (hb hby d15_1) (by decide) (W := 0) (by show 2 * 0 + _ ≤ _; exact Nat.le_of_eq rfl) (by decide)
  refine own_by st1 ?_
  show own_Go _ _ _ _ _ _ _ (T1.setTop (mkF m 4 #[.val (.ref p0)] []))
  exact own_retV X1 hx hlk Bd.returns (hb hby d15_4) (by decide) (by decide) ⟨rfl, N0, e1⟩
theorem d35_0 : decode jdk_47_method_1_code 0 = .ok (.aload_n 0, 1) := by decide +kernel
theorem d35_1 : decode jdk_47_method_1_code 1 = .ok (.invokespecial 1, 3) := by decide +kernel
theorem d35_4 : decode jdk_47_method_1_code 4 = .ok (.return_, 1) := by decide +kernel
theorem pf_35 : plainFor (⟨"java/util/ImmutableCollections$AbstractImmutableCollection", "<init>", "()V"⟩ : MethodName) = true := by first | exact plainFor_of_name (by first | (simp [plainName, overriddenIn]; done) | decide +kernel) | decide +kernel
theorem pd_35 : parseMethodDescriptor "()V" = some ⟨[], none⟩ := by decide +kernel
theorem ef_35 (m : MethodId) (p0 : Addr) : entryFrame m #[(.ref p0)] 1 = mkF m 0 #[.val (.ref p0)] [] := by first | (simp [entryFrame, mkF, argsToLocals, Value.category]; done) | rfl
def Q35 (Z : State) (p0 : Addr) (h0 : Heap) (n0 : Nat) (v : Option Value) (h : Heap) (L : List Loc) : Prop := v = none ∧ Fr n0 L ∧ h = h0
theorem rm35 (l : Launch) (Z : State) (a0 : Array Value) (hw : ∀ d ∈ tables_1, d.before a0 Z = true) (ws : List Jvm.Cond) (p0 : Addr) (h0 : Heap) (n0 : Nat) (Z0 : n0 ≤ h0.size)  :
    own_Met l Z (⟨"java/util/ImmutableCollections$AbstractImmutableCollection", "<init>", "()V"⟩ : MethodName) jdk_47_method_1_code 1 none ws ({ frames := 2, cells := 0, slots := 0, locals := 25 } : Room) #[(.ref p0)] h0 (Q35 Z p0 h0 n0) := by
  refine MetFree.of_bodySF pf_35 hisR ?_
  intro p e s m args below meth c s₁ Bd hml0 hP hK
  obtain ⟨rfl, hZ, hh⟩ := hP
  have hx := Bd.exec
  have hby := Bd.bytes
  have hlk : meth.locks = false := BodyLoose.notSynchronized Bd
  have hml : c.maxLocals = 1 := hml0
  have hown : s.vm.findClass "java/util/ImmutableCollections$AbstractImmutableCollection" = some m.cls := findClass_of_methodNamed Bd.named
  have hnm := (name_of_methodNamed Bd.named Bd.method).1
  have X0 : Stand p l e ({ frames := 2, cells := 0, slots := 0, locals := 25 } : Room) s m #[(.ref p0)] below meth c s₁ [] 0 0 := Stand.of_body Bd
  have e0 : s₁.heap = h0 := by rw [← hh, Bd.state]; rfl
  have N0 := Fr.nil n0
  show own_Go _ _ _ _ (Q35 Z p0 h0 n0) _ _ _
  refine own_by (fun _ k => castTop (ef_35 m p0) k) ?_
  show own_Go _ _ _ _ _ _ _ (s₁.setTop (mkF m 0 #[.val (.ref p0)] []))
  refine own_by (fun _ kz => XS.aloadN X0.here hx rfl (hb hby d35_0) rfl rfl kz) ?_
  show own_Go _ _ _ _ _ _ _ (s₁.setTop (mkF m 1 #[.val (.ref p0)] [(.ref p0)]))
  obtain ⟨v1, T1, L1, X1, q1, st1⟩ := own_callI X0 hx hZ rfl hown (ow hw 262 rfl) (ow hw 19 rfl) (ow hw 22 rfl) (ow hw 23 rfl) (by decide) (rm4 l Z a0 hw [] p0 h0 n0 Z0 ) (W := 0) (by decide) (by decide) e0 (g := (mkF m 1 #[.val (.ref p0)] [(.ref p0)])) rfl (by rw [hml]; rfl) (a := p0) (argsL := []) (rest := []) (lenOf pd_4 rfl) rfl rfl (by show 2 * 0 + _ ≤ _; exact Nat.le_of_eq rfl) (hb hby d35_1) (by decide) (by decide)
  obtain ⟨rfl, Nq1, hh1⟩ := q1
  have N1 := Fr.app N0 Nq1
  refine own_by st1 ?_
  show own_Go _ _ _ _ _ _ _ (T1.setTop (mkF m 4 #[.val (.ref p0)] []))
  exact own_retV X1 hx hlk Bd.returns (hb hby d35_4) (by decide) (by decide) ⟨rfl, N1, hh1⟩
theorem d34_0 : decode jdk_46_method_1_code 0 = .ok (.aload_n 0, 1) := by decide +kernel
theorem d34_1 : decode jdk_46_method_1_code 1 = .ok (.invokespecial 1, 3) := by decide +kernel
theorem d34_4 : decode jdk_46_method_1_code 4 = .ok (.return_, 1) := by decide +kernel
theorem pf_34 : plainFor (⟨"java/util/ImmutableCollections$AbstractImmutableList", "<init>", "()V"⟩ : MethodName) = true := by first | exact plainFor_of_name (by first | (simp [plainName, overriddenIn]; done) | decide +kernel) | decide +kernel
theorem pd_34 : parseMethodDescriptor "()V" = some ⟨[], none⟩ := by decide +kernel
theorem ef_34 (m : MethodId) (p0 : Addr) : entryFrame m #[(.ref p0)] 1 = mkF m 0 #[.val (.ref p0)] [] := by first | (simp [entryFrame, mkF, argsToLocals, Value.category]; done) | rfl
def Q34 (Z : State) (p0 : Addr) (h0 : Heap) (n0 : Nat) (v : Option Value) (h : Heap) (L : List Loc) : Prop := v = none ∧ Fr n0 L ∧ h = h0
theorem rm34 (l : Launch) (Z : State) (a0 : Array Value) (hw : ∀ d ∈ tables_1, d.before a0 Z = true) (ws : List Jvm.Cond) (p0 : Addr) (h0 : Heap) (n0 : Nat) (Z0 : n0 ≤ h0.size)  :
    own_Met l Z (⟨"java/util/ImmutableCollections$AbstractImmutableList", "<init>", "()V"⟩ : MethodName) jdk_46_method_1_code 1 none ws ({ frames := 3, cells := 0, slots := 0, locals := 37 } : Room) #[(.ref p0)] h0 (Q34 Z p0 h0 n0) := by
  refine MetFree.of_bodySF pf_34 hisR ?_
  intro p e s m args below meth c s₁ Bd hml0 hP hK
  obtain ⟨rfl, hZ, hh⟩ := hP
  have hx := Bd.exec
  have hby := Bd.bytes
  have hlk : meth.locks = false := BodyLoose.notSynchronized Bd
  have hml : c.maxLocals = 1 := hml0
  have hown : s.vm.findClass "java/util/ImmutableCollections$AbstractImmutableList" = some m.cls := findClass_of_methodNamed Bd.named
  have hnm := (name_of_methodNamed Bd.named Bd.method).1
  have X0 : Stand p l e ({ frames := 3, cells := 0, slots := 0, locals := 37 } : Room) s m #[(.ref p0)] below meth c s₁ [] 0 0 := Stand.of_body Bd
  have e0 : s₁.heap = h0 := by rw [← hh, Bd.state]; rfl
  have N0 := Fr.nil n0
  show own_Go _ _ _ _ (Q34 Z p0 h0 n0) _ _ _
  refine own_by (fun _ k => castTop (ef_34 m p0) k) ?_
  show own_Go _ _ _ _ _ _ _ (s₁.setTop (mkF m 0 #[.val (.ref p0)] []))
  refine own_by (fun _ kz => XS.aloadN X0.here hx rfl (hb hby d34_0) rfl rfl kz) ?_
  show own_Go _ _ _ _ _ _ _ (s₁.setTop (mkF m 1 #[.val (.ref p0)] [(.ref p0)]))
  obtain ⟨v1, T1, L1, X1, q1, st1⟩ := own_callI X0 hx hZ rfl hown (ow hw 256 rfl) (ow hw 257 rfl) (ow hw 260 rfl) (ow hw 261 rfl) (by decide) (rm35 l Z a0 hw [] p0 h0 n0 Z0 ) (W := 0) (by decide) (by decide) e0 (g := (mkF m 1 #[.val (.ref p0)] [(.ref p0)])) rfl (by rw [hml]; rfl) (a := p0) (argsL := []) (rest := []) (lenOf pd_35 rfl) rfl rfl (by show 2 * 0 + _ ≤ _; exact Nat.le_of_eq rfl) (hb hby d34_1) (by decide) (by decide)
  obtain ⟨rfl, Nq1, hh1⟩ := q1
  have N1 := Fr.app N0 Nq1
  refine own_by st1 ?_
  show own_Go _ _ _ _ _ _ _ (T1.setTop (mkF m 4 #[.val (.ref p0)] []))
  exact own_retV X1 hx hlk Bd.returns (hb hby d34_4) (by decide) (by decide) ⟨rfl, N1, hh1⟩
theorem d3_0 : decode jdk_39_method_1_code 0 = .ok (.aload_n 0, 1) := by decide +kernel
theorem d3_1 : decode jdk_39_method_1_code 1 = .ok (.invokespecial 1, 3) := by decide +kernel
theorem d3_4 : decode jdk_39_method_1_code 4 = .ok (.aload_n 0, 1) := by decide +kernel
theorem d3_5 : decode jdk_39_method_1_code 5 = .ok (.iconst 0, 1) := by decide +kernel
theorem d3_6 : decode jdk_39_method_1_code 6 = .ok (.putfield 7, 3) := by decide +kernel
theorem d3_9 : decode jdk_39_method_1_code 9 = .ok (.return_, 1) := by decide +kernel
theorem pf_3 : plainFor (⟨"java/util/AbstractList", "<init>", "()V"⟩ : MethodName) = true := by first | exact plainFor_of_name (by first | (simp [plainName, overriddenIn]; done) | decide +kernel) | decide +kernel
theorem pd_3 : parseMethodDescriptor "()V" = some ⟨[], none⟩ := by decide +kernel
theorem ef_3 (m : MethodId) (p0 : Addr) : entryFrame m #[(.ref p0)] 1 = mkF m 0 #[.val (.ref p0)] [] := by first | (simp [entryFrame, mkF, argsToLocals, Value.category]; done) | rfl
def Q3 (Z : State) (p0 : Addr) (h0 : Heap) (n0 : Nat) (v : Option Value) (h : Heap) (L : List Loc) : Prop := v = none ∧ Fr n0 L ∧ Keep h0 h [p0] ∧ Fld Z h p0 "java/util/AbstractList" "modCount" "I" (.int (0 : Int32)) ∧ Fld Z h p0 "java/util/ArrayList" "elementData" "[Ljava/lang/Object;" .null ∧ Fld Z h p0 "java/util/ArrayList" "size" "I" (.int (0 : Int32))
theorem rm3 (l : Launch) (Z : State) (a0 : Array Value) (hw : ∀ d ∈ tables_1, d.before a0 Z = true) (ws : List Jvm.Cond) (p0 : Addr) (h0 : Heap) (n0 : Nat) (Z0 : n0 ≤ h0.size) (pm0 : Exa Z h0 p0 "java/util/ArrayList") (pm1 : Fld Z h0 p0 "java/util/AbstractList" "modCount" "I" (.int (0 : Int32))) (pm2 : Fld Z h0 p0 "java/util/ArrayList" "elementData" "[Ljava/lang/Object;" .null) (pm3 : Fld Z h0 p0 "java/util/ArrayList" "size" "I" (.int (0 : Int32))) (pm4 : n0 ≤ p0) :
    own_Met l Z (⟨"java/util/AbstractList", "<init>", "()V"⟩ : MethodName) jdk_39_method_1_code 1 none ws ({ frames := 2, cells := 0, slots := 0, locals := 25 } : Room) #[(.ref p0)] h0 (Q3 Z p0 h0 n0) := by
  refine MetFree.of_bodySF pf_3 hisR ?_
  intro p e s m args below meth c s₁ Bd hml0 hP hK
  obtain ⟨rfl, hZ, hh⟩ := hP
  have hx := Bd.exec
  have hby := Bd.bytes
  have hlk : meth.locks = false := BodyLoose.notSynchronized Bd
  have hml : c.maxLocals = 1 := hml0
  have hown : s.vm.findClass "java/util/AbstractList" = some m.cls := findClass_of_methodNamed Bd.named
  have hnm := (name_of_methodNamed Bd.named Bd.method).1
  have X0 : Stand p l e ({ frames := 2, cells := 0, slots := 0, locals := 25 } : Room) s m #[(.ref p0)] below meth c s₁ [] 0 0 := Stand.of_body Bd
  have e0 : s₁.heap = h0 := by rw [← hh, Bd.state]; rfl
  have N0 := Fr.nil n0
  have K0 := Keep.refl h0 [p0]
  show own_Go _ _ _ _ (Q3 Z p0 h0 n0) _ _ _
  refine own_by (fun _ k => castTop (ef_3 m p0) k) ?_
  show own_Go _ _ _ _ _ _ _ (s₁.setTop (mkF m 0 #[.val (.ref p0)] []))
  refine own_by (fun _ kz => XS.aloadN X0.here hx rfl (hb hby d3_0) rfl rfl kz) ?_
  show own_Go _ _ _ _ _ _ _ (s₁.setTop (mkF m 1 #[.val (.ref p0)] [(.ref p0)]))
  obtain ⟨v1, T1, L1, X1, q1, st1⟩ := own_callI X0 hx hZ rfl hown (ow hw 18 rfl) (ow hw 19 rfl) (ow hw 22 rfl) (ow hw 23 rfl) (by decide) (rm4 l Z a0 hw [] p0 h0 n0 Z0 ) (W := 0) (by decide) (by decide) e0 (g := (mkF m 1 #[.val (.ref p0)] [(.ref p0)])) rfl (by rw [hml]; rfl) (a := p0) (argsL := []) (rest := []) (lenOf pd_4 rfl) rfl rfl (by show 2 * 0 + _ ≤ _; exact Nat.le_of_eq rfl) (hb hby d3_1) (by decide) (by decide)
  obtain ⟨rfl, Nq1, hh1⟩ := q1
  have N1 := Fr.app N0 Nq1
  refine own_by st1 ?_
  show own_Go _ _ _ _ _ _ _ (T1.setTop (mkF m 4 #[.val (.ref p0)] []))
  refine own_by (fun _ kz => XS.aloadN X1.here hx rfl (hb hby d3_4) rfl rfl kz) ?_
  refine own_by (fun _ kz => XS.iconst X1.here hx rfl (hb hby d3_5) kz) ?_
  obtain ⟨T2, h2, X2, e2, W2, st2⟩ := putF X1 hx hZ hown (host := "") (Or.inl (ow hw 27 rfl)) Via.refl hh1 pm1 pm0 (Or.inl (ow hw 28 rfl)) (ow hw 7 rfl) (ty := .int) (by decide) rfl rfl (g := (mkF m 6 #[.val (.ref p0)] [(.int (0 : Int32)), (.ref p0)])) rfl rfl (hb hby d3_6)
  have N2 := Fr.snoc X2 N1 pm4
  have Z2 : n0 ≤ h2.size := by rw [W2.size]; exact Z0
  have K2 := K0.wr W2 (Or.inl (List.mem_of_getElem? (i := 0) rfl))
  have pm0_h2 := pm0.wr W2
  have pm1_h2 := pm1.same W2
  have pm2_h2 := pm2.other W2 (Or.inr (slot_ne (Or.inl (ow hw 31 rfl)) (Or.inl (ow hw 28 rfl)) (by decide) (by decide : parseFieldDescriptor "[Ljava/lang/Object;" = some (.array (.object "java/lang/Object"))) (by decide : parseFieldDescriptor "I" = some .int)))
  have pm3_h2 := pm3.other W2 (Or.inr (slot_ne (Or.inl (ow hw 59 rfl)) (Or.inl (ow hw 28 rfl)) (by decide) (by decide : parseFieldDescriptor "I" = some .int) (by decide : parseFieldDescriptor "I" = some .int)))
  refine own_by st2 ?_
  show own_Go _ _ _ _ _ _ _ (T2.setTop (mkF m 9 #[.val (.ref p0)] []))
  exact own_retV X2 hx hlk Bd.returns (hb hby d3_9) (by decide) (by decide) ⟨rfl, N2, by rw [e2]; exact K2, by rw [e2]; exact pm1_h2, by rw [e2]; exact pm2_h2, by rw [e2]; exact pm3_h2⟩
theorem d2_0 : decode jdk_38_method_2_code 0 = .ok (.aload_n 0, 1) := by decide +kernel
theorem d2_1 : decode jdk_38_method_2_code 1 = .ok (.invokespecial 1, 3) := by decide +kernel
theorem d2_4 : decode jdk_38_method_2_code 4 = .ok (.aload_n 0, 1) := by decide +kernel
theorem d2_5 : decode jdk_38_method_2_code 5 = .ok (.getstatic 39, 3) := by decide +kernel
theorem d2_8 : decode jdk_38_method_2_code 8 = .ok (.putfield 9, 3) := by decide +kernel
theorem d2_11 : decode jdk_38_method_2_code 11 = .ok (.return_, 1) := by decide +kernel
theorem pf_2 : plainFor (⟨"java/util/ArrayList", "<init>", "()V"⟩ : MethodName) = true := by first | exact plainFor_of_name (by first | (simp [plainName, overriddenIn]; done) | decide +kernel) | decide +kernel
theorem pd_2 : parseMethodDescriptor "()V" = some ⟨[], none⟩ := by decide +kernel
theorem ef_2 (m : MethodId) (p0 : Addr) : entryFrame m #[(.ref p0)] 1 = mkF m 0 #[.val (.ref p0)] [] := by first | (simp [entryFrame, mkF, argsToLocals, Value.category]; done) | rfl
def Q2 (Z : State) (p0 : Addr) (D : Addr) (h0 : Heap) (n0 : Nat) (v : Option Value) (h : Heap) (L : List Loc) : Prop := v = none ∧ Fr n0 L ∧ Keep h0 h [p0] ∧ Fld Z h p0 "java/util/AbstractList" "modCount" "I" (.int (0 : Int32)) ∧ Fld Z h p0 "java/util/ArrayList" "elementData" "[Ljava/lang/Object;" (.ref D) ∧ Fld Z h p0 "java/util/ArrayList" "size" "I" (.int (0 : Int32))
theorem rm2 (l : Launch) (Z : State) (a0 : Array Value) (hw : ∀ d ∈ tables_1, d.before a0 Z = true) (ws : List Jvm.Cond) (p0 : Addr) (h0 : Heap) (n0 : Nat) (Z0 : n0 ≤ h0.size) (D : Addr) (SD : Sta Z Z.heap "java/util/ArrayList" "DEFAULTCAPACITY_EMPTY_ELEMENTDATA" "[Ljava/lang/Object;" (.ref D)) (pm0 : Exa Z h0 p0 "java/util/ArrayList") (pm1 : Fld Z h0 p0 "java/util/AbstractList" "modCount" "I" (.int (0 : Int32))) (pm2 : Fld Z h0 p0 "java/util/ArrayList" "elementData" "[Ljava/lang/Object;" .null) (pm3 : Fld Z h0 p0 "java/util/ArrayList" "size" "I" (.int (0 : Int32))) (pm4 : n0 ≤ p0) (pm5 : Old Z n0 h0) :
    own_Met l Z (⟨"java/util/ArrayList", "<init>", "()V"⟩ : MethodName) jdk_38_method_2_code 1 none ws ({ frames := 3, cells := 0, slots := 0, locals := 37 } : Room) #[(.ref p0)] h0 (Q2 Z p0 D h0 n0) := by
  refine MetFree.of_bodySF pf_2 hisR ?_
  intro p e s m args below meth c s₁ Bd hml0 hP hK
  obtain ⟨rfl, hZ, hh⟩ := hP
  have hx := Bd.exec
  have hby := Bd.bytes
  have hlk : meth.locks = false := BodyLoose.notSynchronized Bd
  have hml : c.maxLocals = 1 := hml0
  have hown : s.vm.findClass "java/util/ArrayList" = some m.cls := findClass_of_methodNamed Bd.named
  have hnm := (name_of_methodNamed Bd.named Bd.method).1
  have X0 : Stand p l e ({ frames := 3, cells := 0, slots := 0, locals := 37 } : Room) s m #[(.ref p0)] below meth c s₁ [] 0 0 := Stand.of_body Bd
  have e0 : s₁.heap = h0 := by rw [← hh, Bd.state]; rfl
  have N0 := Fr.nil n0
  have K0 := Keep.refl h0 [p0]
  show own_Go _ _ _ _ (Q2 Z p0 D h0 n0) _ _ _
  refine own_by (fun _ k => castTop (ef_2 m p0) k) ?_
  show own_Go _ _ _ _ _ _ _ (s₁.setTop (mkF m 0 #[.val (.ref p0)] []))
  refine own_by (fun _ kz => XS.aloadN X0.here hx rfl (hb hby d2_0) rfl rfl kz) ?_
  show own_Go _ _ _ _ _ _ _ (s₁.setTop (mkF m 1 #[.val (.ref p0)] [(.ref p0)]))
  obtain ⟨v1, T1, L1, X1, q1, st1⟩ := own_callI X0 hx hZ rfl hown (ow hw 12 rfl) (ow hw 13 rfl) (ow hw 16 rfl) (ow hw 17 rfl) (by decide) (rm3 l Z a0 hw [] p0 h0 n0 Z0 pm0 pm1 pm2 pm3 pm4) (W := 0) (by decide) (by decide) e0 (g := (mkF m 1 #[.val (.ref p0)] [(.ref p0)])) rfl (by rw [hml]; rfl) (a := p0) (argsL := []) (rest := []) (lenOf pd_3 rfl) rfl rfl (by show 2 * 0 + _ ≤ _; exact Nat.le_of_eq rfl) (hb hby d2_1) (by decide) (by decide)
  obtain ⟨rfl, Nq1, Kq1, o1_0, o1_1, o1_2⟩ := q1
  have N1 := Fr.app N0 Nq1
  have Z1 : n0 ≤ T1.heap.size := Nat.le_trans Z0 Kq1.1
  have K1 := K0.trans Kq1 (allS (Or.inl (List.mem_of_getElem? (i := 0) rfl)) all0)
  have O1 := pm5.keep Kq1 (allS pm4 all0)
  have pm0_h1 := pm0.keep Kq1
  refine own_by st1 ?_
  show own_Go _ _ _ _ _ _ _ (T1.setTop (mkF m 4 #[.val (.ref p0)] []))
  refine own_by (fun _ kz => XS.aloadN X1.here hx rfl (hb hby d2_4) rfl rfl kz) ?_
  show own_Go _ _ _ _ _ _ _ (T1.setTop (mkF m 5 #[.val (.ref p0)] [(.ref p0)]))
  obtain ⟨T2, X2, e2, st2⟩ := getS2 X1 hx hZ hown (host := "") (Or.inl (ow hw 29 rfl)) Via.refl rfl (SD.ext O1.2) (g := (mkF m 5 #[.val (.ref p0)] [(.ref p0)])) rfl (hb hby d2_5)
  refine own_by st2 ?_
  show own_Go _ _ _ _ _ _ _ (T2.setTop (mkF m 8 #[.val (.ref p0)] [(.ref D), (.ref p0)]))
  obtain ⟨T3, h3, X3, e3, W3, st3⟩ := putF X2 hx hZ hown (host := "") (Or.inl (ow hw 30 rfl)) Via.refl e2 o1_1 pm0_h1 (Or.inl (ow hw 31 rfl)) (ow hw 7 rfl) (ty := (.array (.object "java/lang/Object"))) (by decide) rfl rfl (g := (mkF m 8 #[.val (.ref p0)] [(.ref D), (.ref p0)])) rfl rfl (hb hby d2_8)
  have N3 := Fr.snoc X3 N1 pm4
  have Z3 : n0 ≤ h3.size := by rw [W3.size]; exact Z1
  have K3 := K1.wr W3 (Or.inl (List.mem_of_getElem? (i := 0) rfl))
  have O3 := O1.wr W3 pm4
  have pm0_h3 := pm0_h1.wr W3
  have o1_0_h3 := o1_0.other W3 (Or.inr (slot_ne (Or.inl (ow hw 28 rfl)) (Or.inl (ow hw 31 rfl)) (by decide) (by decide : parseFieldDescriptor "I" = some .int) (by decide : parseFieldDescriptor "[Ljava/lang/Object;" = some (.array (.object "java/lang/Object")))))
  have o1_1_h3 := o1_1.same W3
  have o1_2_h3 := o1_2.other W3 (Or.inr (slot_ne (Or.inl (ow hw 59 rfl)) (Or.inl (ow hw 31 rfl)) (by decide) (by decide : parseFieldDescriptor "I" = some .int) (by decide : parseFieldDescriptor "[Ljava/lang/Object;" = some (.array (.object "java/lang/Object")))))
  refine own_by st3 ?_
  show own_Go _ _ _ _ _ _ _ (T3.setTop (mkF m 11 #[.val (.ref p0)] []))
  exact own_retV X3 hx hlk Bd.returns (hb hby d2_11) (by decide) (by decide) ⟨rfl, N3, by rw [e3]; exact K3, by rw [e3]; exact o1_0_h3, by rw [e3]; exact o1_1_h3, by rw [e3]; exact o1_2_h3⟩
theorem d7_0 : decode jdk_117_method_9_code 0 = .ok (.aload_n 0, 1) := by decide +kernel
theorem d7_1 : decode jdk_117_method_9_code 1 = .ok (.invokespecial 113, 3) := by decide +kernel
theorem d7_4 : decode jdk_117_method_9_code 4 = .ok (.aload_n 0, 1) := by decide +kernel
theorem d7_5 : decode jdk_117_method_9_code 5 = .ok (.dload_n 1, 1) := by decide +kernel
theorem d7_6 : decode jdk_117_method_9_code 6 = .ok (.putfield 118, 3) := by decide +kernel
theorem d7_9 : decode jdk_117_method_9_code 9 = .ok (.return_, 1) := by decide +kernel
theorem pf_7 : plainFor (⟨"java/lang/Double", "<init>", "(D)V"⟩ : MethodName) = true := by first | exact plainFor_of_name (by first | (simp [plainName, overriddenIn]; done) | decide +kernel) | decide +kernel
theorem pd_7 : parseMethodDescriptor "(D)V" = some ⟨[.double], none⟩ := by decide +kernel
theorem ef_7 (m : MethodId) (p0 : Addr) (p1 : UInt64) : entryFrame m #[(.ref p0), (.double p1)] 3 = mkF m 0 #[.val (.ref p0), .val (.double p1), .second] [] := by first | (simp [entryFrame, mkF, argsToLocals, Value.category]; done) | rfl
def Q7 (Z : State) (p0 : Addr) (p1 : UInt64) (h0 : Heap) (n0 : Nat) (v : Option Value) (h : Heap) (L : List Loc) : Prop := v = none ∧ Fr n0 L ∧ Keep h0 h [p0] ∧ Fld Z h p0 "java/lang/Double" "value" "D" (.double p1)
theorem rm7 (l : Launch) (Z : State) (a0 : Array Value) (hw : ∀ d ∈ tables_1, d.before a0 Z = true) (ws : List Jvm.Cond) (p0 : Addr) (p1 : UInt64) (h0 : Heap) (n0 : Nat) (Z0 : n0 ≤ h0.size) (pm0 : Exa Z h0 p0 "java/lang/Double") (pm1 : Fld Z h0 p0 "java/lang/Double" "value" "D" (.double (0 : UInt64))) (pm2 : n0 ≤ p0) :
    own_Met l Z (⟨"java/lang/Double", "<init>", "(D)V"⟩ : MethodName) jdk_117_method_9_code 3 none ws ({ frames := 2, cells := 0, slots := 0, locals := 25 } : Room) #[(.ref p0), (.double p1)] h0 (Q7 Z p0 p1 h0 n0) := by
  refine MetFree.of_bodySF pf_7 hisR ?_
  intro p e s m args below meth c s₁ Bd hml0 hP hK
  obtain ⟨rfl, hZ, hh⟩ := hP
  have hx := Bd.exec
  have hby := Bd.bytes
  have hlk : meth.locks = false := BodyLoose.notSynchronized Bd
  have hml : c.maxLocals = 3 := hml0
  have hown : s.vm.findClass "java/lang/Double" = some m.cls := findClass_of_methodNamed Bd.named
  have hnm := (name_of_methodNamed Bd.named Bd.method).1
  have X0 : Stand p l e ({ frames := 2, cells := 0, slots := 0, locals := 25 } : Room) s m #[(.ref p0), (.double p1)] below meth c s₁ [] 0 0 := Stand.of_body Bd
  have e0 : s₁.heap = h0 := by rw [← hh, Bd.state]; rfl
  have N0 := Fr.nil n0
  have K0 := Keep.refl h0 [p0]
  show own_Go _ _ _ _ (Q7 Z p0 p1 h0 n0) _ _ _
  refine own_by (fun _ k => castTop (ef_7 m p0 p1) k) ?_
  show own_Go _ _ _ _ _ _ _ (s₁.setTop (mkF m 0 #[.val (.ref p0), .val (.double p1), .second] []))
  refine own_by (fun _ kz => XS.aloadN X0.here hx rfl (hb hby d7_0) rfl rfl kz) ?_
  show own_Go _ _ _ _ _ _ _ (s₁.setTop (mkF m 1 #[.val (.ref p0), .val (.double p1), .second] [(.ref p0)]))
  obtain ⟨v1, T1, L1, X1, q1, st1⟩ := own_callI X0 hx hZ rfl hown (ow hw 42 rfl) (ow hw 43 rfl) (ow hw 46 rfl) (ow hw 47 rfl) (by decide) (rm8 l Z a0 hw [] p0 h0 n0 Z0 ) (W := 0) (by decide) (by decide) e0 (g := (mkF m 1 #[.val (.ref p0), .val (.double p1), .second] [(.ref p0)])) rfl (by rw [hml]; rfl) (a := p0) (argsL := []) (rest := []) (lenOf pd_8 rfl) rfl rfl (by show 2 * 0 + _ ≤ _; exact Nat.le_of_eq rfl) (hb hby d7_1) (by decide) (by decide)
  obtain ⟨rfl, Nq1, hh1⟩ := q1
  have N1 := Fr.app N0 Nq1
  refine own_by st1 ?_
  show own_Go _ _ _ _ _ _ _ (T1.setTop (mkF m 4 #[.val (.ref p0), .val (.double p1), .second] []))
  refine own_by (fun _ kz => XS.aloadN X1.here hx rfl (hb hby d7_4) rfl rfl kz) ?_
  refine own_by (fun _ kz => XS.dloadN X1.here hx rfl (hb hby d7_5) rfl kz) ?_
  obtain ⟨T2, h2, X2, e2, W2, st2⟩ := putF X1 hx hZ hown (host := "") (Or.inl (ow hw 49 rfl)) Via.refl hh1 pm1 pm0 (Or.inr ⟨ (ow hw 50 rfl), rfl, hnm⟩) (ow hw 37 rfl) (ty := .double) (by decide) rfl rfl (g := (mkF m 6 #[.val (.ref p0), .val (.double p1), .second] [(.double p1), (.ref p0)])) rfl rfl (hb hby d7_6)
  have N2 := Fr.snoc X2 N1 pm2
  have Z2 : n0 ≤ h2.size := by rw [W2.size]; exact Z0
  have K2 := K0.wr W2 (Or.inl (List.mem_of_getElem? (i := 0) rfl))
  have pm0_h2 := pm0.wr W2
  have pm1_h2 := pm1.same W2
  refine own_by st2 ?_
  show own_Go _ _ _ _ _ _ _ (T2.setTop (mkF m 9 #[.val (.ref p0), .val (.double p1), .second] []))
  exact own_retV X2 hx hlk Bd.returns (hb hby d7_9) (by decide) (by decide) ⟨rfl, N2, by rw [e2]; exact K2, by rw [e2]; exact pm1_h2⟩
theorem d6_0 : decode jdk_117_method_4_code 0 = .ok (.new 1, 3) := by decide +kernel
theorem d6_3 : decode jdk_117_method_4_code 3 = .ok (.dup, 1) := by decide +kernel
theorem d6_4 : decode jdk_117_method_4_code 4 = .ok (.dload_n 0, 1) := by decide +kernel
theorem d6_5 : decode jdk_117_method_4_code 5 = .ok (.invokespecial 105, 3) := by decide +kernel
theorem d6_8 : decode jdk_117_method_4_code 8 = .ok (.areturn, 1) := by decide +kernel
theorem pf_6 : plainFor (⟨"java/lang/Double", "valueOf", "(D)Ljava/lang/Double;"⟩ : MethodName) = true := by first | exact plainFor_of_name (by first | (simp [plainName, overriddenIn]; done) | decide +kernel) | decide +kernel
theorem pd_6 : parseMethodDescriptor "(D)Ljava/lang/Double;" = some ⟨[.double], some (.object "java/lang/Double")⟩ := by decide +kernel
theorem ef_6 (m : MethodId) (p0 : UInt64) : entryFrame m #[(.double p0)] 2 = mkF m 0 #[.val (.double p0), .second] [] := by first | (simp [entryFrame, mkF, argsToLocals, Value.category]; done) | rfl
def Q6 (Z : State) (p0 : UInt64) (h0 : Heap) (n0 : Nat) (v : Option Value) (h : Heap) (L : List Loc) : Prop := ∃ (r : Addr), v = some (.ref r) ∧ Fr n0 L ∧ Keep h0 h [] ∧ h0.size ≤ r ∧ Exa Z h r "java/lang/Double" ∧ Fld Z h r "java/lang/Double" "value" "D" (.double p0)
theorem rm6 (l : Launch) (Z : State) (a0 : Array Value) (hw : ∀ d ∈ tables_1, d.before a0 Z = true) (ws : List Jvm.Cond) (p0 : UInt64) (h0 : Heap) (n0 : Nat) (Z0 : n0 ≤ h0.size)  :
    own_Met l Z (⟨"java/lang/Double", "valueOf", "(D)Ljava/lang/Double;"⟩ : MethodName) jdk_117_method_4_code 2 (some (.object "java/lang/Double")) ws ({ frames := 3, cells := 1, slots := 1, locals := 40 } : Room) #[(.double p0)] h0 (Q6 Z p0 h0 n0) := by
  refine MetFree.of_bodySF pf_6 hisR ?_
  intro p e s m args below meth c s₁ Bd hml0 hP hK
  obtain ⟨rfl, hZ, hh⟩ := hP
  have hx := Bd.exec
  have hby := Bd.bytes
  have hlk : meth.locks = false := BodyLoose.notSynchronized Bd
  have hml : c.maxLocals = 2 := hml0
  have hown : s.vm.findClass "java/lang/Double" = some m.cls := findClass_of_methodNamed Bd.named
  have hnm := (name_of_methodNamed Bd.named Bd.method).1
  have X0 : Stand p l e ({ frames := 3, cells := 1, slots := 1, locals := 40 } : Room) s m #[(.double p0)] below meth c s₁ [] 0 0 := Stand.of_body Bd
  have e0 : s₁.heap = h0 := by rw [← hh, Bd.state]; rfl
  have N0 := Fr.nil n0
  have K0 := Keep.refl h0 []
  show own_Go _ _ _ _ (Q6 Z p0 h0 n0) _ _ _
  refine own_by (fun _ k => castTop (ef_6 m p0) k) ?_
  show own_Go _ _ _ _ _ _ _ (s₁.setTop (mkF m 0 #[.val (.double p0), .second] []))
  obtain ⟨T1, h1, X1, e1, E1, A1, D1, -, st1⟩ := newO X0 hx hZ hown (ow hw 36 rfl) (ow hw 37 rfl) (ow hw 34 rfl) e0 (g := (mkF m 0 #[.val (.double p0), .second] [])) rfl (hb hby d6_0) (by decide) (by decide)
  obtain ⟨b1, g1⟩ : ∃ z, z = h0.size := ⟨_, rfl⟩
  rw [← g1] at A1 D1 st1
  have ge_b1 : n0 ≤ b1 := Nat.le_trans Z0 (Nat.le_of_eq g1.symm)
  have sz_b1 : h0.size ≤ b1 := Nat.le_trans K0.1 (Nat.le_of_eq g1.symm)
  have Z1 : n0 ≤ h1.size := Nat.le_trans Z0 E1.1
  have K1 := K0.ext E1
  have F1_value : Fld Z h1 b1 "java/lang/Double" "value" "D" (.double (0 : UInt64)) := D1 (Or.inr (ow hw 50 rfl)) (ty := .double) (by decide)
  refine own_by st1 ?_
  show own_Go _ _ _ _ _ _ _ (T1.setTop (mkF m 3 #[.val (.double p0), .second] [(.ref b1)]))
  refine own_by (fun _ kz => XS.dup X1.here hx rfl (hb hby d6_3) rfl rfl kz) ?_
  refine own_by (fun _ kz => XS.dloadN X1.here hx rfl (hb hby d6_4) rfl kz) ?_
  show own_Go _ _ _ _ _ _ _ (T1.setTop (mkF m 5 #[.val (.double p0), .second] [(.double p0), (.ref b1), (.ref b1)]))
  obtain ⟨v2, T2, L2, X2, q2, st2⟩ := own_callI X1 hx hZ rfl hown (ow hw 38 rfl) (ow hw 39 rfl) (ow hw 34 rfl) (ow hw 41 rfl) (by decide) (rm7 l Z a0 hw [] b1 p0 h1 n0 Z1 A1 F1_value ge_b1) (W := 1) (by decide) (by decide) e1 (g := (mkF m 5 #[.val (.double p0), .second] [(.double p0), (.ref b1), (.ref b1)])) rfl (by rw [hml]; rfl) (a := b1) (argsL := [(.double p0)]) (rest := [(.ref b1)]) (lenOf pd_7 rfl) rfl rfl (by show 2 * 0 + _ ≤ _; exact Nat.le_of_eq rfl) (hb hby d6_5) (by decide) (by decide)
  obtain ⟨rfl, Nq2, Kq2, o2_0⟩ := q2
  have N2 := Fr.app N0 Nq2
  have Z2 : n0 ≤ T2.heap.size := Nat.le_trans Z1 Kq2.1
  have K2 := K1.trans Kq2 (allS (Or.inr sz_b1) all0)
  have A1_h2 := A1.keep Kq2
  refine own_by st2 ?_
  show own_Go _ _ _ _ _ _ _ (T2.setTop (mkF m 8 #[.val (.double p0), .second] [(.ref b1)]))
  exact own_retA X2 hx hlk Bd.returns rfl (hb hby d6_8) (by decide) (by decide) ⟨b1, rfl, N2, K2, sz_b1, A1_h2, o2_0⟩
theorem d25_0 : decode jdk_117_method_19_code 0 = .ok (.aload_n 0, 1) := by decide +kernel
theorem d25_1 : decode jdk_117_method_19_code 1 = .ok (.getfield 118, 3) := by decide +kernel
theorem d25_4 : decode jdk_117_method_19_code 4 = .ok (.dreturn, 1) := by decide +kernel
theorem pf_25 : plainFor (⟨"java/lang/Double", "doubleValue", "()D"⟩ : MethodName) = true := by first | exact plainFor_of_name (by first | (simp [plainName, overriddenIn]; done) | decide +kernel) | decide +kernel
theorem pd_25 : parseMethodDescriptor "()D" = some ⟨[], some .double⟩ := by decide +kernel
theorem ef_25 (m : MethodId) (p0 : Addr) : entryFrame m #[(.ref p0)] 1 = mkF m 0 #[.val (.ref p0)] [] := by first | (simp [entryFrame, mkF, argsToLocals, Value.category]; done) | rfl
def Q25 (Z : State) (p0 : Addr) (w : UInt64) (h0 : Heap) (n0 : Nat) (v : Option Value) (h : Heap) (L : List Loc) : Prop := v = some (.double w) ∧ Fr n0 L ∧ h = h0
theorem rm25 (l : Launch) (Z : State) (a0 : Array Value) (hw : ∀ d ∈ tables_1, d.before a0 Z = true) (ws : List Jvm.Cond) (p0 : Addr) (h0 : Heap) (n0 : Nat) (Z0 : n0 ≤ h0.size) (w : UInt64) (pm0 : Fld Z h0 p0 "java/lang/Double" "value" "D" (.double w)) :
    own_Met l Z (⟨"java/lang/Double", "doubleValue", "()D"⟩ : MethodName) jdk_117_method_19_code 1 (some .double) ws ({ frames := 0, cells := 0, slots := 0, locals := 0 } : Room) #[(.ref p0)] h0 (Q25 Z p0 w h0 n0) := by
  refine MetFree.of_bodySF pf_25 hisR ?_
  intro p e s m args below meth c s₁ Bd hml0 hP hK
  obtain ⟨rfl, hZ, hh⟩ := hP
  have hx := Bd.exec
  have hby := Bd.bytes
  have hlk : meth.locks = false := BodyLoose.notSynchronized Bd
  have hml : c.maxLocals = 1 := hml0
  have hown : s.vm.findClass "java/lang/Double" = some m.cls := findClass_of_methodNamed Bd.named
  have hnm := (name_of_methodNamed Bd.named Bd.method).1
  have X0 : Stand p l e ({ frames := 0, cells := 0, slots := 0, locals := 0 } : Room) s m #[(.ref p0)] below meth c s₁ [] 0 0 := Stand.of_body Bd
  have e0 : s₁.heap = h0 := by rw [← hh, Bd.state]; rfl
  have N0 := Fr.nil n0
  show own_Go _ _ _ _ (Q25 Z p0 w h0 n0) _ _ _
  refine own_by (fun _ k => castTop (ef_25 m p0) k) ?_
  show own_Go _ _ _ _ _ _ _ (s₁.setTop (mkF m 0 #[.val (.ref p0)] []))
  refine own_by (fun _ kz => XS.aloadN X0.here hx rfl (hb hby d25_0) rfl rfl kz) ?_
  obtain ⟨T1, X1, e1, st1⟩ := getF X0 hx hZ hown (host := "") (Or.inl (ow hw 49 rfl)) Via.refl e0 pm0 (g := (mkF m 1 #[.val (.ref p0)] [(.ref p0)])) rfl rfl (hb hby d25_1)
  refine own_by st1 ?_
  show own_Go _ _ _ _ _ _ _ (T1.setTop (mkF m 4 #[.val (.ref p0)] [(.double w)]))
  exact own_retD X1 hx hlk Bd.returns (hb hby d25_4) (by decide) (by decide) ⟨rfl, N0, e1⟩
theorem d13_0 : decode jdk_29_method_65_code 0 = .ok (.iload_n 0, 1) := by decide +kernel
theorem d13_1 : decode jdk_29_method_65_code 1 = .ok (.iload_n 1, 1) := by decide +kernel
theorem d13_2 : decode jdk_29_method_65_code 2 = .ok (.if_icmp .lt 7, 3) := by decide +kernel
theorem d13_5 : decode jdk_29_method_65_code 5 = .ok (.iload_n 0, 1) := by decide +kernel
theorem d13_6 : decode jdk_29_method_65_code 6 = .ok (.goto 4, 3) := by decide +kernel
theorem d13_10 : decode jdk_29_method_65_code 10 = .ok (.ireturn, 1) := by decide +kernel
theorem pf_13 : plainFor (⟨"java/lang/Math", "max", "(II)I"⟩ : MethodName) = true := by first | exact plainFor_of_name (by first | (simp [plainName, overriddenIn]; done) | decide +kernel) | decide +kernel
theorem pd_13 : parseMethodDescriptor "(II)I" = some ⟨[.int, .int], some .int⟩ := by decide +kernel
theorem ef_13 (m : MethodId)  : entryFrame m #[(.int (10 : Int32)), (.int (1 : Int32))] 2 = mkF m 0 #[.val (.int (10 : Int32)), .val (.int (1 : Int32))] [] := by first | (simp [entryFrame, mkF, argsToLocals, Value.category]; done) | rfl
def Q13 (Z : State)  (h0 : Heap) (n0 : Nat) (v : Option Value) (h : Heap) (L : List Loc) : Prop := v = some (.int (10 : Int32)) ∧ Fr n0 L ∧ h = h0
theorem rm13 (l : Launch) (Z : State) (a0 : Array Value) (hw : ∀ d ∈ tables_1, d.before a0 Z = true) (ws : List Jvm.Cond)  (h0 : Heap) (n0 : Nat) (Z0 : n0 ≤ h0.size)  :
    own_Met l Z (⟨"java/lang/Math", "max", "(II)I"⟩ : MethodName) jdk_29_method_65_code 2 (some .int) ws ({ frames := 0, cells := 0, slots := 0, locals := 0 } : Room) #[(.int (10 : Int32)), (.int (1 : Int32))] h0 (Q13 Z  h0 n0) := by
  refine MetFree.of_bodySF pf_13 hisR ?_
  intro p e s m args below meth c s₁ Bd hml0 hP hK
  obtain ⟨rfl, hZ, hh⟩ := hP
  have hx := Bd.exec
  have hby := Bd.bytes
  have hlk : meth.locks = false := BodyLoose.notSynchronized Bd
  have hml : c.maxLocals = 2 := hml0
  have hown : s.vm.findClass "java/lang/Math" = some m.cls := findClass_of_methodNamed Bd.named
  have hnm := (name_of_methodNamed Bd.named Bd.method).1
  have X0 : Stand p l e ({ frames := 0, cells := 0, slots := 0, locals := 0 } : Room) s m #[(.int (10 : Int32)), (.int (1 : Int32))] below meth c s₁ [] 0 0 := Stand.of_body Bd
  have e0 : s₁.heap = h0 := by rw [← hh, Bd.state]; rfl
  have N0 := Fr.nil n0
  show own_Go _ _ _ _ (Q13 Z  h0 n0) _ _ _
  refine own_by (fun _ k => castTop (ef_13 m ) k) ?_
  show own_Go _ _ _ _ _ _ _ (s₁.setTop (mkF m 0 #[.val (.int (10 : Int32)), .val (.int (1 : Int32))] []))
  refine own_by (fun _ kz => XS.iloadN X0.here hx rfl (hb hby d13_0) rfl kz) ?_
  refine own_by (fun _ kz => XS.iloadN X0.here hx rfl (hb hby d13_1) rfl kz) ?_
  show own_Go _ _ _ _ _ _ _ (s₁.setTop (mkF m 2 #[.val (.int (10 : Int32)), .val (.int (1 : Int32))] [(.int (1 : Int32)), (.int (10 : Int32))]))
  refine own_by (fun _ kz => XS.icmpNo X0.here hx rfl (hb hby d13_2) rfl (flt (by decide : ¬ ((10 : Int32) < (1 : Int32)))).1 kz) ?_
  show own_Go _ _ _ _ _ _ _ (s₁.setTop (mkF m 5 #[.val (.int (10 : Int32)), .val (.int (1 : Int32))] []))
  refine own_by (fun _ kz => XS.iloadN X0.here hx rfl (hb hby d13_5) rfl kz) ?_
  show own_Go _ _ _ _ _ _ _ (s₁.setTop (mkF m 6 #[.val (.int (10 : Int32)), .val (.int (1 : Int32))] [(.int (10 : Int32))]))
  refine own_by (fun _ kz => XS.goto X0.here hx rfl (pc0 := 6) (pc' := 10) rfl (hb hby d13_6) (by decide) (by decide) kz) ?_
  show own_Go _ _ _ _ _ _ _ (s₁.setTop (mkF m 10 #[.val (.int (10 : Int32)), .val (.int (1 : Int32))] [(.int (10 : Int32))]))
  exact own_retI X0 hx hlk Bd.returns (hb hby d13_10) (by decide) (by decide) ⟨rfl, N0, e0⟩
theorem d12_0 : decode jdk_38_method_6_code 0 = .ok (.aload_n 0, 1) := by decide +kernel
theorem d12_1 : decode jdk_38_method_6_code 1 = .ok (.getfield 9, 3) := by decide +kernel
theorem d12_4 : decode jdk_38_method_6_code 4 = .ok (.arraylength, 1) := by decide +kernel
theorem d12_5 : decode jdk_38_method_6_code 5 = .ok (.istore_n 2, 1) := by decide +kernel
theorem d12_6 : decode jdk_38_method_6_code 6 = .ok (.iload_n 2, 1) := by decide +kernel
theorem d12_7 : decode jdk_38_method_6_code 7 = .ok (.ifCond .gt 13, 3) := by decide +kernel
theorem d12_10 : decode jdk_38_method_6_code 10 = .ok (.aload_n 0, 1) := by decide +kernel
theorem d12_11 : decode jdk_38_method_6_code 11 = .ok (.getfield 9, 3) := by decide +kernel
theorem d12_14 : decode jdk_38_method_6_code 14 = .ok (.getstatic 39, 3) := by decide +kernel
theorem d12_17 : decode jdk_38_method_6_code 17 = .ok (.if_acmp .eq 28, 3) := by decide +kernel
theorem d12_45 : decode jdk_38_method_6_code 45 = .ok (.aload_n 0, 1) := by decide +kernel
theorem d12_46 : decode jdk_38_method_6_code 46 = .ok (.bipush 10, 2) := by decide +kernel
theorem d12_48 : decode jdk_38_method_6_code 48 = .ok (.iload_n 1, 1) := by decide +kernel
theorem d12_49 : decode jdk_38_method_6_code 49 = .ok (.invokestatic 79, 3) := by decide +kernel
theorem d12_52 : decode jdk_38_method_6_code 52 = .ok (.anewarray 7, 3) := by decide +kernel
theorem d12_55 : decode jdk_38_method_6_code 55 = .ok (.dup_x1, 1) := by decide +kernel
theorem d12_56 : decode jdk_38_method_6_code 56 = .ok (.putfield 9, 3) := by decide +kernel
theorem d12_59 : decode jdk_38_method_6_code 59 = .ok (.areturn, 1) := by decide +kernel
theorem pf_12 : plainFor (⟨"java/util/ArrayList", "grow", "(I)[Ljava/lang/Object;"⟩ : MethodName) = true := by first | exact plainFor_of_name (by first | (simp [plainName, overriddenIn]; done) | decide +kernel) | decide +kernel
theorem pd_12 : parseMethodDescriptor "(I)[Ljava/lang/Object;" = some ⟨[.int], some (.array (.object "java/lang/Object"))⟩ := by decide +kernel
theorem ef_12 (m : MethodId) (p0 : Addr) : entryFrame m #[(.ref p0), (.int (1 : Int32))] 4 = mkF m 0 #[.val (.ref p0), .val (.int (1 : Int32)), .unset, .unset] [] := by first | (simp [entryFrame, mkF, argsToLocals, Value.category]; done) | rfl
def Q12 (Z : State) (p0 : Addr) (D : Addr) (kD : ClassId) (mc : Int32) (h0 : Heap) (n0 : Nat) (v : Option Value) (h : Heap) (L : List Loc) : Prop := ∃ (ea : Addr) (kA : ClassId), v = some (.ref ea) ∧ Fr n0 L ∧ Keep h0 h [p0] ∧ h0.size ≤ ea ∧ Fld Z h p0 "java/util/AbstractList" "modCount" "I" (.int mc) ∧ Fld Z h p0 "java/util/ArrayList" "elementData" "[Ljava/lang/Object;" (.ref ea) ∧ Fld Z h p0 "java/util/ArrayList" "size" "I" (.int (0 : Int32)) ∧ Exa Z h ea "[Ljava/lang/Object;" ∧ Arv Z h ea kA (.object "java/lang/Object") (10 : Int32) [.null, .null, .null, .null, .null, .null, .null, .null, .null, .null] .null ∧ Ovr Z kA "java/lang/Object"
theorem rm12 (l : Launch) (Z : State) (a0 : Array Value) (hw : ∀ d ∈ tables_1, d.before a0 Z = true) (ws : List Jvm.Cond) (p0 : Addr) (h0 : Heap) (n0 : Nat) (Z0 : n0 ≤ h0.size) (D : Addr) (SD : Sta Z Z.heap "java/util/ArrayList" "DEFAULTCAPACITY_EMPTY_ELEMENTDATA" "[Ljava/lang/Object;" (.ref D)) (kD : ClassId) (mc : Int32) (pm0 : Exa Z h0 p0 "java/util/ArrayList") (pm1 : Fld Z h0 p0 "java/util/AbstractList" "modCount" "I" (.int mc)) (pm2 : Fld Z h0 p0 "java/util/ArrayList" "elementData" "[Ljava/lang/Object;" (.ref D)) (pm3 : Fld Z h0 p0 "java/util/ArrayList" "size" "I" (.int (0 : Int32))) (pm4 : Arv Z h0 D kD (.object "java/lang/Object") (0 : Int32) [] .null) (pm5 : D ≠ p0) (pm6 : n0 ≤ p0) (pm7 : Old Z n0 h0) :
    own_Met l Z (⟨"java/util/ArrayList", "grow", "(I)[Ljava/lang/Object;"⟩ : MethodName) jdk_38_method_6_code 4 (some (.array (.object "java/lang/Object"))) ws ({ frames := 1, cells := 1, slots := 10, locals := 14 } : Room) #[(.ref p0), (.int (1 : Int32))] h0 (Q12 Z p0 D kD mc h0 n0) := by
  refine MetFree.of_bodySF pf_12 hisR ?_
  intro p e s m args below meth c s₁ Bd hml0 hP hK
  obtain ⟨rfl, hZ, hh⟩ := hP
  have hx := Bd.exec
  have hby := Bd.bytes
  have hlk : meth.locks = false := BodyLoose.notSynchronized Bd
  have hml : c.maxLocals = 4 := hml0
  have hown : s.vm.findClass "java/util/ArrayList" = some m.cls := findClass_of_methodNamed Bd.named
  have hnm := (name_of_methodNamed Bd.named Bd.method).1
  have X0 : Stand p l e ({ frames := 1, cells := 1, slots := 10, locals := 14 } : Room) s m #[(.ref p0), (.int (1 : Int32))] below meth c s₁ [] 0 0 := Stand.of_body Bd
  have e0 : s₁.heap = h0 := by rw [← hh, Bd.state]; rfl
  have N0 := Fr.nil n0
  have K0 := Keep.refl h0 [p0]
  show own_Go _ _ _ _ (Q12 Z p0 D kD mc h0 n0) _ _ _
  refine own_by (fun _ k => castTop (ef_12 m p0) k) ?_
  show own_Go _ _ _ _ _ _ _ (s₁.setTop (mkF m 0 #[.val (.ref p0), .val (.int (1 : Int32)), .unset, .unset] []))
  refine own_by (fun _ kz => XS.aloadN X0.here hx rfl (hb hby d12_0) rfl rfl kz) ?_
  obtain ⟨T1, X1, e1, st1⟩ := getF X0 hx hZ hown (host := "") (Or.inl (ow hw 30 rfl)) Via.refl e0 pm2 (g := (mkF m 1 #[.val (.ref p0), .val (.int (1 : Int32)), .unset, .unset] [(.ref p0)])) rfl rfl (hb hby d12_1)
  refine own_by st1 ?_
  show own_Go _ _ _ _ _ _ _ (T1.setTop (mkF m 4 #[.val (.ref p0), .val (.int (1 : Int32)), .unset, .unset] [(.ref D)]))
  refine own_by (fun _ kz => own_len X1 hx hZ e1 pm4 (g := (mkF m 4 #[.val (.ref p0), .val (.int (1 : Int32)), .unset, .unset] [(.ref D)])) rfl rfl (hb hby d12_4) _ kz) ?_
  show own_Go _ _ _ _ _ _ _ (T1.setTop (mkF m 5 #[.val (.ref p0), .val (.int (1 : Int32)), .unset, .unset] [(.int (0 : Int32))]))
  refine own_by (fun _ kz => XS.istoreN X1.here hx rfl (hb hby d12_5) rfl (l' := #[.val (.ref p0), .val (.int (1 : Int32)), .val (.int (0 : Int32)), .unset]) rfl kz) ?_
  show own_Go _ _ _ _ _ _ _ (T1.setTop (mkF m 6 #[.val (.ref p0), .val (.int (1 : Int32)), .val (.int (0 : Int32)), .unset] []))
  refine own_by (fun _ kz => XS.iloadN X1.here hx rfl (hb hby d12_6) rfl kz) ?_
  show own_Go _ _ _ _ _ _ _ (T1.setTop (mkF m 7 #[.val (.ref p0), .val (.int (1 : Int32)), .val (.int (0 : Int32)), .unset] [(.int (0 : Int32))]))
  refine own_by (fun _ kz => XS.ifNo X1.here hx rfl (hb hby d12_7) rfl ((if0 _ _).trans (flt (by decide : ¬ ((0 : Int32) < (0 : Int32)))).2.2.1) kz) ?_
  show own_Go _ _ _ _ _ _ _ (T1.setTop (mkF m 10 #[.val (.ref p0), .val (.int (1 : Int32)), .val (.int (0 : Int32)), .unset] []))
  refine own_by (fun _ kz => XS.aloadN X1.here hx rfl (hb hby d12_10) rfl rfl kz) ?_
  obtain ⟨T2, X2, e2, st2⟩ := getF X1 hx hZ hown (host := "") (Or.inl (ow hw 30 rfl)) Via.refl e1 pm2 (g := (mkF m 11 #[.val (.ref p0), .val (.int (1 : Int32)), .val (.int (0 : Int32)), .unset] [(.ref p0)])) rfl rfl (hb hby d12_11)
  refine own_by st2 ?_
  show own_Go _ _ _ _ _ _ _ (T2.setTop (mkF m 14 #[.val (.ref p0), .val (.int (1 : Int32)), .val (.int (0 : Int32)), .unset] [(.ref D)]))
  obtain ⟨T3, X3, e3, st3⟩ := getS2 X2 hx hZ hown (host := "") (Or.inl (ow hw 29 rfl)) Via.refl e2 (SD.ext pm7.2) (g := (mkF m 14 #[.val (.ref p0), .val (.int (1 : Int32)), .val (.int (0 : Int32)), .unset] [(.ref D)])) rfl (hb hby d12_14)
  refine own_by st3 ?_
  show own_Go _ _ _ _ _ _ _ (T3.setTop (mkF m 17 #[.val (.ref p0), .val (.int (1 : Int32)), .val (.int (0 : Int32)), .unset] [(.ref D), (.ref D)]))
  refine own_by (fun _ kz => Jvm.RoadKit.acmp (g := (mkF m 17 #[.val (.ref p0), .val (.int (1 : Int32)), .val (.int (0 : Int32)), .unset] [(.ref D), (.ref D)])) X3 hx rfl rfl rfl (pc0 := 17) (pc' := 45) (same := true) rfl (hb hby d12_17) rfl (decide_eq_true rfl) (by decide) (by decide) kz) ?_
  show own_Go _ _ _ _ _ _ _ (T3.setTop (mkF m 45 #[.val (.ref p0), .val (.int (1 : Int32)), .val (.int (0 : Int32)), .unset] []))
  refine own_by (fun _ kz => XS.aloadN X3.here hx rfl (hb hby d12_45) rfl rfl kz) ?_
  refine own_by (fun _ kz => XS.bipush X3.here hx rfl (hb hby d12_46) kz) ?_
  refine own_by (fun _ kz => XS.iloadN X3.here hx rfl (hb hby d12_48) rfl kz) ?_
  show own_Go _ _ _ _ _ _ _ (T3.setTop (mkF m 49 #[.val (.ref p0), .val (.int (1 : Int32)), .val (.int (0 : Int32)), .unset] [(.int (1 : Int32)), (.int (10 : Int32)), (.ref p0)]))
  obtain ⟨v4, T4, L4, X4, q4, st4⟩ := own_callS X3 hx hZ hown (ow hw 75 rfl) (ow hw 76 rfl) (ow hw 77 rfl) (ow hw 78 rfl) (by decide) (rm13 l Z a0 hw []  h0 n0 Z0 ) (W := 1) (by decide) (by decide) e3 (g := (mkF m 49 #[.val (.ref p0), .val (.int (1 : Int32)), .val (.int (0 : Int32)), .unset] [(.int (1 : Int32)), (.int (10 : Int32)), (.ref p0)])) rfl (by rw [hml]; rfl) (argsL := [(.int (10 : Int32)), (.int (1 : Int32))]) (rest := [(.ref p0)]) (lenOf pd_13 rfl) rfl rfl (by show 2 * 0 + _ ≤ _; exact Nat.le_of_eq rfl) (hb hby d12_49) (by decide) (by decide)
  obtain ⟨rfl, Nq4, hh4⟩ := q4
  have N4 := Fr.app N0 Nq4
  refine own_by st4 ?_
  show own_Go _ _ _ _ _ _ _ (T4.setTop (mkF m 52 #[.val (.ref p0), .val (.int (1 : Int32)), .val (.int (0 : Int32)), .unset] [(.int (10 : Int32)), (.ref p0)]))
  obtain ⟨T5, h5, k5, X5, e5, E5, A5, Ea5, Ov5, st5⟩ := newRE X4 hx hZ hown (ow hw 79 rfl) (ow hw 80 rfl) hh4 (g := (mkF m 52 #[.val (.ref p0), .val (.int (1 : Int32)), .val (.int (0 : Int32)), .unset] [(.int (10 : Int32)), (.ref p0)])) rfl (hb hby d12_52) rfl (by decide) (cap := 10) (by decide) (by decide) (by decide) (by decide) (ad := "[Ljava/lang/Object;") (by decide)
  obtain ⟨b5, g5⟩ : ∃ z, z = h0.size := ⟨_, rfl⟩
  rw [← g5] at A5 Ea5 st5
  have ge_b5 : n0 ≤ b5 := Nat.le_trans Z0 (Nat.le_of_eq g5.symm)
  have sz_b5 : h0.size ≤ b5 := Nat.le_trans K0.1 (Nat.le_of_eq g5.symm)
  have ne_p0_b5 : p0 ≠ b5 := by rw [g5]; exact Nat.ne_of_lt pm0.lt
  have ne_D_b5 : D ≠ b5 := by rw [g5]; exact Nat.ne_of_lt pm4.lt
  have Z5 : n0 ≤ h5.size := Nat.le_trans Z0 E5.1
  have K5 := K0.ext E5
  have O5 := pm7.ext E5
  have pm0_h5 := pm0.ext E5
  have pm1_h5 := pm1.ext E5
  have pm2_h5 := pm2.ext E5
  have pm3_h5 := pm3.ext E5
  have pm4_h5 := pm4.ext E5
  have V5 : Arv Z h5 b5 k5 (.object "java/lang/Object") (10 : Int32) [.null, .null, .null, .null, .null, .null, .null, .null, .null, .null] .null := (Arv.new A5 (by decide)).pad (fun i => pad_rep [] _ 10 i)
  refine own_by st5 ?_
  show own_Go _ _ _ _ _ _ _ (T5.setTop (mkF m 55 #[.val (.ref p0), .val (.int (1 : Int32)), .val (.int (0 : Int32)), .unset] [(.ref b5), (.ref p0)]))
  refine own_by (fun _ kz => XS.dupX1 X5.here hx rfl (hb hby d12_55) rfl rfl rfl kz) ?_
  show own_Go _ _ _ _ _ _ _ (T5.setTop (mkF m 56 #[.val (.ref p0), .val (.int (1 : Int32)), .val (.int (0 : Int32)), .unset] [(.ref b5), (.ref p0), (.ref b5)]))
  obtain ⟨T6, h6, X6, e6, W6, st6⟩ := putF X5 hx hZ hown (host := "") (Or.inl (ow hw 30 rfl)) Via.refl e5 pm2_h5 pm0_h5 (Or.inl (ow hw 31 rfl)) (ow hw 7 rfl) (ty := (.array (.object "java/lang/Object"))) (by decide) rfl rfl (g := (mkF m 56 #[.val (.ref p0), .val (.int (1 : Int32)), .val (.int (0 : Int32)), .unset] [(.ref b5), (.ref p0), (.ref b5)])) rfl rfl (hb hby d12_56)
  have N6 := Fr.snoc X6 N4 pm6
  have Z6 : n0 ≤ h6.size := by rw [W6.size]; exact Z5
  have K6 := K5.wr W6 (Or.inl (List.mem_of_getElem? (i := 0) rfl))
  have O6 := O5.wr W6 pm6
  have pm0_h6 := pm0_h5.wr W6
  have pm1_h6 := pm1_h5.other W6 (Or.inr (slot_ne (Or.inl (ow hw 28 rfl)) (Or.inl (ow hw 31 rfl)) (by decide) (by decide : parseFieldDescriptor "I" = some .int) (by decide : parseFieldDescriptor "[Ljava/lang/Object;" = some (.array (.object "java/lang/Object")))))
  have pm2_h6 := pm2_h5.same W6
  have pm3_h6 := pm3_h5.other W6 (Or.inr (slot_ne (Or.inl (ow hw 59 rfl)) (Or.inl (ow hw 31 rfl)) (by decide) (by decide : parseFieldDescriptor "I" = some .int) (by decide : parseFieldDescriptor "[Ljava/lang/Object;" = some (.array (.object "java/lang/Object")))))
  have pm4_h6 := pm4_h5.other W6 pm5
  have V5_h6 := V5.other W6 (Ne.symm ne_p0_b5)
  have Ea5_h6 := Ea5.wr W6
  refine own_by st6 ?_
  show own_Go _ _ _ _ _ _ _ (T6.setTop (mkF m 59 #[.val (.ref p0), .val (.int (1 : Int32)), .val (.int (0 : Int32)), .unset] [(.ref b5)]))
  exact own_retA X6 hx hlk Bd.returns rfl (hb hby d12_59) (by decide) (by decide) ⟨b5, k5, rfl, N6, by rw [e6]; exact K6, sz_b5, by rw [e6]; exact pm1_h6, by rw [e6]; exact pm2_h6, by rw [e6]; exact pm3_h6, by rw [e6]; exact Ea5_h6, by rw [e6]; exact V5_h6, Ov5⟩
theorem d11_0 : decode jdk_38_method_7_code 0 = .ok (.aload_n 0, 1) := by decide +kernel
theorem d11_1 : decode jdk_38_method_7_code 1 = .ok (.aload_n 0, 1) := by decide +kernel
theorem d11_2 : decode jdk_38_method_7_code 2 = .ok (.getfield 48, 3) := by decide +kernel
theorem d11_5 : decode jdk_38_method_7_code 5 = .ok (.iconst 1, 1) := by decide +kernel
theorem d11_6 : decode jdk_38_method_7_code 6 = .ok (.iadd, 1) := by decide +kernel
theorem d11_7 : decode jdk_38_method_7_code 7 = .ok (.invokevirtual 69, 3) := by decide +kernel
theorem d11_10 : decode jdk_38_method_7_code 10 = .ok (.areturn, 1) := by decide +kernel
theorem pf_11 : plainFor (⟨"java/util/ArrayList", "grow", "()[Ljava/lang/Object;"⟩ : MethodName) = true := by first | exact plainFor_of_name (by first | (simp [plainName, overriddenIn]; done) | decide +kernel) | decide +kernel
theorem pd_11 : parseMethodDescriptor "()[Ljava/lang/Object;" = some ⟨[], some (.array (.object "java/lang/Object"))⟩ := by decide +kernel
theorem ef_11 (m : MethodId) (p0 : Addr) : entryFrame m #[(.ref p0)] 1 = mkF m 0 #[.val (.ref p0)] [] := by first | (simp [entryFrame, mkF, argsToLocals, Value.category]; done) | rfl
def Q11 (Z : State) (p0 : Addr) (D : Addr) (kD : ClassId) (mc : Int32) (h0 : Heap) (n0 : Nat) (v : Option Value) (h : Heap) (L : List Loc) : Prop := ∃ (ea : Addr) (kA : ClassId), v = some (.ref ea) ∧ Fr n0 L ∧ Keep h0 h [p0] ∧ h0.size ≤ ea ∧ Fld Z h p0 "java/util/AbstractList" "modCount" "I" (.int mc) ∧ Fld Z h p0 "java/util/ArrayList" "elementData" "[Ljava/lang/Object;" (.ref ea) ∧ Fld Z h p0 "java/util/ArrayList" "size" "I" (.int (0 : Int32)) ∧ Exa Z h ea "[Ljava/lang/Object;" ∧ Arv Z h ea kA (.object "java/lang/Object") (10 : Int32) [.null, .null, .null, .null, .null, .null, .null, .null, .null, .null] .null ∧ Ovr Z kA "java/lang/Object"
theorem rm11 (l : Launch) (Z : State) (a0 : Array Value) (hw : ∀ d ∈ tables_1, d.before a0 Z = true) (ws : List Jvm.Cond) (p0 : Addr) (h0 : Heap) (n0 : Nat) (Z0 : n0 ≤ h0.size) (D : Addr) (SD : Sta Z Z.heap "java/util/ArrayList" "DEFAULTCAPACITY_EMPTY_ELEMENTDATA" "[Ljava/lang/Object;" (.ref D)) (kD : ClassId) (mc : Int32) (pm0 : Exa Z h0 p0 "java/util/ArrayList") (pm1 : Fld Z h0 p0 "java/util/AbstractList" "modCount" "I" (.int mc)) (pm2 : Fld Z h0 p0 "java/util/ArrayList" "elementData" "[Ljava/lang/Object;" (.ref D)) (pm3 : Fld Z h0 p0 "java/util/ArrayList" "size" "I" (.int (0 : Int32))) (pm4 : Arv Z h0 D kD (.object "java/lang/Object") (0 : Int32) [] .null) (pm5 : D ≠ p0) (pm6 : n0 ≤ p0) (pm7 : Old Z n0 h0) :
    own_Met l Z (⟨"java/util/ArrayList", "grow", "()[Ljava/lang/Object;"⟩ : MethodName) jdk_38_method_7_code 1 (some (.array (.object "java/lang/Object"))) ws ({ frames := 2, cells := 1, slots := 10, locals := 29 } : Room) #[(.ref p0)] h0 (Q11 Z p0 D kD mc h0 n0) := by
  refine MetFree.of_bodySF pf_11 hisR ?_
  intro p e s m args below meth c s₁ Bd hml0 hP hK
  obtain ⟨rfl, hZ, hh⟩ := hP
  have hx := Bd.exec
  have hby := Bd.bytes
  have hlk : meth.locks = false := BodyLoose.notSynchronized Bd
  have hml : c.maxLocals = 1 := hml0
  have hown : s.vm.findClass "java/util/ArrayList" = some m.cls := findClass_of_methodNamed Bd.named
  have hnm := (name_of_methodNamed Bd.named Bd.method).1
  have X0 : Stand p l e ({ frames := 2, cells := 1, slots := 10, locals := 29 } : Room) s m #[(.ref p0)] below meth c s₁ [] 0 0 := Stand.of_body Bd
  have e0 : s₁.heap = h0 := by rw [← hh, Bd.state]; rfl
  have N0 := Fr.nil n0
  have K0 := Keep.refl h0 [p0]
  show own_Go _ _ _ _ (Q11 Z p0 D kD mc h0 n0) _ _ _
  refine own_by (fun _ k => castTop (ef_11 m p0) k) ?_
  show own_Go _ _ _ _ _ _ _ (s₁.setTop (mkF m 0 #[.val (.ref p0)] []))
  refine own_by (fun _ kz => XS.aloadN X0.here hx rfl (hb hby d11_0) rfl rfl kz) ?_
  refine own_by (fun _ kz => XS.aloadN X0.here hx rfl (hb hby d11_1) rfl rfl kz) ?_
  obtain ⟨T1, X1, e1, st1⟩ := getF X0 hx hZ hown (host := "") (Or.inl (ow hw 58 rfl)) Via.refl e0 pm3 (g := (mkF m 2 #[.val (.ref p0)] [(.ref p0), (.ref p0)])) rfl rfl (hb hby d11_2)
  refine own_by st1 ?_
  show own_Go _ _ _ _ _ _ _ (T1.setTop (mkF m 5 #[.val (.ref p0)] [(.int (0 : Int32)), (.ref p0)]))
  refine own_by (fun _ kz => XS.iconst X1.here hx rfl (hb hby d11_5) kz) ?_
  show own_Go _ _ _ _ _ _ _ (T1.setTop (mkF m 6 #[.val (.ref p0)] [(.int (1 : Int32)), (.int (0 : Int32)), (.ref p0)]))
  refine own_by (fun _ kz => XS.iadd X1.here hx rfl (hb hby d11_6) rfl kz) ?_
  show own_Go _ _ _ _ _ _ _ (T1.setTop (mkF m 7 #[.val (.ref p0)] [(.int (1 : Int32)), (.ref p0)]))
  obtain ⟨v2, T2, L2, X2, q2, st2⟩ := own_callP X1 hx hZ hown (ow hw 70 rfl) (ow hw 71 rfl) (ow hw 72 rfl) (ow hw 73 rfl) rfl (ow hw 8 rfl) (ow hw 74 rfl) (by decide) (rm12 l Z a0 hw [] p0 h0 n0 Z0 D SD kD mc pm0 pm1 pm2 pm3 pm4 pm5 pm6 pm7) (W := 0) (by decide) (by decide) e1 pm0 (g := (mkF m 7 #[.val (.ref p0)] [(.int (1 : Int32)), (.ref p0)])) rfl (by rw [hml]; rfl) (argsL := [(.int (1 : Int32))]) (rest := []) (lenOf pd_12 rfl) rfl rfl (by show 2 * 0 + _ ≤ _; exact Nat.le_of_eq rfl) (hb hby d11_7) (by decide) (by decide)
  obtain ⟨ea2, kA2, rfl, Nq2, Kq2, o2_0, o2_1, o2_2, o2_3, o2_4, o2_5, o2_6⟩ := q2
  have N2 := Fr.app N0 Nq2
  have Z2 : n0 ≤ T2.heap.size := Nat.le_trans Z0 Kq2.1
  have K2 := K0.trans Kq2 (allS (Or.inl (List.mem_of_getElem? (i := 0) rfl)) all0)
  have O2 := pm7.keep Kq2 (allS pm6 all0)
  have pm0_h2 := pm0.keep Kq2
  have pm4_h2 := pm4.keep Kq2 (ninS pm5 nin0)
  have ge_ea2 : n0 ≤ ea2 := Nat.le_trans Z0 o2_0
  have sz_ea2 : h0.size ≤ ea2 := Nat.le_trans K0.1 o2_0
  have ne_p0_ea2 : p0 ≠ ea2 := Nat.ne_of_lt (Nat.lt_of_lt_of_le pm0.lt o2_0)
  have ne_D_ea2 : D ≠ ea2 := Nat.ne_of_lt (Nat.lt_of_lt_of_le pm4.lt o2_0)
  refine own_by st2 ?_
  show own_Go _ _ _ _ _ _ _ (T2.setTop (mkF m 10 #[.val (.ref p0)] [(.ref ea2)]))
  exact own_retA X2 hx hlk Bd.returns rfl (hb hby d11_10) (by decide) (by decide) ⟨ea2, kA2, rfl, N2, K2, sz_ea2, o2_1, o2_2, o2_3, o2_4, o2_5, o2_6⟩
theorem d10_0 : decode jdk_38_method_24_code 0 = .ok (.iload_n 3, 1) := by decide +kernel
theorem d10_1 : decode jdk_38_method_24_code 1 = .ok (.aload_n 2, 1) := by decide +kernel
theorem d10_2 : decode jdk_38_method_24_code 2 = .ok (.arraylength, 1) := by decide +kernel
theorem d10_3 : decode jdk_38_method_24_code 3 = .ok (.if_icmp .ne 8, 3) := by decide +kernel
theorem d10_6 : decode jdk_38_method_24_code 6 = .ok (.aload_n 0, 1) := by decide +kernel
theorem d10_7 : decode jdk_38_method_24_code 7 = .ok (.invokevirtual 129, 3) := by decide +kernel
theorem d10_10 : decode jdk_38_method_24_code 10 = .ok (.astore_n 2, 1) := by decide +kernel
theorem d10_11 : decode jdk_38_method_24_code 11 = .ok (.aload_n 2, 1) := by decide +kernel
theorem d10_12 : decode jdk_38_method_24_code 12 = .ok (.iload_n 3, 1) := by decide +kernel
theorem d10_13 : decode jdk_38_method_24_code 13 = .ok (.aload_n 1, 1) := by decide +kernel
theorem d10_14 : decode jdk_38_method_24_code 14 = .ok (.aastore, 1) := by decide +kernel
theorem d10_15 : decode jdk_38_method_24_code 15 = .ok (.aload_n 0, 1) := by decide +kernel
theorem d10_16 : decode jdk_38_method_24_code 16 = .ok (.iload_n 3, 1) := by decide +kernel
theorem d10_17 : decode jdk_38_method_24_code 17 = .ok (.iconst 1, 1) := by decide +kernel
theorem d10_18 : decode jdk_38_method_24_code 18 = .ok (.iadd, 1) := by decide +kernel
theorem d10_19 : decode jdk_38_method_24_code 19 = .ok (.putfield 48, 3) := by decide +kernel
theorem d10_22 : decode jdk_38_method_24_code 22 = .ok (.return_, 1) := by decide +kernel
theorem pf_10 : plainFor (⟨"java/util/ArrayList", "add", "(Ljava/lang/Object;[Ljava/lang/Object;I)V"⟩ : MethodName) = true := by first | exact plainFor_of_name (by first | (simp [plainName, overriddenIn]; done) | decide +kernel) | decide +kernel
theorem pd_10 : parseMethodDescriptor "(Ljava/lang/Object;[Ljava/lang/Object;I)V" = some ⟨[(.object "java/lang/Object"), (.array (.object "java/lang/Object")), .int], none⟩ := by decide +kernel
theorem ef_10a (m : MethodId) (p0 : Addr) (p1 : Addr) (D : Addr) : entryFrame m #[(.ref p0), (.ref p1), (.ref D), (.int (0 : Int32))] 4 = mkF m 0 #[.val (.ref p0), .val (.ref p1), .val (.ref D), .val (.int (0 : Int32))] [] := by first | (simp [entryFrame, mkF, argsToLocals, Value.category]; done) | rfl
def Q10a (Z : State) (p0 : Addr) (p1 : Addr) (D : Addr) (D : Addr) (kD : ClassId) (mc : Int32) (h0 : Heap) (n0 : Nat) (v : Option Value) (h : Heap) (L : List Loc) : Prop := ∃ (ea : Addr) (kA : ClassId), v = none ∧ Fr n0 L ∧ Keep h0 h [p0] ∧ h0.size ≤ ea ∧ Fld Z h p0 "java/util/AbstractList" "modCount" "I" (.int mc) ∧ Fld Z h p0 "java/util/ArrayList" "elementData" "[Ljava/lang/Object;" (.ref ea) ∧ Fld Z h p0 "java/util/ArrayList" "size" "I" (.int (1 : Int32)) ∧ Exa Z h ea "[Ljava/lang/Object;" ∧ Arv Z h ea kA (.object "java/lang/Object") (10 : Int32) [(.ref p1), .null, .null, .null, .null, .null, .null, .null, .null, .null] .null ∧ Ovr Z kA "java/lang/Object"
theorem rm10a (l : Launch) (Z : State) (a0 : Array Value) (hw : ∀ d ∈ tables_1, d.before a0 Z = true) (ws : List Jvm.Cond) (p0 : Addr) (p1 : Addr) (D : Addr) (h0 : Heap) (n0 : Nat) (Z0 : n0 ≤ h0.size) (D : Addr) (SD : Sta Z Z.heap "java/util/ArrayList" "DEFAULTCAPACITY_EMPTY_ELEMENTDATA" "[Ljava/lang/Object;" (.ref D)) (kD : ClassId) (mc : Int32) (pm0 : Exa Z h0 p0 "java/util/ArrayList") (pm1 : Fld Z h0 p0 "java/util/AbstractList" "modCount" "I" (.int mc)) (pm2 : Fld Z h0 p0 "java/util/ArrayList" "elementData" "[Ljava/lang/Object;" (.ref D)) (pm3 : Fld Z h0 p0 "java/util/ArrayList" "size" "I" (.int (0 : Int32))) (pm4 : Arv Z h0 D kD (.object "java/lang/Object") (0 : Int32) [] .null) (pm5 : D ≠ p0) (pm6 : n0 ≤ p0) (pm7 : Old Z n0 h0) (pm8 : Exa Z h0 p1 "java/lang/Double") :
    own_Met l Z (⟨"java/util/ArrayList", "add", "(Ljava/lang/Object;[Ljava/lang/Object;I)V"⟩ : MethodName) jdk_38_method_24_code 4 none ws ({ frames := 3, cells := 1, slots := 10, locals := 41 } : Room) #[(.ref p0), (.ref p1), (.ref D), (.int (0 : Int32))] h0 (Q10a Z p0 p1 D D kD mc h0 n0) := by
  refine MetFree.of_bodySF pf_10 hisR ?_
  intro p e s m args below meth c s₁ Bd hml0 hP hK
  obtain ⟨rfl, hZ, hh⟩ := hP
  have hx := Bd.exec
  have hby := Bd.bytes
  have hlk : meth.locks = false := BodyLoose.notSynchronized Bd
  have hml : c.maxLocals = 4 := hml0
  have hown : s.vm.findClass "java/util/ArrayList" = some m.cls := findClass_of_methodNamed Bd.named
  have hnm := (name_of_methodNamed Bd.named Bd.method).1
  have X0 : Stand p l e ({ frames := 3, cells := 1, slots := 10, locals := 41 } : Room) s m #[(.ref p0), (.ref p1), (.ref D), (.int (0 : Int32))] below meth c s₁ [] 0 0 := Stand.of_body Bd
  have e0 : s₁.heap = h0 := by rw [← hh, Bd.state]; rfl
  have N0 := Fr.nil n0
  have K0 := Keep.refl h0 [p0]
  show own_Go _ _ _ _ (Q10a Z p0 p1 D D kD mc h0 n0) _ _ _
  refine own_by (fun _ k => castTop (ef_10a m p0 p1 D) k) ?_
  show own_Go _ _ _ _ _ _ _ (s₁.setTop (mkF m 0 #[.val (.ref p0), .val (.ref p1), .val (.ref D), .val (.int (0 : Int32))] []))
  refine own_by (fun _ kz => XS.iloadN X0.here hx rfl (hb hby d10_0) rfl kz) ?_
  refine own_by (fun _ kz => XS.aloadN X0.here hx rfl (hb hby d10_1) rfl rfl kz) ?_
  show own_Go _ _ _ _ _ _ _ (s₁.setTop (mkF m 2 #[.val (.ref p0), .val (.ref p1), .val (.ref D), .val (.int (0 : Int32))] [(.ref D), (.int (0 : Int32))]))
  refine own_by (fun _ kz => own_len X0 hx hZ e0 pm4 (g := (mkF m 2 #[.val (.ref p0), .val (.ref p1), .val (.ref D), .val (.int (0 : Int32))] [(.ref D), (.int (0 : Int32))])) rfl rfl (hb hby d10_2) _ kz) ?_
  show own_Go _ _ _ _ _ _ _ (s₁.setTop (mkF m 3 #[.val (.ref p0), .val (.ref p1), .val (.ref D), .val (.int (0 : Int32))] [(.int (0 : Int32)), (.int (0 : Int32))]))
  refine own_by (fun _ kz => XS.icmpNo X0.here hx rfl (hb hby d10_3) rfl (teq (by decide : ((0 : Int32) = (0 : Int32)))).2 kz) ?_
  show own_Go _ _ _ _ _ _ _ (s₁.setTop (mkF m 6 #[.val (.ref p0), .val (.ref p1), .val (.ref D), .val (.int (0 : Int32))] []))
  refine own_by (fun _ kz => XS.aloadN X0.here hx rfl (hb hby d10_6) rfl rfl kz) ?_
  show own_Go _ _ _ _ _ _ _ (s₁.setTop (mkF m 7 #[.val (.ref p0), .val (.ref p1), .val (.ref D), .val (.int (0 : Int32))] [(.ref p0)]))
  obtain ⟨v1, T1, L1, X1, q1, st1⟩ := own_callP X0 hx hZ hown (ow hw 65 rfl) (ow hw 66 rfl) (ow hw 67 rfl) (ow hw 68 rfl) rfl (ow hw 8 rfl) (ow hw 69 rfl) (by decide) (rm11 l Z a0 hw [] p0 h0 n0 Z0 D SD kD mc pm0 pm1 pm2 pm3 pm4 pm5 pm6 pm7) (W := 0) (by decide) (by decide) e0 pm0 (g := (mkF m 7 #[.val (.ref p0), .val (.ref p1), .val (.ref D), .val (.int (0 : Int32))] [(.ref p0)])) rfl (by rw [hml]; rfl) (argsL := []) (rest := []) (lenOf pd_11 rfl) rfl rfl (by show 2 * 0 + _ ≤ _; exact Nat.le_of_eq rfl) (hb hby d10_7) (by decide) (by decide)
  obtain ⟨ea1, kA1, rfl, Nq1, Kq1, o1_0, o1_1, o1_2, o1_3, o1_4, o1_5, o1_6⟩ := q1
  have N1 := Fr.app N0 Nq1
  have Z1 : n0 ≤ T1.heap.size := Nat.le_trans Z0 Kq1.1
  have K1 := K0.trans Kq1 (allS (Or.inl (List.mem_of_getElem? (i := 0) rfl)) all0)
  have O1 := pm7.keep Kq1 (allS pm6 all0)
  have pm0_h1 := pm0.keep Kq1
  have pm4_h1 := pm4.keep Kq1 (ninS pm5 nin0)
  have pm8_h1 := pm8.keep Kq1
  have ge_ea1 : n0 ≤ ea1 := Nat.le_trans Z0 o1_0
  have sz_ea1 : h0.size ≤ ea1 := Nat.le_trans K0.1 o1_0
  have ne_p0_ea1 : p0 ≠ ea1 := Nat.ne_of_lt (Nat.lt_of_lt_of_le pm0.lt o1_0)
  have ne_D_ea1 : D ≠ ea1 := Nat.ne_of_lt (Nat.lt_of_lt_of_le pm4.lt o1_0)
  have ne_p1_ea1 : p1 ≠ ea1 := Nat.ne_of_lt (Nat.lt_of_lt_of_le pm8.lt o1_0)
  refine own_by st1 ?_
  show own_Go _ _ _ _ _ _ _ (T1.setTop (mkF m 10 #[.val (.ref p0), .val (.ref p1), .val (.ref D), .val (.int (0 : Int32))] [(.ref ea1)]))
  refine own_by (fun _ kz => XS.astoreN X1.here hx rfl (hb hby d10_10) rfl rfl (l' := #[.val (.ref p0), .val (.ref p1), .val (.ref ea1), .val (.int (0 : Int32))]) rfl kz) ?_
  show own_Go _ _ _ _ _ _ _ (T1.setTop (mkF m 11 #[.val (.ref p0), .val (.ref p1), .val (.ref ea1), .val (.int (0 : Int32))] []))
  refine own_by (fun _ kz => XS.aloadN X1.here hx rfl (hb hby d10_11) rfl rfl kz) ?_
  refine own_by (fun _ kz => XS.iloadN X1.here hx rfl (hb hby d10_12) rfl kz) ?_
  refine own_by (fun _ kz => XS.aloadN X1.here hx rfl (hb hby d10_13) rfl rfl kz) ?_
  show own_Go _ _ _ _ _ _ _ (T1.setTop (mkF m 14 #[.val (.ref p0), .val (.ref p1), .val (.ref ea1), .val (.int (0 : Int32))] [(.ref p1), (.int (0 : Int32)), (.ref ea1)]))
  obtain ⟨T2, h2, X2, e2, W2, st2⟩ := own_stO X1 hx hZ rfl o1_5 o1_6 (Ins.of_exa pm8_h1 (ow hw 81 rfl)) (j := (0 : Int32)) ⟨by decide, by decide⟩ (g := (mkF m 14 #[.val (.ref p0), .val (.ref p1), .val (.ref ea1), .val (.int (0 : Int32))] [(.ref p1), (.int (0 : Int32)), (.ref ea1)])) rfl rfl (hb hby d10_14)
  have N2 := Fr.snoc X2 N1 ge_ea1
  have Z2 : n0 ≤ h2.size := by rw [W2.size]; exact Z1
  have K2 := K1.wr W2 (Or.inr sz_ea1)
  have O2 := O1.wr W2 ge_ea1
  have pm0_h2 := pm0_h1.wr W2
  have pm4_h2 := pm4_h1.other W2 ne_D_ea1
  have pm8_h2 := pm8_h1.wr W2
  have o1_1_h2 := o1_1.other W2 (Or.inl ne_p0_ea1)
  have o1_2_h2 := o1_2.other W2 (Or.inl ne_p0_ea1)
  have o1_3_h2 := o1_3.other W2 (Or.inl ne_p0_ea1)
  have o1_4_h2 := o1_4.wr W2
  have V2 : Arv Z h2 ea1 kA1 (.object "java/lang/Object") (10 : Int32) [(.ref p1), .null, .null, .null, .null, .null, .null, .null, .null, .null] .null := own_set o1_5 rfl W2 (i := 0) rfl (Nat.le_of_ble_eq_true rfl)
  refine own_by st2 ?_
  show own_Go _ _ _ _ _ _ _ (T2.setTop (mkF m 15 #[.val (.ref p0), .val (.ref p1), .val (.ref ea1), .val (.int (0 : Int32))] []))
  refine own_by (fun _ kz => XS.aloadN X2.here hx rfl (hb hby d10_15) rfl rfl kz) ?_
  refine own_by (fun _ kz => XS.iloadN X2.here hx rfl (hb hby d10_16) rfl kz) ?_
  refine own_by (fun _ kz => XS.iconst X2.here hx rfl (hb hby d10_17) kz) ?_
  show own_Go _ _ _ _ _ _ _ (T2.setTop (mkF m 18 #[.val (.ref p0), .val (.ref p1), .val (.ref ea1), .val (.int (0 : Int32))] [(.int (1 : Int32)), (.int (0 : Int32)), (.ref p0)]))
  refine own_by (fun _ kz => XS.iadd X2.here hx rfl (hb hby d10_18) rfl kz) ?_
  show own_Go _ _ _ _ _ _ _ (T2.setTop (mkF m 19 #[.val (.ref p0), .val (.ref p1), .val (.ref ea1), .val (.int (0 : Int32))] [(.int (1 : Int32)), (.ref p0)]))
  obtain ⟨T3, h3, X3, e3, W3, st3⟩ := putF X2 hx hZ hown (host := "") (Or.inl (ow hw 58 rfl)) Via.refl e2 o1_3_h2 pm0_h2 (Or.inl (ow hw 59 rfl)) (ow hw 7 rfl) (ty := .int) (by decide) rfl rfl (g := (mkF m 19 #[.val (.ref p0), .val (.ref p1), .val (.ref ea1), .val (.int (0 : Int32))] [(.int (1 : Int32)), (.ref p0)])) rfl rfl (hb hby d10_19)
  have N3 := Fr.snoc X3 N2 pm6
  have Z3 : n0 ≤ h3.size := by rw [W3.size]; exact Z2
  have K3 := K2.wr W3 (Or.inl (List.mem_of_getElem? (i := 0) rfl))
  have O3 := O2.wr W3 pm6
  have pm0_h3 := pm0_h2.wr W3
  have pm4_h3 := pm4_h2.other W3 pm5
  have pm8_h3 := pm8_h2.wr W3
  have o1_1_h3 := o1_1_h2.other W3 (Or.inr (slot_ne (Or.inl (ow hw 28 rfl)) (Or.inl (ow hw 59 rfl)) (by decide) (by decide : parseFieldDescriptor "I" = some .int) (by decide : parseFieldDescriptor "I" = some .int)))
  have o1_2_h3 := o1_2_h2.other W3 (Or.inr (slot_ne (Or.inl (ow hw 31 rfl)) (Or.inl (ow hw 59 rfl)) (by decide) (by decide : parseFieldDescriptor "[Ljava/lang/Object;" = some (.array (.object "java/lang/Object"))) (by decide : parseFieldDescriptor "I" = some .int)))
  have o1_3_h3 := o1_3_h2.same W3
  have o1_4_h3 := o1_4_h2.wr W3
  have V2_h3 := V2.other W3 (Ne.symm ne_p0_ea1)
  refine own_by st3 ?_
  show own_Go _ _ _ _ _ _ _ (T3.setTop (mkF m 22 #[.val (.ref p0), .val (.ref p1), .val (.ref ea1), .val (.int (0 : Int32))] []))
  exact own_retV X3 hx hlk Bd.returns (hb hby d10_22) (by decide) (by decide) ⟨ea1, kA1, rfl, N3, by rw [e3]; exact K3, sz_ea1, by rw [e3]; exact o1_1_h3, by rw [e3]; exact o1_2_h3, by rw [e3]; exact o1_3_h3, by rw [e3]; exact o1_4_h3, by rw [e3]; exact V2_h3, o1_6⟩
theorem d9_0 : decode jdk_38_method_25_code 0 = .ok (.aload_n 0, 1) := by decide +kernel
theorem d9_1 : decode jdk_38_method_25_code 1 = .ok (.dup, 1) := by decide +kernel
theorem d9_2 : decode jdk_38_method_25_code 2 = .ok (.getfield 63, 3) := by decide +kernel
theorem d9_5 : decode jdk_38_method_25_code 5 = .ok (.iconst 1, 1) := by decide +kernel
theorem d9_6 : decode jdk_38_method_25_code 6 = .ok (.iadd, 1) := by decide +kernel
theorem d9_7 : decode jdk_38_method_25_code 7 = .ok (.putfield 63, 3) := by decide +kernel
theorem d9_10 : decode jdk_38_method_25_code 10 = .ok (.aload_n 0, 1) := by decide +kernel
theorem d9_11 : decode jdk_38_method_25_code 11 = .ok (.aload_n 1, 1) := by decide +kernel
theorem d9_12 : decode jdk_38_method_25_code 12 = .ok (.aload_n 0, 1) := by decide +kernel
theorem d9_13 : decode jdk_38_method_25_code 13 = .ok (.getfield 9, 3) := by decide +kernel
theorem d9_16 : decode jdk_38_method_25_code 16 = .ok (.aload_n 0, 1) := by decide +kernel
theorem d9_17 : decode jdk_38_method_25_code 17 = .ok (.getfield 48, 3) := by decide +kernel
theorem d9_20 : decode jdk_38_method_25_code 20 = .ok (.invokevirtual 131, 3) := by decide +kernel
theorem d9_23 : decode jdk_38_method_25_code 23 = .ok (.iconst 1, 1) := by decide +kernel
theorem d9_24 : decode jdk_38_method_25_code 24 = .ok (.ireturn, 1) := by decide +kernel
theorem pf_9 : plainFor (⟨"java/util/ArrayList", "add", "(Ljava/lang/Object;)Z"⟩ : MethodName) = true := by first | exact plainFor_of_name (by first | (simp [plainName, overriddenIn]; done) | decide +kernel) | decide +kernel
theorem pd_9 : parseMethodDescriptor "(Ljava/lang/Object;)Z" = some ⟨[(.object "java/lang/Object")], some .boolean⟩ := by decide +kernel
theorem ef_9a (m : MethodId) (p0 : Addr) (p1 : Addr) : entryFrame m #[(.ref p0), (.ref p1)] 2 = mkF m 0 #[.val (.ref p0), .val (.ref p1)] [] := by first | (simp [entryFrame, mkF, argsToLocals, Value.category]; done) | rfl
def Q9a (Z : State) (p0 : Addr) (p1 : Addr) (D : Addr) (kD : ClassId) (h0 : Heap) (n0 : Nat) (v : Option Value) (h : Heap) (L : List Loc) : Prop := ∃ (ea : Addr) (kA : ClassId), v = some (.int (1 : Int32)) ∧ Fr n0 L ∧ Keep h0 h [p0] ∧ h0.size ≤ ea ∧ Fld Z h p0 "java/util/AbstractList" "modCount" "I" (.int (1 : Int32)) ∧ Fld Z h p0 "java/util/ArrayList" "elementData" "[Ljava/lang/Object;" (.ref ea) ∧ Fld Z h p0 "java/util/ArrayList" "size" "I" (.int (1 : Int32)) ∧ Exa Z h ea "[Ljava/lang/Object;" ∧ Arv Z h ea kA (.object "java/lang/Object") (10 : Int32) [(.ref p1), .null, .null, .null, .null, .null, .null, .null, .null, .null] .null ∧ Ovr Z kA "java/lang/Object"
theorem rm9a (l : Launch) (Z : State) (a0 : Array Value) (hw : ∀ d ∈ tables_1, d.before a0 Z = true) (ws : List Jvm.Cond) (p0 : Addr) (p1 : Addr) (h0 : Heap) (n0 : Nat) (Z0 : n0 ≤ h0.size) (D : Addr) (SD : Sta Z Z.heap "java/util/ArrayList" "DEFAULTCAPACITY_EMPTY_ELEMENTDATA" "[Ljava/lang/Object;" (.ref D)) (kD : ClassId) (pm0 : Exa Z h0 p0 "java/util/ArrayList") (pm1 : Fld Z h0 p0 "java/util/ArrayList" "elementData" "[Ljava/lang/Object;" (.ref D)) (pm2 : Fld Z h0 p0 "java/util/ArrayList" "size" "I" (.int (0 : Int32))) (pm3 : Arv Z h0 D kD (.object "java/lang/Object") (0 : Int32) [] .null) (pm4 : D ≠ p0) (pm5 : n0 ≤ p0) (pm6 : Old Z n0 h0) (pm7 : Fld Z h0 p0 "java/util/AbstractList" "modCount" "I" (.int (0 : Int32))) (pm8 : Exa Z h0 p1 "java/lang/Double") :
    own_Met l Z (⟨"java/util/ArrayList", "add", "(Ljava/lang/Object;)Z"⟩ : MethodName) jdk_38_method_25_code 2 (some .boolean) ws ({ frames := 4, cells := 1, slots := 10, locals := 56 } : Room) #[(.ref p0), (.ref p1)] h0 (Q9a Z p0 p1 D kD h0 n0) := by
  refine MetFree.of_bodySF pf_9 hisR ?_
  intro p e s m args below meth c s₁ Bd hml0 hP hK
  obtain ⟨rfl, hZ, hh⟩ := hP
  have hx := Bd.exec
  have hby := Bd.bytes
  have hlk : meth.locks = false := BodyLoose.notSynchronized Bd
  have hml : c.maxLocals = 2 := hml0
  have hown : s.vm.findClass "java/util/ArrayList" = some m.cls := findClass_of_methodNamed Bd.named
  have hnm := (name_of_methodNamed Bd.named Bd.method).1
  have X0 : Stand p l e ({ frames := 4, cells := 1, slots := 10, locals := 56 } : Room) s m #[(.ref p0), (.ref p1)] below meth c s₁ [] 0 0 := Stand.of_body Bd
  have e0 : s₁.heap = h0 := by rw [← hh, Bd.state]; rfl
  have N0 := Fr.nil n0
  have K0 := Keep.refl h0 [p0]
  show own_Go _ _ _ _ (Q9a Z p0 p1 D kD h0 n0) _ _ _
  refine own_by (fun _ k => castTop (ef_9a m p0 p1) k) ?_
  show own_Go _ _ _ _ _ _ _ (s₁.setTop (mkF m 0 #[.val (.ref p0), .val (.ref p1)] []))
  refine own_by (fun _ kz => XS.aloadN X0.here hx rfl (hb hby d9_0) rfl rfl kz) ?_
  refine own_by (fun _ kz => XS.dup X0.here hx rfl (hb hby d9_1) rfl rfl kz) ?_
  obtain ⟨T1, X1, e1, st1⟩ := getF X0 hx hZ hown (host := "") (Or.inl (ow hw 56 rfl)) (Via.of (ow hw 57 rfl)) e0 pm7 (g := (mkF m 2 #[.val (.ref p0), .val (.ref p1)] [(.ref p0), (.ref p0)])) rfl rfl (hb hby d9_2)
  refine own_by st1 ?_
  show own_Go _ _ _ _ _ _ _ (T1.setTop (mkF m 5 #[.val (.ref p0), .val (.ref p1)] [(.int (0 : Int32)), (.ref p0)]))
  refine own_by (fun _ kz => XS.iconst X1.here hx rfl (hb hby d9_5) kz) ?_
  show own_Go _ _ _ _ _ _ _ (T1.setTop (mkF m 6 #[.val (.ref p0), .val (.ref p1)] [(.int (1 : Int32)), (.int (0 : Int32)), (.ref p0)]))
  refine own_by (fun _ kz => XS.iadd X1.here hx rfl (hb hby d9_6) rfl kz) ?_
  show own_Go _ _ _ _ _ _ _ (T1.setTop (mkF m 7 #[.val (.ref p0), .val (.ref p1)] [(.int (1 : Int32)), (.ref p0)]))
  obtain ⟨T2, h2, X2, e2, W2, st2⟩ := putF X1 hx hZ hown (host := "") (Or.inl (ow hw 56 rfl)) (Via.of (ow hw 57 rfl)) e1 pm7 pm0 (Or.inl (ow hw 28 rfl)) (ow hw 7 rfl) (ty := .int) (by decide) rfl rfl (g := (mkF m 7 #[.val (.ref p0), .val (.ref p1)] [(.int (1 : Int32)), (.ref p0)])) rfl rfl (hb hby d9_7)
  have N2 := Fr.snoc X2 N0 pm5
  have Z2 : n0 ≤ h2.size := by rw [W2.size]; exact Z0
  have K2 := K0.wr W2 (Or.inl (List.mem_of_getElem? (i := 0) rfl))
  have O2 := pm6.wr W2 pm5
  have pm0_h2 := pm0.wr W2
  have pm1_h2 := pm1.other W2 (Or.inr (slot_ne (Or.inl (ow hw 31 rfl)) (Or.inl (ow hw 28 rfl)) (by decide) (by decide : parseFieldDescriptor "[Ljava/lang/Object;" = some (.array (.object "java/lang/Object"))) (by decide : parseFieldDescriptor "I" = some .int)))
  have pm2_h2 := pm2.other W2 (Or.inr (slot_ne (Or.inl (ow hw 59 rfl)) (Or.inl (ow hw 28 rfl)) (by decide) (by decide : parseFieldDescriptor "I" = some .int) (by decide : parseFieldDescriptor "I" = some .int)))
  have pm3_h2 := pm3.other W2 pm4
  have pm7_h2 := pm7.same W2
  have pm8_h2 := pm8.wr W2
  refine own_by st2 ?_
  show own_Go _ _ _ _ _ _ _ (T2.setTop (mkF m 10 #[.val (.ref p0), .val (.ref p1)] []))
  refine own_by (fun _ kz => XS.aloadN X2.here hx rfl (hb hby d9_10) rfl rfl kz) ?_
  refine own_by (fun _ kz => XS.aloadN X2.here hx rfl (hb hby d9_11) rfl rfl kz) ?_
  refine own_by (fun _ kz => XS.aloadN X2.here hx rfl (hb hby d9_12) rfl rfl kz) ?_
  obtain ⟨T3, X3, e3, st3⟩ := getF X2 hx hZ hown (host := "") (Or.inl (ow hw 30 rfl)) Via.refl e2 pm1_h2 (g := (mkF m 13 #[.val (.ref p0), .val (.ref p1)] [(.ref p0), (.ref p1), (.ref p0)])) rfl rfl (hb hby d9_13)
  refine own_by st3 ?_
  show own_Go _ _ _ _ _ _ _ (T3.setTop (mkF m 16 #[.val (.ref p0), .val (.ref p1)] [(.ref D), (.ref p1), (.ref p0)]))
  refine own_by (fun _ kz => XS.aloadN X3.here hx rfl (hb hby d9_16) rfl rfl kz) ?_
  obtain ⟨T4, X4, e4, st4⟩ := getF X3 hx hZ hown (host := "") (Or.inl (ow hw 58 rfl)) Via.refl e3 pm2_h2 (g := (mkF m 17 #[.val (.ref p0), .val (.ref p1)] [(.ref p0), (.ref D), (.ref p1), (.ref p0)])) rfl rfl (hb hby d9_17)
  refine own_by st4 ?_
  show own_Go _ _ _ _ _ _ _ (T4.setTop (mkF m 20 #[.val (.ref p0), .val (.ref p1)] [(.int (0 : Int32)), (.ref D), (.ref p1), (.ref p0)]))
  obtain ⟨v5, T5, L5, X5, q5, st5⟩ := own_callP X4 hx hZ hown (ow hw 60 rfl) (ow hw 61 rfl) (ow hw 62 rfl) (ow hw 63 rfl) rfl (ow hw 8 rfl) (ow hw 64 rfl) (by decide) (rm10a l Z a0 hw [] p0 p1 D h2 n0 Z2 D SD kD (1 : Int32) pm0_h2 pm7_h2 pm1_h2 pm2_h2 pm3_h2 pm4 pm5 O2 pm8_h2) (W := 0) (by decide) (by decide) e4 pm0_h2 (g := (mkF m 20 #[.val (.ref p0), .val (.ref p1)] [(.int (0 : Int32)), (.ref D), (.ref p1), (.ref p0)])) rfl (by rw [hml]; rfl) (argsL := [(.ref p1), (.ref D), (.int (0 : Int32))]) (rest := []) (lenOf pd_10 rfl) rfl rfl (by show 2 * 0 + _ ≤ _; exact Nat.le_of_eq rfl) (hb hby d9_20) (by decide) (by decide)
  obtain ⟨ea5, kA5, rfl, Nq5, Kq5, o5_0, o5_1, o5_2, o5_3, o5_4, o5_5, o5_6⟩ := q5
  have N5 := Fr.app N2 Nq5
  have Z5 : n0 ≤ T5.heap.size := Nat.le_trans Z2 Kq5.1
  have K5 := K2.trans Kq5 (allS (Or.inl (List.mem_of_getElem? (i := 0) rfl)) all0)
  have O5 := O2.keep Kq5 (allS pm5 all0)
  have pm0_h5 := pm0_h2.keep Kq5
  have pm3_h5 := pm3_h2.keep Kq5 (ninS pm4 nin0)
  have pm8_h5 := pm8_h2.keep Kq5
  have ge_ea5 : n0 ≤ ea5 := Nat.le_trans Z2 o5_0
  have sz_ea5 : h0.size ≤ ea5 := Nat.le_trans K2.1 o5_0
  have ne_p0_ea5 : p0 ≠ ea5 := Nat.ne_of_lt (Nat.lt_of_lt_of_le pm0_h2.lt o5_0)
  have ne_D_ea5 : D ≠ ea5 := Nat.ne_of_lt (Nat.lt_of_lt_of_le pm3_h2.lt o5_0)
  have ne_p1_ea5 : p1 ≠ ea5 := Nat.ne_of_lt (Nat.lt_of_lt_of_le pm8_h2.lt o5_0)
  refine own_by st5 ?_
  show own_Go _ _ _ _ _ _ _ (T5.setTop (mkF m 23 #[.val (.ref p0), .val (.ref p1)] []))
  refine own_by (fun _ kz => XS.iconst X5.here hx rfl (hb hby d9_23) kz) ?_
  show own_Go _ _ _ _ _ _ _ (T5.setTop (mkF m 24 #[.val (.ref p0), .val (.ref p1)] [(.int (1 : Int32))]))
  exact own_retZ X5 hx hlk Bd.returns (hb hby d9_24) (by decide) (by decide) ⟨ea5, kA5, rfl, N5, K5, sz_ea5, o5_1, o5_2, o5_3, o5_4, o5_5, o5_6⟩
theorem ef_10b (m : MethodId) (p0 : Addr) (p1 : Addr) (ea : Addr) : entryFrame m #[(.ref p0), (.ref p1), (.ref ea), (.int (1 : Int32))] 4 = mkF m 0 #[.val (.ref p0), .val (.ref p1), .val (.ref ea), .val (.int (1 : Int32))] [] := by first | (simp [entryFrame, mkF, argsToLocals, Value.category]; done) | rfl
def Q10b (Z : State) (p0 : Addr) (p1 : Addr) (ea : Addr) (mc : Int32) (kA : ClassId) (d1 : Addr) (h0 : Heap) (n0 : Nat) (v : Option Value) (h : Heap) (L : List Loc) : Prop := v = none ∧ Fr n0 L ∧ Keep h0 h [p0, ea] ∧ Fld Z h p0 "java/util/AbstractList" "modCount" "I" (.int mc) ∧ Fld Z h p0 "java/util/ArrayList" "elementData" "[Ljava/lang/Object;" (.ref ea) ∧ Fld Z h p0 "java/util/ArrayList" "size" "I" (.int (2 : Int32)) ∧ Exa Z h ea "[Ljava/lang/Object;" ∧ Arv Z h ea kA (.object "java/lang/Object") (10 : Int32) [(.ref d1), (.ref p1), .null, .null, .null, .null, .null, .null, .null, .null] .null ∧ Ovr Z kA "java/lang/Object"
theorem rm10b (l : Launch) (Z : State) (a0 : Array Value) (hw : ∀ d ∈ tables_1, d.before a0 Z = true) (ws : List Jvm.Cond) (p0 : Addr) (p1 : Addr) (ea : Addr) (h0 : Heap) (n0 : Nat) (Z0 : n0 ≤ h0.size) (mc : Int32) (kA : ClassId) (d1 : Addr) (pm0 : Exa Z h0 p0 "java/util/ArrayList") (pm1 : Fld Z h0 p0 "java/util/AbstractList" "modCount" "I" (.int mc)) (pm2 : Fld Z h0 p0 "java/util/ArrayList" "elementData" "[Ljava/lang/Object;" (.ref ea)) (pm3 : Fld Z h0 p0 "java/util/ArrayList" "size" "I" (.int (1 : Int32))) (pm4 : Exa Z h0 ea "[Ljava/lang/Object;") (pm5 : Arv Z h0 ea kA (.object "java/lang/Object") (10 : Int32) [(.ref d1), .null, .null, .null, .null, .null, .null, .null, .null, .null] .null) (pm6 : Ovr Z kA "java/lang/Object") (pm7 : p0 ≠ ea) (pm8 : n0 ≤ p0) (pm9 : n0 ≤ ea) (pm10 : Exa Z h0 p1 "java/lang/Double") :
    own_Met l Z (⟨"java/util/ArrayList", "add", "(Ljava/lang/Object;[Ljava/lang/Object;I)V"⟩ : MethodName) jdk_38_method_24_code 4 none ws ({ frames := 0, cells := 0, slots := 0, locals := 0 } : Room) #[(.ref p0), (.ref p1), (.ref ea), (.int (1 : Int32))] h0 (Q10b Z p0 p1 ea mc kA d1 h0 n0) := by
  refine MetFree.of_bodySF pf_10 hisR ?_
  intro p e s m args below meth c s₁ Bd hml0 hP hK
  obtain ⟨rfl, hZ, hh⟩ := hP
  have hx := Bd.exec
  have hby := Bd.bytes
  have hlk : meth.locks = false := BodyLoose.notSynchronized Bd
  have hml : c.maxLocals = 4 := hml0
  have hown : s.vm.findClass "java/util/ArrayList" = some m.cls := findClass_of_methodNamed Bd.named
  have hnm := (name_of_methodNamed Bd.named Bd.method).1
  have X0 : Stand p l e ({ frames := 0, cells := 0, slots := 0, locals := 0 } : Room) s m #[(.ref p0), (.ref p1), (.ref ea), (.int (1 : Int32))] below meth c s₁ [] 0 0 := Stand.of_body Bd
  have e0 : s₁.heap = h0 := by rw [← hh, Bd.state]; rfl
  have N0 := Fr.nil n0
  have K0 := Keep.refl h0 [p0, ea]
  show own_Go _ _ _ _ (Q10b Z p0 p1 ea mc kA d1 h0 n0) _ _ _
  refine own_by (fun _ k => castTop (ef_10b m p0 p1 ea) k) ?_
  show own_Go _ _ _ _ _ _ _ (s₁.setTop (mkF m 0 #[.val (.ref p0), .val (.ref p1), .val (.ref ea), .val (.int (1 : Int32))] []))
  refine own_by (fun _ kz => XS.iloadN X0.here hx rfl (hb hby d10_0) rfl kz) ?_
  refine own_by (fun _ kz => XS.aloadN X0.here hx rfl (hb hby d10_1) rfl rfl kz) ?_
  show own_Go _ _ _ _ _ _ _ (s₁.setTop (mkF m 2 #[.val (.ref p0), .val (.ref p1), .val (.ref ea), .val (.int (1 : Int32))] [(.ref ea), (.int (1 : Int32))]))
  refine own_by (fun _ kz => own_len X0 hx hZ e0 pm5 (g := (mkF m 2 #[.val (.ref p0), .val (.ref p1), .val (.ref ea), .val (.int (1 : Int32))] [(.ref ea), (.int (1 : Int32))])) rfl rfl (hb hby d10_2) _ kz) ?_
  show own_Go _ _ _ _ _ _ _ (s₁.setTop (mkF m 3 #[.val (.ref p0), .val (.ref p1), .val (.ref ea), .val (.int (1 : Int32))] [(.int (10 : Int32)), (.int (1 : Int32))]))
  refine own_by (fun _ kz => XS.icmpYes X0.here hx rfl (pc0 := 3) (pc' := 11) rfl (hb hby d10_3) rfl (feq (by decide : ¬ ((1 : Int32) = (10 : Int32)))).2 (by decide) (by decide) kz) ?_
  show own_Go _ _ _ _ _ _ _ (s₁.setTop (mkF m 11 #[.val (.ref p0), .val (.ref p1), .val (.ref ea), .val (.int (1 : Int32))] []))
  refine own_by (fun _ kz => XS.aloadN X0.here hx rfl (hb hby d10_11) rfl rfl kz) ?_
  refine own_by (fun _ kz => XS.iloadN X0.here hx rfl (hb hby d10_12) rfl kz) ?_
  refine own_by (fun _ kz => XS.aloadN X0.here hx rfl (hb hby d10_13) rfl rfl kz) ?_
  show own_Go _ _ _ _ _ _ _ (s₁.setTop (mkF m 14 #[.val (.ref p0), .val (.ref p1), .val (.ref ea), .val (.int (1 : Int32))] [(.ref p1), (.int (1 : Int32)), (.ref ea)]))
  obtain ⟨T1, h1, X1, e1, W1, st1⟩ := own_stO X0 hx hZ e0 pm5 pm6 (Ins.of_exa pm10 (ow hw 81 rfl)) (j := (1 : Int32)) ⟨by decide, by decide⟩ (g := (mkF m 14 #[.val (.ref p0), .val (.ref p1), .val (.ref ea), .val (.int (1 : Int32))] [(.ref p1), (.int (1 : Int32)), (.ref ea)])) rfl rfl (hb hby d10_14)
  have N1 := Fr.snoc X1 N0 pm9
  have Z1 : n0 ≤ h1.size := by rw [W1.size]; exact Z0
  have K1 := K0.wr W1 (Or.inl (List.mem_of_getElem? (i := 1) rfl))
  have pm0_h1 := pm0.wr W1
  have pm1_h1 := pm1.other W1 (Or.inl pm7)
  have pm2_h1 := pm2.other W1 (Or.inl pm7)
  have pm3_h1 := pm3.other W1 (Or.inl pm7)
  have pm4_h1 := pm4.wr W1
  have pm10_h1 := pm10.wr W1
  have V1 : Arv Z h1 ea kA (.object "java/lang/Object") (10 : Int32) [(.ref d1), (.ref p1), .null, .null, .null, .null, .null, .null, .null, .null] .null := own_set pm5 rfl W1 (i := 1) rfl (Nat.le_of_ble_eq_true rfl)
  refine own_by st1 ?_
  show own_Go _ _ _ _ _ _ _ (T1.setTop (mkF m 15 #[.val (.ref p0), .val (.ref p1), .val (.ref ea), .val (.int (1 : Int32))] []))
  refine own_by (fun _ kz => XS.aloadN X1.here hx rfl (hb hby d10_15) rfl rfl kz) ?_
  refine own_by (fun _ kz => XS.iloadN X1.here hx rfl (hb hby d10_16) rfl kz) ?_
  refine own_by (fun _ kz => XS.iconst X1.here hx rfl (hb hby d10_17) kz) ?_
  show own_Go _ _ _ _ _ _ _ (T1.setTop (mkF m 18 #[.val (.ref p0), .val (.ref p1), .val (.ref ea), .val (.int (1 : Int32))] [(.int (1 : Int32)), (.int (1 : Int32)), (.ref p0)]))
  refine own_by (fun _ kz => XS.iadd X1.here hx rfl (hb hby d10_18) rfl kz) ?_
  show own_Go _ _ _ _ _ _ _ (T1.setTop (mkF m 19 #[.val (.ref p0), .val (.ref p1), .val (.ref ea), .val (.int (1 : Int32))] [(.int (2 : Int32)), (.ref p0)]))
  obtain ⟨T2, h2, X2, e2, W2, st2⟩ := putF X1 hx hZ hown (host := "") (Or.inl (ow hw 58 rfl)) Via.refl e1 pm3_h1 pm0_h1 (Or.inl (ow hw 59 rfl)) (ow hw 7 rfl) (ty := .int) (by decide) rfl rfl (g := (mkF m 19 #[.val (.ref p0), .val (.ref p1), .val (.ref ea), .val (.int (1 : Int32))] [(.int (2 : Int32)), (.ref p0)])) rfl rfl (hb hby d10_19)
  have N2 := Fr.snoc X2 N1 pm8
  have Z2 : n0 ≤ h2.size := by rw [W2.size]; exact Z1
  have K2 := K1.wr W2 (Or.inl (List.mem_of_getElem? (i := 0) rfl))
  have pm0_h2 := pm0_h1.wr W2
  have pm1_h2 := pm1_h1.other W2 (Or.inr (slot_ne (Or.inl (ow hw 28 rfl)) (Or.inl (ow hw 59 rfl)) (by decide) (by decide : parseFieldDescriptor "I" = some .int) (by decide : parseFieldDescriptor "I" = some .int)))
  have pm2_h2 := pm2_h1.other W2 (Or.inr (slot_ne (Or.inl (ow hw 31 rfl)) (Or.inl (ow hw 59 rfl)) (by decide) (by decide : parseFieldDescriptor "[Ljava/lang/Object;" = some (.array (.object "java/lang/Object"))) (by decide : parseFieldDescriptor "I" = some .int)))
  have pm3_h2 := pm3_h1.same W2
  have pm4_h2 := pm4_h1.wr W2
  have V1_h2 := V1.other W2 (Ne.symm pm7)
  have pm10_h2 := pm10_h1.wr W2
  refine own_by st2 ?_
  show own_Go _ _ _ _ _ _ _ (T2.setTop (mkF m 22 #[.val (.ref p0), .val (.ref p1), .val (.ref ea), .val (.int (1 : Int32))] []))
  exact own_retV X2 hx hlk Bd.returns (hb hby d10_22) (by decide) (by decide) ⟨rfl, N2, by rw [e2]; exact K2, by rw [e2]; exact pm1_h2, by rw [e2]; exact pm2_h2, by rw [e2]; exact pm3_h2, by rw [e2]; exact pm4_h2, by rw [e2]; exact V1_h2, pm6⟩
theorem ef_9b (m : MethodId) (p0 : Addr) (p1 : Addr) : entryFrame m #[(.ref p0), (.ref p1)] 2 = mkF m 0 #[.val (.ref p0), .val (.ref p1)] [] := by first | (simp [entryFrame, mkF, argsToLocals, Value.category]; done) | rfl
def Q9b (Z : State) (p0 : Addr) (p1 : Addr) (kA : ClassId) (d1 : Addr) (ea : Addr) (h0 : Heap) (n0 : Nat) (v : Option Value) (h : Heap) (L : List Loc) : Prop := v = some (.int (1 : Int32)) ∧ Fr n0 L ∧ Keep h0 h [p0, ea] ∧ Fld Z h p0 "java/util/AbstractList" "modCount" "I" (.int (2 : Int32)) ∧ Fld Z h p0 "java/util/ArrayList" "elementData" "[Ljava/lang/Object;" (.ref ea) ∧ Fld Z h p0 "java/util/ArrayList" "size" "I" (.int (2 : Int32)) ∧ Exa Z h ea "[Ljava/lang/Object;" ∧ Arv Z h ea kA (.object "java/lang/Object") (10 : Int32) [(.ref d1), (.ref p1), .null, .null, .null, .null, .null, .null, .null, .null] .null ∧ Ovr Z kA "java/lang/Object"
theorem rm9b (l : Launch) (Z : State) (a0 : Array Value) (hw : ∀ d ∈ tables_1, d.before a0 Z = true) (ws : List Jvm.Cond) (p0 : Addr) (p1 : Addr) (h0 : Heap) (n0 : Nat) (Z0 : n0 ≤ h0.size) (kA : ClassId) (d1 : Addr) (ea : Addr) (pm0 : Exa Z h0 p0 "java/util/ArrayList") (pm1 : Fld Z h0 p0 "java/util/ArrayList" "elementData" "[Ljava/lang/Object;" (.ref ea)) (pm2 : Fld Z h0 p0 "java/util/ArrayList" "size" "I" (.int (1 : Int32))) (pm3 : Exa Z h0 ea "[Ljava/lang/Object;") (pm4 : Arv Z h0 ea kA (.object "java/lang/Object") (10 : Int32) [(.ref d1), .null, .null, .null, .null, .null, .null, .null, .null, .null] .null) (pm5 : Ovr Z kA "java/lang/Object") (pm6 : p0 ≠ ea) (pm7 : n0 ≤ p0) (pm8 : n0 ≤ ea) (pm9 : Fld Z h0 p0 "java/util/AbstractList" "modCount" "I" (.int (1 : Int32))) (pm10 : Exa Z h0 p1 "java/lang/Double") :
    own_Met l Z (⟨"java/util/ArrayList", "add", "(Ljava/lang/Object;)Z"⟩ : MethodName) jdk_38_method_25_code 2 (some .boolean) ws ({ frames := 1, cells := 0, slots := 0, locals := 15 } : Room) #[(.ref p0), (.ref p1)] h0 (Q9b Z p0 p1 kA d1 ea h0 n0) := by
  refine MetFree.of_bodySF pf_9 hisR ?_
  intro p e s m args below meth c s₁ Bd hml0 hP hK
  obtain ⟨rfl, hZ, hh⟩ := hP
  have hx := Bd.exec
  have hby := Bd.bytes
  have hlk : meth.locks = false := BodyLoose.notSynchronized Bd
  have hml : c.maxLocals = 2 := hml0
  have hown : s.vm.findClass "java/util/ArrayList" = some m.cls := findClass_of_methodNamed Bd.named
  have hnm := (name_of_methodNamed Bd.named Bd.method).1
  have X0 : Stand p l e ({ frames := 1, cells := 0, slots := 0, locals := 15 } : Room) s m #[(.ref p0), (.ref p1)] below meth c s₁ [] 0 0 := Stand.of_body Bd
  have e0 : s₁.heap = h0 := by rw [← hh, Bd.state]; rfl
  have N0 := Fr.nil n0
  have K0 := Keep.refl h0 [p0, ea]
  show own_Go _ _ _ _ (Q9b Z p0 p1 kA d1 ea h0 n0) _ _ _
  refine own_by (fun _ k => castTop (ef_9b m p0 p1) k) ?_
  show own_Go _ _ _ _ _ _ _ (s₁.setTop (mkF m 0 #[.val (.ref p0), .val (.ref p1)] []))
  refine own_by (fun _ kz => XS.aloadN X0.here hx rfl (hb hby d9_0) rfl rfl kz) ?_
  refine own_by (fun _ kz => XS.dup X0.here hx rfl (hb hby d9_1) rfl rfl kz) ?_
  obtain ⟨T1, X1, e1, st1⟩ := getF X0 hx hZ hown (host := "") (Or.inl (ow hw 56 rfl)) (Via.of (ow hw 57 rfl)) e0 pm9 (g := (mkF m 2 #[.val (.ref p0), .val (.ref p1)] [(.ref p0), (.ref p0)])) rfl rfl (hb hby d9_2)
  refine own_by st1 ?_
  show own_Go _ _ _ _ _ _ _ (T1.setTop (mkF m 5 #[.val (.ref p0), .val (.ref p1)] [(.int (1 : Int32)), (.ref p0)]))
  refine own_by (fun _ kz => XS.iconst X1.here hx rfl (hb hby d9_5) kz) ?_
  show own_Go _ _ _ _ _ _ _ (T1.setTop (mkF m 6 #[.val (.ref p0), .val (.ref p1)] [(.int (1 : Int32)), (.int (1 : Int32)), (.ref p0)]))
  refine own_by (fun _ kz => XS.iadd X1.here hx rfl (hb hby d9_6) rfl kz) ?_
  show own_Go _ _ _ _ _ _ _ (T1.setTop (mkF m 7 #[.val (.ref p0), .val (.ref p1)] [(.int (2 : Int32)), (.ref p0)]))
  obtain ⟨T2, h2, X2, e2, W2, st2⟩ := putF X1 hx hZ hown (host := "") (Or.inl (ow hw 56 rfl)) (Via.of (ow hw 57 rfl)) e1 pm9 pm0 (Or.inl (ow hw 28 rfl)) (ow hw 7 rfl) (ty := .int) (by decide) rfl rfl (g := (mkF m 7 #[.val (.ref p0), .val (.ref p1)] [(.int (2 : Int32)), (.ref p0)])) rfl rfl (hb hby d9_7)
  have N2 := Fr.snoc X2 N0 pm7
  have Z2 : n0 ≤ h2.size := by rw [W2.size]; exact Z0
  have K2 := K0.wr W2 (Or.inl (List.mem_of_getElem? (i := 0) rfl))
  have pm0_h2 := pm0.wr W2
  have pm1_h2 := pm1.other W2 (Or.inr (slot_ne (Or.inl (ow hw 31 rfl)) (Or.inl (ow hw 28 rfl)) (by decide) (by decide : parseFieldDescriptor "[Ljava/lang/Object;" = some (.array (.object "java/lang/Object"))) (by decide : parseFieldDescriptor "I" = some .int)))
  have pm2_h2 := pm2.other W2 (Or.inr (slot_ne (Or.inl (ow hw 59 rfl)) (Or.inl (ow hw 28 rfl)) (by decide) (by decide : parseFieldDescriptor "I" = some .int) (by decide : parseFieldDescriptor "I" = some .int)))
  have pm3_h2 := pm3.wr W2
  have pm4_h2 := pm4.other W2 (Ne.symm pm6)
  have pm9_h2 := pm9.same W2
  have pm10_h2 := pm10.wr W2
  refine own_by st2 ?_
  show own_Go _ _ _ _ _ _ _ (T2.setTop (mkF m 10 #[.val (.ref p0), .val (.ref p1)] []))
  refine own_by (fun _ kz => XS.aloadN X2.here hx rfl (hb hby d9_10) rfl rfl kz) ?_
  refine own_by (fun _ kz => XS.aloadN X2.here hx rfl (hb hby d9_11) rfl rfl kz) ?_
  refine own_by (fun _ kz => XS.aloadN X2.here hx rfl (hb hby d9_12) rfl rfl kz) ?_
  obtain ⟨T3, X3, e3, st3⟩ := getF X2 hx hZ hown (host := "") (Or.inl (ow hw 30 rfl)) Via.refl e2 pm1_h2 (g := (mkF m 13 #[.val (.ref p0), .val (.ref p1)] [(.ref p0), (.ref p1), (.ref p0)])) rfl rfl (hb hby d9_13)
  refine own_by st3 ?_
  show own_Go _ _ _ _ _ _ _ (T3.setTop (mkF m 16 #[.val (.ref p0), .val (.ref p1)] [(.ref ea), (.ref p1), (.ref p0)]))
  refine own_by (fun _ kz => XS.aloadN X3.here hx rfl (hb hby d9_16) rfl rfl kz) ?_
  obtain ⟨T4, X4, e4, st4⟩ := getF X3 hx hZ hown (host := "") (Or.inl (ow hw 58 rfl)) Via.refl e3 pm2_h2 (g := (mkF m 17 #[.val (.ref p0), .val (.ref p1)] [(.ref p0), (.ref ea), (.ref p1), (.ref p0)])) rfl rfl (hb hby d9_17)
  refine own_by st4 ?_
  show own_Go _ _ _ _ _ _ _ (T4.setTop (mkF m 20 #[.val (.ref p0), .val (.ref p1)] [(.int (1 : Int32)), (.ref ea), (.ref p1), (.ref p0)]))
  obtain ⟨v5, T5, L5, X5, q5, st5⟩ := own_callP X4 hx hZ hown (ow hw 60 rfl) (ow hw 61 rfl) (ow hw 62 rfl) (ow hw 63 rfl) rfl (ow hw 8 rfl) (ow hw 64 rfl) (by decide) (rm10b l Z a0 hw [] p0 p1 ea h2 n0 Z2 (2 : Int32) kA d1 pm0_h2 pm9_h2 pm1_h2 pm2_h2 pm3_h2 pm4_h2 pm5 pm6 pm7 pm8 pm10_h2) (W := 0) (by decide) (by decide) e4 pm0_h2 (g := (mkF m 20 #[.val (.ref p0), .val (.ref p1)] [(.int (1 : Int32)), (.ref ea), (.ref p1), (.ref p0)])) rfl (by rw [hml]; rfl) (argsL := [(.ref p1), (.ref ea), (.int (1 : Int32))]) (rest := []) (lenOf pd_10 rfl) rfl rfl (by show 2 * 0 + _ ≤ _; exact Nat.le_of_eq rfl) (hb hby d9_20) (by decide) (by decide)
  obtain ⟨rfl, Nq5, Kq5, o5_0, o5_1, o5_2, o5_3, o5_4, o5_5⟩ := q5
  have N5 := Fr.app N2 Nq5
  have Z5 : n0 ≤ T5.heap.size := Nat.le_trans Z2 Kq5.1
  have K5 := K2.trans Kq5 (allS (Or.inl (List.mem_of_getElem? (i := 0) rfl)) (allS (Or.inl (List.mem_of_getElem? (i := 1) rfl)) all0))
  have pm0_h5 := pm0_h2.keep Kq5
  have pm3_h5 := pm3_h2.keep Kq5
  have pm10_h5 := pm10_h2.keep Kq5
  refine own_by st5 ?_
  show own_Go _ _ _ _ _ _ _ (T5.setTop (mkF m 23 #[.val (.ref p0), .val (.ref p1)] []))
  refine own_by (fun _ kz => XS.iconst X5.here hx rfl (hb hby d9_23) kz) ?_
  show own_Go _ _ _ _ _ _ _ (T5.setTop (mkF m 24 #[.val (.ref p0), .val (.ref p1)] [(.int (1 : Int32))]))
  exact own_retZ X5 hx hlk Bd.returns (hb hby d9_24) (by decide) (by decide) ⟨rfl, N5, K5, o5_0, o5_1, o5_2, o5_3, o5_4, o5_5⟩
theorem ef_10c (m : MethodId) (p0 : Addr) (p1 : Addr) (ea : Addr) : entryFrame m #[(.ref p0), (.ref p1), (.ref ea), (.int (2 : Int32))] 4 = mkF m 0 #[.val (.ref p0), .val (.ref p1), .val (.ref ea), .val (.int (2 : Int32))] [] := by first | (simp [entryFrame, mkF, argsToLocals, Value.category]; done) | rfl
def Q10c (Z : State) (p0 : Addr) (p1 : Addr) (ea : Addr) (mc : Int32) (kA : ClassId) (d1 : Addr) (d2 : Addr) (h0 : Heap) (n0 : Nat) (v : Option Value) (h : Heap) (L : List Loc) : Prop := v = none ∧ Fr n0 L ∧ Keep h0 h [p0, ea] ∧ Fld Z h p0 "java/util/AbstractList" "modCount" "I" (.int mc) ∧ Fld Z h p0 "java/util/ArrayList" "elementData" "[Ljava/lang/Object;" (.ref ea) ∧ Fld Z h p0 "java/util/ArrayList" "size" "I" (.int (3 : Int32)) ∧ Exa Z h ea "[Ljava/lang/Object;" ∧ Arv Z h ea kA (.object "java/lang/Object") (10 : Int32) [(.ref d1), (.ref d2), (.ref p1), .null, .null, .null, .null, .null, .null, .null] .null ∧ Ovr Z kA "java/lang/Object"
theorem rm10c (l : Launch) (Z : State) (a0 : Array Value) (hw : ∀ d ∈ tables_1, d.before a0 Z = true) (ws : List Jvm.Cond) (p0 : Addr) (p1 : Addr) (ea : Addr) (h0 : Heap) (n0 : Nat) (Z0 : n0 ≤ h0.size) (mc : Int32) (kA : ClassId) (d1 : Addr) (d2 : Addr) (pm0 : Exa Z h0 p0 "java/util/ArrayList") (pm1 : Fld Z h0 p0 "java/util/AbstractList" "modCount" "I" (.int mc)) (pm2 : Fld Z h0 p0 "java/util/ArrayList" "elementData" "[Ljava/lang/Object;" (.ref ea)) (pm3 : Fld Z h0 p0 "java/util/ArrayList" "size" "I" (.int (2 : Int32))) (pm4 : Exa Z h0 ea "[Ljava/lang/Object;") (pm5 : Arv Z h0 ea kA (.object "java/lang/Object") (10 : Int32) [(.ref d1), (.ref d2), .null, .null, .null, .null, .null, .null, .null, .null] .null) (pm6 : Ovr Z kA "java/lang/Object") (pm7 : p0 ≠ ea) (pm8 : n0 ≤ p0) (pm9 : n0 ≤ ea) (pm10 : Exa Z h0 p1 "java/lang/Double") :
    own_Met l Z (⟨"java/util/ArrayList", "add", "(Ljava/lang/Object;[Ljava/lang/Object;I)V"⟩ : MethodName) jdk_38_method_24_code 4 none ws ({ frames := 0, cells := 0, slots := 0, locals := 0 } : Room) #[(.ref p0), (.ref p1), (.ref ea), (.int (2 : Int32))] h0 (Q10c Z p0 p1 ea mc kA d1 d2 h0 n0) := by
  refine MetFree.of_bodySF pf_10 hisR ?_
  intro p e s m args below meth c s₁ Bd hml0 hP hK
  obtain ⟨rfl, hZ, hh⟩ := hP
  have hx := Bd.exec
  have hby := Bd.bytes
  have hlk : meth.locks = false := BodyLoose.notSynchronized Bd
  have hml : c.maxLocals = 4 := hml0
  have hown : s.vm.findClass "java/util/ArrayList" = some m.cls := findClass_of_methodNamed Bd.named
  have hnm := (name_of_methodNamed Bd.named Bd.method).1
  have X0 : Stand p l e ({ frames := 0, cells := 0, slots := 0, locals := 0 } : Room) s m #[(.ref p0), (.ref p1), (.ref ea), (.int (2 : Int32))] below meth c s₁ [] 0 0 := Stand.of_body Bd
  have e0 : s₁.heap = h0 := by rw [← hh, Bd.state]; rfl
  have N0 := Fr.nil n0
  have K0 := Keep.refl h0 [p0, ea]
  show own_Go _ _ _ _ (Q10c Z p0 p1 ea mc kA d1 d2 h0 n0) _ _ _
  refine own_by (fun _ k => castTop (ef_10c m p0 p1 ea) k) ?_
  show own_Go _ _ _ _ _ _ _ (s₁.setTop (mkF m 0 #[.val (.ref p0), .val (.ref p1), .val (.ref ea), .val (.int (2 : Int32))] []))
  refine own_by (fun _ kz => XS.iloadN X0.here hx rfl (hb hby d10_0) rfl kz) ?_
  refine own_by (fun _ kz => XS.aloadN X0.here hx rfl (hb hby d10_1) rfl rfl kz) ?_
  show own_Go _ _ _ _ _ _ _ (s₁.setTop (mkF m 2 #[.val (.ref p0), .val (.ref p1), .val (.ref ea), .val (.int (2 : Int32))] [(.ref ea), (.int (2 : Int32))]))
  refine own_by (fun _ kz => own_len X0 hx hZ e0 pm5 (g := (mkF m 2 #[.val (.ref p0), .val (.ref p1), .val (.ref ea), .val (.int (2 : Int32))] [(.ref ea), (.int (2 : Int32))])) rfl rfl (hb hby d10_2) _ kz) ?_
  show own_Go _ _ _ _ _ _ _ (s₁.setTop (mkF m 3 #[.val (.ref p0), .val (.ref p1), .val (.ref ea), .val (.int (2 : Int32))] [(.int (10 : Int32)), (.int (2 : Int32))]))
  refine own_by (fun _ kz => XS.icmpYes X0.here hx rfl (pc0 := 3) (pc' := 11) rfl (hb hby d10_3) rfl (feq (by decide : ¬ ((2 : Int32) = (10 : Int32)))).2 (by decide) (by decide) kz) ?_
  show own_Go _ _ _ _ _ _ _ (s₁.setTop (mkF m 11 #[.val (.ref p0), .val (.ref p1), .val (.ref ea), .val (.int (2 : Int32))] []))
  refine own_by (fun _ kz => XS.aloadN X0.here hx rfl (hb hby d10_11) rfl rfl kz) ?_
  refine own_by (fun _ kz => XS.iloadN X0.here hx rfl (hb hby d10_12) rfl kz) ?_
  refine own_by (fun _ kz => XS.aloadN X0.here hx rfl (hb hby d10_13) rfl rfl kz) ?_
  show own_Go _ _ _ _ _ _ _ (s₁.setTop (mkF m 14 #[.val (.ref p0), .val (.ref p1), .val (.ref ea), .val (.int (2 : Int32))] [(.ref p1), (.int (2 : Int32)), (.ref ea)]))
  obtain ⟨T1, h1, X1, e1, W1, st1⟩ := own_stO X0 hx hZ e0 pm5 pm6 (Ins.of_exa pm10 (ow hw 81 rfl)) (j := (2 : Int32)) ⟨by decide, by decide⟩ (g := (mkF m 14 #[.val (.ref p0), .val (.ref p1), .val (.ref ea), .val (.int (2 : Int32))] [(.ref p1), (.int (2 : Int32)), (.ref ea)])) rfl rfl (hb hby d10_14)
  have N1 := Fr.snoc X1 N0 pm9
  have Z1 : n0 ≤ h1.size := by rw [W1.size]; exact Z0
  have K1 := K0.wr W1 (Or.inl (List.mem_of_getElem? (i := 1) rfl))
  have pm0_h1 := pm0.wr W1
  have pm1_h1 := pm1.other W1 (Or.inl pm7)
  have pm2_h1 := pm2.other W1 (Or.inl pm7)
  have pm3_h1 := pm3.other W1 (Or.inl pm7)
  have pm4_h1 := pm4.wr W1
  have pm10_h1 := pm10.wr W1
  have V1 : Arv Z h1 ea kA (.object "java/lang/Object") (10 : Int32) [(.ref d1), (.ref d2), (.ref p1), .null, .null, .null, .null, .null, .null, .null] .null := own_set pm5 rfl W1 (i := 2) rfl (Nat.le_of_ble_eq_true rfl)
  refine own_by st1 ?_
  show own_Go _ _ _ _ _ _ _ (T1.setTop (mkF m 15 #[.val (.ref p0), .val (.ref p1), .val (.ref ea), .val (.int (2 : Int32))] []))
  refine own_by (fun _ kz => XS.aloadN X1.here hx rfl (hb hby d10_15) rfl rfl kz) ?_
  refine own_by (fun _ kz => XS.iloadN X1.here hx rfl (hb hby d10_16) rfl kz) ?_
  refine own_by (fun _ kz => XS.iconst X1.here hx rfl (hb hby d10_17) kz) ?_
  show own_Go _ _ _ _ _ _ _ (T1.setTop (mkF m 18 #[.val (.ref p0), .val (.ref p1), .val (.ref ea), .val (.int (2 : Int32))] [(.int (1 : Int32)), (.int (2 : Int32)), (.ref p0)]))
  refine own_by (fun _ kz => XS.iadd X1.here hx rfl (hb hby d10_18) rfl kz) ?_
  show own_Go _ _ _ _ _ _ _ (T1.setTop (mkF m 19 #[.val (.ref p0), .val (.ref p1), .val (.ref ea), .val (.int (2 : Int32))] [(.int (3 : Int32)), (.ref p0)]))
  obtain ⟨T2, h2, X2, e2, W2, st2⟩ := putF X1 hx hZ hown (host := "") (Or.inl (ow hw 58 rfl)) Via.refl e1 pm3_h1 pm0_h1 (Or.inl (ow hw 59 rfl)) (ow hw 7 rfl) (ty := .int) (by decide) rfl rfl (g := (mkF m 19 #[.val (.ref p0), .val (.ref p1), .val (.ref ea), .val (.int (2 : Int32))] [(.int (3 : Int32)), (.ref p0)])) rfl rfl (hb hby d10_19)
  have N2 := Fr.snoc X2 N1 pm8
  have Z2 : n0 ≤ h2.size := by rw [W2.size]; exact Z1
  have K2 := K1.wr W2 (Or.inl (List.mem_of_getElem? (i := 0) rfl))
  have pm0_h2 := pm0_h1.wr W2
  have pm1_h2 := pm1_h1.other W2 (Or.inr (slot_ne (Or.inl (ow hw 28 rfl)) (Or.inl (ow hw 59 rfl)) (by decide) (by decide : parseFieldDescriptor "I" = some .int) (by decide : parseFieldDescriptor "I" = some .int)))
  have pm2_h2 := pm2_h1.other W2 (Or.inr (slot_ne (Or.inl (ow hw 31 rfl)) (Or.inl (ow hw 59 rfl)) (by decide) (by decide : parseFieldDescriptor "[Ljava/lang/Object;" = some (.array (.object "java/lang/Object"))) (by decide : parseFieldDescriptor "I" = some .int)))
  have pm3_h2 := pm3_h1.same W2
  have pm4_h2 := pm4_h1.wr W2
  have V1_h2 := V1.other W2 (Ne.symm pm7)
  have pm10_h2 := pm10_h1.wr W2
  refine own_by st2 ?_
  show own_Go _ _ _ _ _ _ _ (T2.setTop (mkF m 22 #[.val (.ref p0), .val (.ref p1), .val (.ref ea), .val (.int (2 : Int32))] []))
  exact own_retV X2 hx hlk Bd.returns (hb hby d10_22) (by decide) (by decide) ⟨rfl, N2, by rw [e2]; exact K2, by rw [e2]; exact pm1_h2, by rw [e2]; exact pm2_h2, by rw [e2]; exact pm3_h2, by rw [e2]; exact pm4_h2, by rw [e2]; exact V1_h2, pm6⟩
theorem ef_9c (m : MethodId) (p0 : Addr) (p1 : Addr) : entryFrame m #[(.ref p0), (.ref p1)] 2 = mkF m 0 #[.val (.ref p0), .val (.ref p1)] [] := by first | (simp [entryFrame, mkF, argsToLocals, Value.category]; done) | rfl
def Q9c (Z : State) (p0 : Addr) (p1 : Addr) (kA : ClassId) (d1 : Addr) (d2 : Addr) (ea : Addr) (h0 : Heap) (n0 : Nat) (v : Option Value) (h : Heap) (L : List Loc) : Prop := v = some (.int (1 : Int32)) ∧ Fr n0 L ∧ Keep h0 h [p0, ea] ∧ Fld Z h p0 "java/util/AbstractList" "modCount" "I" (.int (3 : Int32)) ∧ Fld Z h p0 "java/util/ArrayList" "elementData" "[Ljava/lang/Object;" (.ref ea) ∧ Fld Z h p0 "java/util/ArrayList" "size" "I" (.int (3 : Int32)) ∧ Exa Z h ea "[Ljava/lang/Object;" ∧ Arv Z h ea kA (.object "java/lang/Object") (10 : Int32) [(.ref d1), (.ref d2), (.ref p1), .null, .null, .null, .null, .null, .null, .null] .null ∧ Ovr Z kA "java/lang/Object"
theorem rm9c (l : Launch) (Z : State) (a0 : Array Value) (hw : ∀ d ∈ tables_1, d.before a0 Z = true) (ws : List Jvm.Cond) (p0 : Addr) (p1 : Addr) (h0 : Heap) (n0 : Nat) (Z0 : n0 ≤ h0.size) (kA : ClassId) (d1 : Addr) (d2 : Addr) (ea : Addr) (pm0 : Exa Z h0 p0 "java/util/ArrayList") (pm1 : Fld Z h0 p0 "java/util/ArrayList" "elementData" "[Ljava/lang/Object;" (.ref ea)) (pm2 : Fld Z h0 p0 "java/util/ArrayList" "size" "I" (.int (2 : Int32))) (pm3 : Exa Z h0 ea "[Ljava/lang/Object;") (pm4 : Arv Z h0 ea kA (.object "java/lang/Object") (10 : Int32) [(.ref d1), (.ref d2), .null, .null, .null, .null, .null, .null, .null, .null] .null) (pm5 : Ovr Z kA "java/lang/Object") (pm6 : p0 ≠ ea) (pm7 : n0 ≤ p0) (pm8 : n0 ≤ ea) (pm9 : Fld Z h0 p0 "java/util/AbstractList" "modCount" "I" (.int (2 : Int32))) (pm10 : Exa Z h0 p1 "java/lang/Double") :
    own_Met l Z (⟨"java/util/ArrayList", "add", "(Ljava/lang/Object;)Z"⟩ : MethodName) jdk_38_method_25_code 2 (some .boolean) ws ({ frames := 1, cells := 0, slots := 0, locals := 15 } : Room) #[(.ref p0), (.ref p1)] h0 (Q9c Z p0 p1 kA d1 d2 ea h0 n0) := by
  refine MetFree.of_bodySF pf_9 hisR ?_
  intro p e s m args below meth c s₁ Bd hml0 hP hK
  obtain ⟨rfl, hZ, hh⟩ := hP
  have hx := Bd.exec
  have hby := Bd.bytes
  have hlk : meth.locks = false := BodyLoose.notSynchronized Bd
  have hml : c.maxLocals = 2 := hml0
  have hown : s.vm.findClass "java/util/ArrayList" = some m.cls := findClass_of_methodNamed Bd.named
  have hnm := (name_of_methodNamed Bd.named Bd.method).1
  have X0 : Stand p l e ({ frames := 1, cells := 0, slots := 0, locals := 15 } : Room) s m #[(.ref p0), (.ref p1)] below meth c s₁ [] 0 0 := Stand.of_body Bd
  have e0 : s₁.heap = h0 := by rw [← hh, Bd.state]; rfl
  have N0 := Fr.nil n0
  have K0 := Keep.refl h0 [p0, ea]
  show own_Go _ _ _ _ (Q9c Z p0 p1 kA d1 d2 ea h0 n0) _ _ _
  refine own_by (fun _ k => castTop (ef_9c m p0 p1) k) ?_
  show own_Go _ _ _ _ _ _ _ (s₁.setTop (mkF m 0 #[.val (.ref p0), .val (.ref p1)] []))
  refine own_by (fun _ kz => XS.aloadN X0.here hx rfl (hb hby d9_0) rfl rfl kz) ?_
  refine own_by (fun _ kz => XS.dup X0.here hx rfl (hb hby d9_1) rfl rfl kz) ?_
  obtain ⟨T1, X1, e1, st1⟩ := getF X0 hx hZ hown (host := "") (Or.inl (ow hw 56 rfl)) (Via.of (ow hw 57 rfl)) e0 pm9 (g := (mkF m 2 #[.val (.ref p0), .val (.ref p1)] [(.ref p0), (.ref p0)])) rfl rfl (hb hby d9_2)
  refine own_by st1 ?_
  show own_Go _ _ _ _ _ _ _ (T1.setTop (mkF m 5 #[.val (.ref p0), .val (.ref p1)] [(.int (2 : Int32)), (.ref p0)]))
  refine own_by (fun _ kz => XS.iconst X1.here hx rfl (hb hby d9_5) kz) ?_
  show own_Go _ _ _ _ _ _ _ (T1.setTop (mkF m 6 #[.val (.ref p0), .val (.ref p1)] [(.int (1 : Int32)), (.int (2 : Int32)), (.ref p0)]))
  refine own_by (fun _ kz => XS.iadd X1.here hx rfl (hb hby d9_6) rfl kz) ?_
  show own_Go _ _ _ _ _ _ _ (T1.setTop (mkF m 7 #[.val (.ref p0), .val (.ref p1)] [(.int (3 : Int32)), (.ref p0)]))
  obtain ⟨T2, h2, X2, e2, W2, st2⟩ := putF X1 hx hZ hown (host := "") (Or.inl (ow hw 56 rfl)) (Via.of (ow hw 57 rfl)) e1 pm9 pm0 (Or.inl (ow hw 28 rfl)) (ow hw 7 rfl) (ty := .int) (by decide) rfl rfl (g := (mkF m 7 #[.val (.ref p0), .val (.ref p1)] [(.int (3 : Int32)), (.ref p0)])) rfl rfl (hb hby d9_7)
  have N2 := Fr.snoc X2 N0 pm7
  have Z2 : n0 ≤ h2.size := by rw [W2.size]; exact Z0
  have K2 := K0.wr W2 (Or.inl (List.mem_of_getElem? (i := 0) rfl))
  have pm0_h2 := pm0.wr W2
  have pm1_h2 := pm1.other W2 (Or.inr (slot_ne (Or.inl (ow hw 31 rfl)) (Or.inl (ow hw 28 rfl)) (by decide) (by decide : parseFieldDescriptor "[Ljava/lang/Object;" = some (.array (.object "java/lang/Object"))) (by decide : parseFieldDescriptor "I" = some .int)))
  have pm2_h2 := pm2.other W2 (Or.inr (slot_ne (Or.inl (ow hw 59 rfl)) (Or.inl (ow hw 28 rfl)) (by decide) (by decide : parseFieldDescriptor "I" = some .int) (by decide : parseFieldDescriptor "I" = some .int)))
  have pm3_h2 := pm3.wr W2
  have pm4_h2 := pm4.other W2 (Ne.symm pm6)
  have pm9_h2 := pm9.same W2
  have pm10_h2 := pm10.wr W2
  refine own_by st2 ?_
  show own_Go _ _ _ _ _ _ _ (T2.setTop (mkF m 10 #[.val (.ref p0), .val (.ref p1)] []))
  refine own_by (fun _ kz => XS.aloadN X2.here hx rfl (hb hby d9_10) rfl rfl kz) ?_
  refine own_by (fun _ kz => XS.aloadN X2.here hx rfl (hb hby d9_11) rfl rfl kz) ?_
  refine own_by (fun _ kz => XS.aloadN X2.here hx rfl (hb hby d9_12) rfl rfl kz) ?_
  obtain ⟨T3, X3, e3, st3⟩ := getF X2 hx hZ hown (host := "") (Or.inl (ow hw 30 rfl)) Via.refl e2 pm1_h2 (g := (mkF m 13 #[.val (.ref p0), .val (.ref p1)] [(.ref p0), (.ref p1), (.ref p0)])) rfl rfl (hb hby d9_13)
  refine own_by st3 ?_
  show own_Go _ _ _ _ _ _ _ (T3.setTop (mkF m 16 #[.val (.ref p0), .val (.ref p1)] [(.ref ea), (.ref p1), (.ref p0)]))
  refine own_by (fun _ kz => XS.aloadN X3.here hx rfl (hb hby d9_16) rfl rfl kz) ?_
  obtain ⟨T4, X4, e4, st4⟩ := getF X3 hx hZ hown (host := "") (Or.inl (ow hw 58 rfl)) Via.refl e3 pm2_h2 (g := (mkF m 17 #[.val (.ref p0), .val (.ref p1)] [(.ref p0), (.ref ea), (.ref p1), (.ref p0)])) rfl rfl (hb hby d9_17)
  refine own_by st4 ?_
  show own_Go _ _ _ _ _ _ _ (T4.setTop (mkF m 20 #[.val (.ref p0), .val (.ref p1)] [(.int (2 : Int32)), (.ref ea), (.ref p1), (.ref p0)]))
  obtain ⟨v5, T5, L5, X5, q5, st5⟩ := own_callP X4 hx hZ hown (ow hw 60 rfl) (ow hw 61 rfl) (ow hw 62 rfl) (ow hw 63 rfl) rfl (ow hw 8 rfl) (ow hw 64 rfl) (by decide) (rm10c l Z a0 hw [] p0 p1 ea h2 n0 Z2 (3 : Int32) kA d1 d2 pm0_h2 pm9_h2 pm1_h2 pm2_h2 pm3_h2 pm4_h2 pm5 pm6 pm7 pm8 pm10_h2) (W := 0) (by decide) (by decide) e4 pm0_h2 (g := (mkF m 20 #[.val (.ref p0), .val (.ref p1)] [(.int (2 : Int32)), (.ref ea), (.ref p1), (.ref p0)])) rfl (by rw [hml]; rfl) (argsL := [(.ref p1), (.ref ea), (.int (2 : Int32))]) (rest := []) (lenOf pd_10 rfl) rfl rfl (by show 2 * 0 + _ ≤ _; exact Nat.le_of_eq rfl) (hb hby d9_20) (by decide) (by decide)
  obtain ⟨rfl, Nq5, Kq5, o5_0, o5_1, o5_2, o5_3, o5_4, o5_5⟩ := q5
  have N5 := Fr.app N2 Nq5
  have Z5 : n0 ≤ T5.heap.size := Nat.le_trans Z2 Kq5.1
  have K5 := K2.trans Kq5 (allS (Or.inl (List.mem_of_getElem? (i := 0) rfl)) (allS (Or.inl (List.mem_of_getElem? (i := 1) rfl)) all0))
  have pm0_h5 := pm0_h2.keep Kq5
  have pm3_h5 := pm3_h2.keep Kq5
  have pm10_h5 := pm10_h2.keep Kq5
  refine own_by st5 ?_
  show own_Go _ _ _ _ _ _ _ (T5.setTop (mkF m 23 #[.val (.ref p0), .val (.ref p1)] []))
  refine own_by (fun _ kz => XS.iconst X5.here hx rfl (hb hby d9_23) kz) ?_
  show own_Go _ _ _ _ _ _ _ (T5.setTop (mkF m 24 #[.val (.ref p0), .val (.ref p1)] [(.int (1 : Int32))]))
  exact own_retZ X5 hx hlk Bd.returns (hb hby d9_24) (by decide) (by decide) ⟨rfl, N5, K5, o5_0, o5_1, o5_2, o5_3, o5_4, o5_5⟩
theorem d14_0 : decode prog_19_method_1_code 0 = .ok (.aload_n 0, 1) := by decide +kernel
theorem d14_1 : decode prog_19_method_1_code 1 = .ok (.invokespecial 1, 3) := by decide +kernel
theorem d14_4 : decode prog_19_method_1_code 4 = .ok (.aload_n 0, 1) := by decide +kernel
theorem d14_5 : decode prog_19_method_1_code 5 = .ok (.aload_n 1, 1) := by decide +kernel
theorem d14_6 : decode prog_19_method_1_code 6 = .ok (.putfield 7, 3) := by decide +kernel
theorem d14_9 : decode prog_19_method_1_code 9 = .ok (.aload_n 0, 1) := by decide +kernel
theorem d14_10 : decode prog_19_method_1_code 10 = .ok (.aload_n 2, 1) := by decide +kernel
theorem d14_11 : decode prog_19_method_1_code 11 = .ok (.putfield 13, 3) := by decide +kernel
theorem d14_14 : decode prog_19_method_1_code 14 = .ok (.return_, 1) := by decide +kernel
theorem pf_14 : plainFor (⟨"com/example/inferlink/inferlink/Link", "<init>", "(Ljava/lang/String;Ljava/lang/String;)V"⟩ : MethodName) = true := by first | exact plainFor_of_name (by first | (simp [plainName, overriddenIn]; done) | decide +kernel) | decide +kernel
theorem pd_14 : parseMethodDescriptor "(Ljava/lang/String;Ljava/lang/String;)V" = some ⟨[(.object "java/lang/String"), (.object "java/lang/String")], none⟩ := by decide +kernel
theorem ef_14 (m : MethodId) (p0 : Addr) (p1 : Addr) (p2 : Addr) : entryFrame m #[(.ref p0), (.ref p1), (.ref p2)] 3 = mkF m 0 #[.val (.ref p0), .val (.ref p1), .val (.ref p2)] [] := by first | (simp [entryFrame, mkF, argsToLocals, Value.category]; done) | rfl
def Q14 (Z : State) (p0 : Addr) (p1 : Addr) (p2 : Addr) (h0 : Heap) (n0 : Nat) (v : Option Value) (h : Heap) (L : List Loc) : Prop := v = none ∧ Fr n0 L ∧ Keep h0 h [p0]
theorem rm14 (l : Launch) (Z : State) (a0 : Array Value) (hw : ∀ d ∈ tables_1, d.before a0 Z = true) (ws : List Jvm.Cond) (p0 : Addr) (p1 : Addr) (p2 : Addr) (h0 : Heap) (n0 : Nat) (Z0 : n0 ≤ h0.size) (pm0 : Exa Z h0 p0 "com/example/inferlink/inferlink/Link") (pm1 : Fld Z h0 p0 "com/example/inferlink/inferlink/Link" "child" "Ljava/lang/String;" .null) (pm2 : Fld Z h0 p0 "com/example/inferlink/inferlink/Link" "parent" "Ljava/lang/String;" .null) (pm3 : n0 ≤ p0) :
    own_Met l Z (⟨"com/example/inferlink/inferlink/Link", "<init>", "(Ljava/lang/String;Ljava/lang/String;)V"⟩ : MethodName) prog_19_method_1_code 3 none ws ({ frames := 2, cells := 0, slots := 0, locals := 25 } : Room) #[(.ref p0), (.ref p1), (.ref p2)] h0 (Q14 Z p0 p1 p2 h0 n0) := by
  refine MetFree.of_bodySF pf_14 hisR ?_
  intro p e s m args below meth c s₁ Bd hml0 hP hK
  obtain ⟨rfl, hZ, hh⟩ := hP
  have hx := Bd.exec
  have hby := Bd.bytes
  have hlk : meth.locks = false := BodyLoose.notSynchronized Bd
  have hml : c.maxLocals = 3 := hml0
  have hown : s.vm.findClass "com/example/inferlink/inferlink/Link" = some m.cls := findClass_of_methodNamed Bd.named
  have hnm := (name_of_methodNamed Bd.named Bd.method).1
  have X0 : Stand p l e ({ frames := 2, cells := 0, slots := 0, locals := 25 } : Room) s m #[(.ref p0), (.ref p1), (.ref p2)] below meth c s₁ [] 0 0 := Stand.of_body Bd
  have e0 : s₁.heap = h0 := by rw [← hh, Bd.state]; rfl
  have N0 := Fr.nil n0
  have K0 := Keep.refl h0 [p0]
  show own_Go _ _ _ _ (Q14 Z p0 p1 p2 h0 n0) _ _ _
  refine own_by (fun _ k => castTop (ef_14 m p0 p1 p2) k) ?_
  show own_Go _ _ _ _ _ _ _ (s₁.setTop (mkF m 0 #[.val (.ref p0), .val (.ref p1), .val (.ref p2)] []))
  refine own_by (fun _ kz => XS.aloadN X0.here hx rfl (hb hby d14_0) rfl rfl kz) ?_
  show own_Go _ _ _ _ _ _ _ (s₁.setTop (mkF m 1 #[.val (.ref p0), .val (.ref p1), .val (.ref p2)] [(.ref p0)]))
  obtain ⟨v1, T1, L1, X1, q1, st1⟩ := own_callI X0 hx hZ rfl hown (ow hw 100 rfl) (ow hw 101 rfl) (ow hw 103 rfl) (ow hw 104 rfl) (by decide) (rm15 l Z a0 hw [] p0 h0 n0 Z0 ) (W := 0) (by decide) (by decide) e0 (g := (mkF m 1 #[.val (.ref p0), .val (.ref p1), .val (.ref p2)] [(.ref p0)])) rfl (by rw [hml]; rfl) (a := p0) (argsL := []) (rest := []) (lenOf pd_15 rfl) rfl rfl (by show 2 * 0 + _ ≤ _; exact Nat.le_of_eq rfl) (hb hby d14_1) (by decide) (by decide)
  obtain ⟨rfl, Nq1, hh1⟩ := q1
  have N1 := Fr.app N0 Nq1
  refine own_by st1 ?_
  show own_Go _ _ _ _ _ _ _ (T1.setTop (mkF m 4 #[.val (.ref p0), .val (.ref p1), .val (.ref p2)] []))
  refine own_by (fun _ kz => XS.aloadN X1.here hx rfl (hb hby d14_4) rfl rfl kz) ?_
  refine own_by (fun _ kz => XS.aloadN X1.here hx rfl (hb hby d14_5) rfl rfl kz) ?_
  obtain ⟨T2, h2, X2, e2, W2, st2⟩ := putF X1 hx hZ hown (host := "") (Or.inl (ow hw 106 rfl)) Via.refl hh1 pm1 pm0 (Or.inr ⟨ (ow hw 107 rfl), rfl, hnm⟩) (ow hw 86 rfl) (ty := (.object "java/lang/String")) (by decide) rfl rfl (g := (mkF m 6 #[.val (.ref p0), .val (.ref p1), .val (.ref p2)] [(.ref p1), (.ref p0)])) rfl rfl (hb hby d14_6)
  have N2 := Fr.snoc X2 N1 pm3
  have Z2 : n0 ≤ h2.size := by rw [W2.size]; exact Z0
  have K2 := K0.wr W2 (Or.inl (List.mem_of_getElem? (i := 0) rfl))
  have pm0_h2 := pm0.wr W2
  have pm1_h2 := pm1.same W2
  have pm2_h2 := pm2.other W2 (Or.inr (slot_ne (Or.inr (ow hw 109 rfl)) (Or.inr (ow hw 107 rfl)) (by decide) (by decide : parseFieldDescriptor "Ljava/lang/String;" = some (.object "java/lang/String")) (by decide : parseFieldDescriptor "Ljava/lang/String;" = some (.object "java/lang/String"))))
  refine own_by st2 ?_
  show own_Go _ _ _ _ _ _ _ (T2.setTop (mkF m 9 #[.val (.ref p0), .val (.ref p1), .val (.ref p2)] []))
  refine own_by (fun _ kz => XS.aloadN X2.here hx rfl (hb hby d14_9) rfl rfl kz) ?_
  refine own_by (fun _ kz => XS.aloadN X2.here hx rfl (hb hby d14_10) rfl rfl kz) ?_
  obtain ⟨T3, h3, X3, e3, W3, st3⟩ := putF X2 hx hZ hown (host := "") (Or.inl (ow hw 108 rfl)) Via.refl e2 pm2_h2 pm0_h2 (Or.inr ⟨ (ow hw 109 rfl), rfl, hnm⟩) (ow hw 86 rfl) (ty := (.object "java/lang/String")) (by decide) rfl rfl (g := (mkF m 11 #[.val (.ref p0), .val (.ref p1), .val (.ref p2)] [(.ref p2), (.ref p0)])) rfl rfl (hb hby d14_11)
  have N3 := Fr.snoc X3 N2 pm3
  have Z3 : n0 ≤ h3.size := by rw [W3.size]; exact Z2
  have K3 := K2.wr W3 (Or.inl (List.mem_of_getElem? (i := 0) rfl))
  have pm0_h3 := pm0_h2.wr W3
  have pm1_h3 := pm1_h2.other W3 (Or.inr (slot_ne (Or.inr (ow hw 107 rfl)) (Or.inr (ow hw 109 rfl)) (by decide) (by decide : parseFieldDescriptor "Ljava/lang/String;" = some (.object "java/lang/String")) (by decide : parseFieldDescriptor "Ljava/lang/String;" = some (.object "java/lang/String"))))
  have pm2_h3 := pm2_h2.same W3
  refine own_by st3 ?_
  show own_Go _ _ _ _ _ _ _ (T3.setTop (mkF m 14 #[.val (.ref p0), .val (.ref p1), .val (.ref p2)] []))
  exact own_retV X3 hx hlk Bd.returns (hb hby d14_14) (by decide) (by decide) ⟨rfl, N3, by rw [e3]; exact K3⟩
theorem d19_0 : decode prog_22_method_5_code 0 = .ok (.aload_n 0, 1) := by decide +kernel
theorem d19_1 : decode prog_22_method_5_code 1 = .ok (.getfield 51, 3) := by decide +kernel
theorem d19_4 : decode prog_22_method_5_code 4 = .ok (.ireturn, 1) := by decide +kernel
theorem pf_19 : plainFor (⟨"com/example/inferlink/inferlink/LinkStatus", "hasSuccess", "()Z"⟩ : MethodName) = true := by first | exact plainFor_of_name (by first | (simp [plainName, overriddenIn]; done) | decide +kernel) | decide +kernel
theorem pd_19 : parseMethodDescriptor "()Z" = some ⟨[], some .boolean⟩ := by decide +kernel
theorem ef_19 (m : MethodId) (p0 : Addr) : entryFrame m #[(.ref p0)] 1 = mkF m 0 #[.val (.ref p0)] [] := by first | (simp [entryFrame, mkF, argsToLocals, Value.category]; done) | rfl
def Q19 (Z : State) (p0 : Addr) (h0 : Heap) (n0 : Nat) (v : Option Value) (h : Heap) (L : List Loc) : Prop := v = some (.int (1 : Int32)) ∧ Fr n0 L ∧ h = h0
theorem rm19 (l : Launch) (Z : State) (a0 : Array Value) (hw : ∀ d ∈ tables_1, d.before a0 Z = true) (ws : List Jvm.Cond) (p0 : Addr) (h0 : Heap) (n0 : Nat) (Z0 : n0 ≤ h0.size) (pm0 : Fld Z h0 p0 "com/example/inferlink/inferlink/LinkStatus" "hasSuccess" "Z" (.int (1 : Int32))) :
    own_Met l Z (⟨"com/example/inferlink/inferlink/LinkStatus", "hasSuccess", "()Z"⟩ : MethodName) prog_22_method_5_code 1 (some .boolean) ws ({ frames := 0, cells := 0, slots := 0, locals := 0 } : Room) #[(.ref p0)] h0 (Q19 Z p0 h0 n0) := by
  refine MetFree.of_bodySF pf_19 hisR ?_
  intro p e s m args below meth c s₁ Bd hml0 hP hK
  obtain ⟨rfl, hZ, hh⟩ := hP
  have hx := Bd.exec
  have hby := Bd.bytes
  have hlk : meth.locks = false := BodyLoose.notSynchronized Bd
  have hml : c.maxLocals = 1 := hml0
  have hown : s.vm.findClass "com/example/inferlink/inferlink/LinkStatus" = some m.cls := findClass_of_methodNamed Bd.named
  have hnm := (name_of_methodNamed Bd.named Bd.method).1
  have X0 : Stand p l e ({ frames := 0, cells := 0, slots := 0, locals := 0 } : Room) s m #[(.ref p0)] below meth c s₁ [] 0 0 := Stand.of_body Bd
  have e0 : s₁.heap = h0 := by rw [← hh, Bd.state]; rfl
  have N0 := Fr.nil n0
  show own_Go _ _ _ _ (Q19 Z p0 h0 n0) _ _ _
  refine own_by (fun _ k => castTop (ef_19 m p0) k) ?_
  show own_Go _ _ _ _ _ _ _ (s₁.setTop (mkF m 0 #[.val (.ref p0)] []))
  refine own_by (fun _ kz => XS.aloadN X0.here hx rfl (hb hby d19_0) rfl rfl kz) ?_
  obtain ⟨T1, X1, e1, st1⟩ := getF X0 hx hZ hown (host := "") (Or.inl (ow hw 134 rfl)) Via.refl e0 pm0 (g := (mkF m 1 #[.val (.ref p0)] [(.ref p0)])) rfl rfl (hb hby d19_1)
  refine own_by st1 ?_
  show own_Go _ _ _ _ _ _ _ (T1.setTop (mkF m 4 #[.val (.ref p0)] [(.int (1 : Int32))]))
  exact own_retZ X1 hx hlk Bd.returns (hb hby d19_4) (by decide) (by decide) ⟨rfl, N0, e1⟩
theorem d16_0 : decode method_3_code 0 = .ok (.iload_n 0, 1) := by decide +kernel
theorem d16_1 : decode method_3_code 1 = .ok (.ifCond .ne 7, 3) := by decide +kernel
theorem d16_4 : decode method_3_code 4 = .ok (.getstatic 10, 3) := by decide +kernel
theorem d16_7 : decode method_3_code 7 = .ok (.areturn, 1) := by decide +kernel
theorem d16_8 : decode method_3_code 8 = .ok (.iload_n 0, 1) := by decide +kernel
theorem d16_9 : decode method_3_code 9 = .ok (.iconst 1, 1) := by decide +kernel
theorem d16_10 : decode method_3_code 10 = .ok (.if_icmp .ne 7, 3) := by decide +kernel
theorem d16_13 : decode method_3_code 13 = .ok (.getstatic 16, 3) := by decide +kernel
theorem d16_16 : decode method_3_code 16 = .ok (.areturn, 1) := by decide +kernel
theorem d16_17 : decode method_3_code 17 = .ok (.iload_n 0, 1) := by decide +kernel
theorem d16_18 : decode method_3_code 18 = .ok (.iconst 2, 1) := by decide +kernel
theorem d16_19 : decode method_3_code 19 = .ok (.if_icmp .ne 7, 3) := by decide +kernel
theorem d16_22 : decode method_3_code 22 = .ok (.getstatic 19, 3) := by decide +kernel
theorem d16_25 : decode method_3_code 25 = .ok (.areturn, 1) := by decide +kernel
theorem d16_26 : decode method_3_code 26 = .ok (.iload_n 0, 1) := by decide +kernel
theorem d16_27 : decode method_3_code 27 = .ok (.iconst 3, 1) := by decide +kernel
theorem d16_28 : decode method_3_code 28 = .ok (.if_icmp .ne 7, 3) := by decide +kernel
theorem d16_31 : decode method_3_code 31 = .ok (.getstatic 22, 3) := by decide +kernel
theorem d16_34 : decode method_3_code 34 = .ok (.areturn, 1) := by decide +kernel
theorem d16_35 : decode method_3_code 35 = .ok (.getstatic 25, 3) := by decide +kernel
theorem d16_38 : decode method_3_code 38 = .ok (.areturn, 1) := by decide +kernel
theorem pf_16 : plainFor (⟨"com/example/inferlink/inferlink/LinkDelayLostPinLaw", "status", "(I)Lcom/example/inferlink/inferlink/LinkStatus;"⟩ : MethodName) = true := by first | exact plainFor_of_name (by first | (simp [plainName, overriddenIn]; done) | decide +kernel) | decide +kernel
theorem pd_16 : parseMethodDescriptor "(I)Lcom/example/inferlink/inferlink/LinkStatus;" = some ⟨[.int], some (.object "com/example/inferlink/inferlink/LinkStatus")⟩ := by decide +kernel
theorem ef_16 (m : MethodId) (p0 : Int32) : entryFrame m #[(.int p0)] 1 = mkF m 0 #[.val (.int p0)] [] := by first | (simp [entryFrame, mkF, argsToLocals, Value.category]; done) | rfl
def Q16 (Z : State) (p0 : Int32) (sOK : Addr) (sNO_LOSS_SEEN : Addr) (sCOMPOSITE_WITH_PARENT : Addr) (sESTIMATE_ABOVE_ONE : Addr) (sNOT_CONVERGED : Addr) (h0 : Heap) (n0 : Nat) (v : Option Value) (h : Heap) (L : List Loc) : Prop := ∃ (r : Addr), v = some (.ref r) ∧ Fr n0 L ∧ h = h0 ∧ Exa Z h r "com/example/inferlink/inferlink/LinkStatus" ∧ Fld Z h r "com/example/inferlink/inferlink/LinkStatus" "hasSuccess" "Z" (.int (1 : Int32))
theorem rm16 (l : Launch) (Z : State) (a0 : Array Value) (hw : ∀ d ∈ tables_1, d.before a0 Z = true) (ws : List Jvm.Cond) (p0 : Int32) (h0 : Heap) (n0 : Nat) (Z0 : n0 ≤ h0.size) (sOK : Addr) (sNO_LOSS_SEEN : Addr) (sCOMPOSITE_WITH_PARENT : Addr) (sESTIMATE_ABOVE_ONE : Addr) (sNOT_CONVERGED : Addr) (pm0 : Exa Z h0 sOK "com/example/inferlink/inferlink/LinkStatus") (pm1 : Fld Z h0 sOK "com/example/inferlink/inferlink/LinkStatus" "hasSuccess" "Z" (.int (1 : Int32))) (pm2 : Sta Z h0 "com/example/inferlink/inferlink/LinkStatus" "OK" "Lcom/example/inferlink/inferlink/LinkStatus;" (.ref sOK)) (pm3 : Exa Z h0 sNO_LOSS_SEEN "com/example/inferlink/inferlink/LinkStatus") (pm4 : Fld Z h0 sNO_LOSS_SEEN "com/example/inferlink/inferlink/LinkStatus" "hasSuccess" "Z" (.int (1 : Int32))) (pm5 : Sta Z h0 "com/example/inferlink/inferlink/LinkStatus" "NO_LOSS_SEEN" "Lcom/example/inferlink/inferlink/LinkStatus;" (.ref sNO_LOSS_SEEN)) (pm6 : Exa Z h0 sCOMPOSITE_WITH_PARENT "com/example/inferlink/inferlink/LinkStatus") (pm7 : Fld Z h0 sCOMPOSITE_WITH_PARENT "com/example/inferlink/inferlink/LinkStatus" "hasSuccess" "Z" (.int (1 : Int32))) (pm8 : Sta Z h0 "com/example/inferlink/inferlink/LinkStatus" "COMPOSITE_WITH_PARENT" "Lcom/example/inferlink/inferlink/LinkStatus;" (.ref sCOMPOSITE_WITH_PARENT)) (pm9 : Exa Z h0 sESTIMATE_ABOVE_ONE "com/example/inferlink/inferlink/LinkStatus") (pm10 : Fld Z h0 sESTIMATE_ABOVE_ONE "com/example/inferlink/inferlink/LinkStatus" "hasSuccess" "Z" (.int (1 : Int32))) (pm11 : Sta Z h0 "com/example/inferlink/inferlink/LinkStatus" "ESTIMATE_ABOVE_ONE" "Lcom/example/inferlink/inferlink/LinkStatus;" (.ref sESTIMATE_ABOVE_ONE)) (pm12 : Exa Z h0 sNOT_CONVERGED "com/example/inferlink/inferlink/LinkStatus") (pm13 : Fld Z h0 sNOT_CONVERGED "com/example/inferlink/inferlink/LinkStatus" "hasSuccess" "Z" (.int (1 : Int32))) (pm14 : Sta Z h0 "com/example/inferlink/inferlink/LinkStatus" "NOT_CONVERGED" "Lcom/example/inferlink/inferlink/LinkStatus;" (.ref sNOT_CONVERGED)) :
    own_Met l Z (⟨"com/example/inferlink/inferlink/LinkDelayLostPinLaw", "status", "(I)Lcom/example/inferlink/inferlink/LinkStatus;"⟩ : MethodName) method_3_code 1 (some (.object "com/example/inferlink/inferlink/LinkStatus")) ws ({ frames := 0, cells := 0, slots := 0, locals := 0 } : Room) #[(.int p0)] h0 (Q16 Z p0 sOK sNO_LOSS_SEEN sCOMPOSITE_WITH_PARENT sESTIMATE_ABOVE_ONE sNOT_CONVERGED h0 n0) := by
  refine MetFree.of_bodySF pf_16 hisR ?_
  intro p e s m args below meth c s₁ Bd hml0 hP hK
  obtain ⟨rfl, hZ, hh⟩ := hP
  have hx := Bd.exec
  have hby := Bd.bytes
  have hlk : meth.locks = false := BodyLoose.notSynchronized Bd
  have hml : c.maxLocals = 1 := hml0
  have hown : s.vm.findClass "com/example/inferlink/inferlink/LinkDelayLostPinLaw" = some m.cls := findClass_of_methodNamed Bd.named
  have hnm := (name_of_methodNamed Bd.named Bd.method).1
  have X0 : Stand p l e ({ frames := 0, cells := 0, slots := 0, locals := 0 } : Room) s m #[(.int p0)] below meth c s₁ [] 0 0 := Stand.of_body Bd
  have e0 : s₁.heap = h0 := by rw [← hh, Bd.state]; rfl
  have N0 := Fr.nil n0
  show own_Go _ _ _ _ (Q16 Z p0 sOK sNO_LOSS_SEEN sCOMPOSITE_WITH_PARENT sESTIMATE_ABOVE_ONE sNOT_CONVERGED h0 n0) _ _ _
  refine own_by (fun _ k => castTop (ef_16 m p0) k) ?_
  show own_Go _ _ _ _ _ _ _ (s₁.setTop (mkF m 0 #[.val (.int p0)] []))
  refine own_by (fun _ kz => XS.iloadN X0.here hx rfl (hb hby d16_0) rfl kz) ?_
  show own_Go _ _ _ _ _ _ _ (s₁.setTop (mkF m 1 #[.val (.int p0)] [(.int p0)]))
  by_cases hc1_1 : p0 = (0 : Int32)
  · refine own_by (fun _ kz => XS.ifNo X0.here hx rfl (hb hby d16_1) rfl ((if0 _ _).trans (teq hc1_1).2) kz) ?_
    show own_Go _ _ _ _ _ _ _ (s₁.setTop (mkF m 4 #[.val (.int p0)] []))
    obtain ⟨T2, X2, e2, st2⟩ := getS2 X0 hx hZ hown (host := "") (Or.inl (ow hw 113 rfl)) Via.refl e0 pm2 (g := (mkF m 4 #[.val (.int p0)] [])) rfl (hb hby d16_4)
    refine own_by st2 ?_
    show own_Go _ _ _ _ _ _ _ (T2.setTop (mkF m 7 #[.val (.int p0)] [(.ref sOK)]))
    exact own_retA X2 hx hlk Bd.returns rfl (hb hby d16_7) (by decide) (by decide) ⟨sOK, rfl, N0, e2, by rw [e2]; exact pm0, by rw [e2]; exact pm1⟩
  · refine own_by (fun _ kz => XS.ifYes X0.here hx rfl (pc0 := 1) (pc' := 8) rfl (hb hby d16_1) rfl ((if0 _ _).trans (feq hc1_1).2) (by decide) (by decide) kz) ?_
    show own_Go _ _ _ _ _ _ _ (s₁.setTop (mkF m 8 #[.val (.int p0)] []))
    refine own_by (fun _ kz => XS.iloadN X0.here hx rfl (hb hby d16_8) rfl kz) ?_
    refine own_by (fun _ kz => XS.iconst X0.here hx rfl (hb hby d16_9) kz) ?_
    show own_Go _ _ _ _ _ _ _ (s₁.setTop (mkF m 10 #[.val (.int p0)] [(.int (1 : Int32)), (.int p0)]))
    by_cases hc10_3 : p0 = (1 : Int32)
    · refine own_by (fun _ kz => XS.icmpNo X0.here hx rfl (hb hby d16_10) rfl (teq hc10_3).2 kz) ?_
      show own_Go _ _ _ _ _ _ _ (s₁.setTop (mkF m 13 #[.val (.int p0)] []))
      obtain ⟨T4, X4, e4, st4⟩ := getS2 X0 hx hZ hown (host := "") (Or.inl (ow hw 306 rfl)) Via.refl e0 pm5 (g := (mkF m 13 #[.val (.int p0)] [])) rfl (hb hby d16_13)
      refine own_by st4 ?_
      show own_Go _ _ _ _ _ _ _ (T4.setTop (mkF m 16 #[.val (.int p0)] [(.ref sNO_LOSS_SEEN)]))
      exact own_retA X4 hx hlk Bd.returns rfl (hb hby d16_16) (by decide) (by decide) ⟨sNO_LOSS_SEEN, rfl, N0, e4, by rw [e4]; exact pm3, by rw [e4]; exact pm4⟩
    · refine own_by (fun _ kz => XS.icmpYes X0.here hx rfl (pc0 := 10) (pc' := 17) rfl (hb hby d16_10) rfl (feq hc10_3).2 (by decide) (by decide) kz) ?_
      show own_Go _ _ _ _ _ _ _ (s₁.setTop (mkF m 17 #[.val (.int p0)] []))
      refine own_by (fun _ kz => XS.iloadN X0.here hx rfl (hb hby d16_17) rfl kz) ?_
      refine own_by (fun _ kz => XS.iconst X0.here hx rfl (hb hby d16_18) kz) ?_
      show own_Go _ _ _ _ _ _ _ (s₁.setTop (mkF m 19 #[.val (.int p0)] [(.int (2 : Int32)), (.int p0)]))
      by_cases hc19_5 : p0 = (2 : Int32)
      · refine own_by (fun _ kz => XS.icmpNo X0.here hx rfl (hb hby d16_19) rfl (teq hc19_5).2 kz) ?_
        show own_Go _ _ _ _ _ _ _ (s₁.setTop (mkF m 22 #[.val (.int p0)] []))
        obtain ⟨T6, X6, e6, st6⟩ := getS2 X0 hx hZ hown (host := "") (Or.inl (ow hw 350 rfl)) Via.refl e0 pm8 (g := (mkF m 22 #[.val (.int p0)] [])) rfl (hb hby d16_22)
        refine own_by st6 ?_
        show own_Go _ _ _ _ _ _ _ (T6.setTop (mkF m 25 #[.val (.int p0)] [(.ref sCOMPOSITE_WITH_PARENT)]))
        exact own_retA X6 hx hlk Bd.returns rfl (hb hby d16_25) (by decide) (by decide) ⟨sCOMPOSITE_WITH_PARENT, rfl, N0, e6, by rw [e6]; exact pm6, by rw [e6]; exact pm7⟩
      · refine own_by (fun _ kz => XS.icmpYes X0.here hx rfl (pc0 := 19) (pc' := 26) rfl (hb hby d16_19) rfl (feq hc19_5).2 (by decide) (by decide) kz) ?_
        show own_Go _ _ _ _ _ _ _ (s₁.setTop (mkF m 26 #[.val (.int p0)] []))
        refine own_by (fun _ kz => XS.iloadN X0.here hx rfl (hb hby d16_26) rfl kz) ?_
        refine own_by (fun _ kz => XS.iconst X0.here hx rfl (hb hby d16_27) kz) ?_
        show own_Go _ _ _ _ _ _ _ (s₁.setTop (mkF m 28 #[.val (.int p0)] [(.int (3 : Int32)), (.int p0)]))
        by_cases hc28_7 : p0 = (3 : Int32)
        · refine own_by (fun _ kz => XS.icmpNo X0.here hx rfl (hb hby d16_28) rfl (teq hc28_7).2 kz) ?_
          show own_Go _ _ _ _ _ _ _ (s₁.setTop (mkF m 31 #[.val (.int p0)] []))
          obtain ⟨T8, X8, e8, st8⟩ := getS2 X0 hx hZ hown (host := "") (Or.inl (ow hw 346 rfl)) Via.refl e0 pm11 (g := (mkF m 31 #[.val (.int p0)] [])) rfl (hb hby d16_31)
          refine own_by st8 ?_
          show own_Go _ _ _ _ _ _ _ (T8.setTop (mkF m 34 #[.val (.int p0)] [(.ref sESTIMATE_ABOVE_ONE)]))
          exact own_retA X8 hx hlk Bd.returns rfl (hb hby d16_34) (by decide) (by decide) ⟨sESTIMATE_ABOVE_ONE, rfl, N0, e8, by rw [e8]; exact pm9, by rw [e8]; exact pm10⟩
        · refine own_by (fun _ kz => XS.icmpYes X0.here hx rfl (pc0 := 28) (pc' := 35) rfl (hb hby d16_28) rfl (feq hc28_7).2 (by decide) (by decide) kz) ?_
          show own_Go _ _ _ _ _ _ _ (s₁.setTop (mkF m 35 #[.val (.int p0)] []))
          obtain ⟨T9, X9, e9, st9⟩ := getS2 X0 hx hZ hown (host := "") (Or.inl (ow hw 348 rfl)) Via.refl e0 pm14 (g := (mkF m 35 #[.val (.int p0)] [])) rfl (hb hby d16_35)
          refine own_by st9 ?_
          show own_Go _ _ _ _ _ _ _ (T9.setTop (mkF m 38 #[.val (.int p0)] [(.ref sNOT_CONVERGED)]))
          exact own_retA X9 hx hlk Bd.returns rfl (hb hby d16_38) (by decide) (by decide) ⟨sNOT_CONVERGED, rfl, N0, e9, by rw [e9]; exact pm12, by rw [e9]; exact pm13⟩
theorem d18_0 : decode jdk_38_method_9_code 0 = .ok (.aload_n 0, 1) := by decide +kernel
theorem d18_1 : decode jdk_38_method_9_code 1 = .ok (.getfield 48, 3) := by decide +kernel
theorem d18_4 : decode jdk_38_method_9_code 4 = .ok (.ifCond .ne 7, 3) := by decide +kernel
theorem d18_11 : decode jdk_38_method_9_code 11 = .ok (.iconst 0, 1) := by decide +kernel
theorem d18_12 : decode jdk_38_method_9_code 12 = .ok (.ireturn, 1) := by decide +kernel
theorem pf_18 : plainFor (⟨"java/util/ArrayList", "isEmpty", "()Z"⟩ : MethodName) = true := by first | exact plainFor_of_name (by first | (simp [plainName, overriddenIn]; done) | decide +kernel) | decide +kernel
theorem pd_18 : parseMethodDescriptor "()Z" = some ⟨[], some .boolean⟩ := by decide +kernel
theorem ef_18 (m : MethodId) (p0 : Addr) : entryFrame m #[(.ref p0)] 1 = mkF m 0 #[.val (.ref p0)] [] := by first | (simp [entryFrame, mkF, argsToLocals, Value.category]; done) | rfl
def Q18 (Z : State) (p0 : Addr) (zz : Int32) (h0 : Heap) (n0 : Nat) (v : Option Value) (h : Heap) (L : List Loc) : Prop := v = some (.int (0 : Int32)) ∧ Fr n0 L ∧ h = h0
theorem rm18 (l : Launch) (Z : State) (a0 : Array Value) (hw : ∀ d ∈ tables_1, d.before a0 Z = true) (ws : List Jvm.Cond) (p0 : Addr) (h0 : Heap) (n0 : Nat) (Z0 : n0 ≤ h0.size) (zz : Int32) (pm0 : Fld Z h0 p0 "java/util/ArrayList" "size" "I" (.int zz)) (pm1 : ¬ zz = (0 : Int32)) :
    own_Met l Z (⟨"java/util/ArrayList", "isEmpty", "()Z"⟩ : MethodName) jdk_38_method_9_code 1 (some .boolean) ws ({ frames := 0, cells := 0, slots := 0, locals := 0 } : Room) #[(.ref p0)] h0 (Q18 Z p0 zz h0 n0) := by
  refine MetFree.of_bodySF pf_18 hisR ?_
  intro p e s m args below meth c s₁ Bd hml0 hP hK
  obtain ⟨rfl, hZ, hh⟩ := hP
  have hx := Bd.exec
  have hby := Bd.bytes
  have hlk : meth.locks = false := BodyLoose.notSynchronized Bd
  have hml : c.maxLocals = 1 := hml0
  have hown : s.vm.findClass "java/util/ArrayList" = some m.cls := findClass_of_methodNamed Bd.named
  have hnm := (name_of_methodNamed Bd.named Bd.method).1
  have X0 : Stand p l e ({ frames := 0, cells := 0, slots := 0, locals := 0 } : Room) s m #[(.ref p0)] below meth c s₁ [] 0 0 := Stand.of_body Bd
  have e0 : s₁.heap = h0 := by rw [← hh, Bd.state]; rfl
  have N0 := Fr.nil n0
  show own_Go _ _ _ _ (Q18 Z p0 zz h0 n0) _ _ _
  refine own_by (fun _ k => castTop (ef_18 m p0) k) ?_
  show own_Go _ _ _ _ _ _ _ (s₁.setTop (mkF m 0 #[.val (.ref p0)] []))
  refine own_by (fun _ kz => XS.aloadN X0.here hx rfl (hb hby d18_0) rfl rfl kz) ?_
  obtain ⟨T1, X1, e1, st1⟩ := getF X0 hx hZ hown (host := "") (Or.inl (ow hw 58 rfl)) Via.refl e0 pm0 (g := (mkF m 1 #[.val (.ref p0)] [(.ref p0)])) rfl rfl (hb hby d18_1)
  refine own_by st1 ?_
  show own_Go _ _ _ _ _ _ _ (T1.setTop (mkF m 4 #[.val (.ref p0)] [(.int zz)]))
  refine own_by (fun _ kz => XS.ifYes X1.here hx rfl (pc0 := 4) (pc' := 11) rfl (hb hby d18_4) rfl ((if0 _ _).trans (feq pm1).2) (by decide) (by decide) kz) ?_
  show own_Go _ _ _ _ _ _ _ (T1.setTop (mkF m 11 #[.val (.ref p0)] []))
  refine own_by (fun _ kz => XS.iconst X1.here hx rfl (hb hby d18_11) kz) ?_
  show own_Go _ _ _ _ _ _ _ (T1.setTop (mkF m 12 #[.val (.ref p0)] [(.int (0 : Int32))]))
  exact own_retZ X1 hx hlk Bd.returns (hb hby d18_12) (by decide) (by decide) ⟨rfl, N0, e1⟩
theorem d21_0 : decode jdk_49_method_1_code 0 = .ok (.aload_n 0, 1) := by decide +kernel
theorem d21_1 : decode jdk_49_method_1_code 1 = .ok (.aload_n 1, 1) := by decide +kernel
theorem d21_2 : decode jdk_49_method_1_code 2 = .ok (.putfield 1, 3) := by decide +kernel
theorem d21_5 : decode jdk_49_method_1_code 5 = .ok (.aload_n 0, 1) := by decide +kernel
theorem d21_6 : decode jdk_49_method_1_code 6 = .ok (.invokespecial 7, 3) := by decide +kernel
theorem d21_9 : decode jdk_49_method_1_code 9 = .ok (.aload_n 0, 1) := by decide +kernel
theorem d21_10 : decode jdk_49_method_1_code 10 = .ok (.iconst (-1), 1) := by decide +kernel
theorem d21_11 : decode jdk_49_method_1_code 11 = .ok (.putfield 13, 3) := by decide +kernel
theorem d21_14 : decode jdk_49_method_1_code 14 = .ok (.aload_n 0, 1) := by decide +kernel
theorem d21_15 : decode jdk_49_method_1_code 15 = .ok (.aload_n 0, 1) := by decide +kernel
theorem d21_16 : decode jdk_49_method_1_code 16 = .ok (.getfield 1, 3) := by decide +kernel
theorem d21_19 : decode jdk_49_method_1_code 19 = .ok (.getfield 17, 3) := by decide +kernel
theorem d21_22 : decode jdk_49_method_1_code 22 = .ok (.putfield 22, 3) := by decide +kernel
theorem d21_25 : decode jdk_49_method_1_code 25 = .ok (.return_, 1) := by decide +kernel
theorem pf_21 : plainFor (⟨"java/util/ArrayList$Itr", "<init>", "(Ljava/util/ArrayList;)V"⟩ : MethodName) = true := by first | exact plainFor_of_name (by first | (simp [plainName, overriddenIn]; done) | decide +kernel) | decide +kernel
theorem pd_21 : parseMethodDescriptor "(Ljava/util/ArrayList;)V" = some ⟨[(.object "java/util/ArrayList")], none⟩ := by decide +kernel
theorem ef_21 (m : MethodId) (p0 : Addr) (p1 : Addr) : entryFrame m #[(.ref p0), (.ref p1)] 2 = mkF m 0 #[.val (.ref p0), .val (.ref p1)] [] := by first | (simp [entryFrame, mkF, argsToLocals, Value.category]; done) | rfl
def Q21 (Z : State) (p0 : Addr) (p1 : Addr) (mc : Int32) (h0 : Heap) (n0 : Nat) (v : Option Value) (h : Heap) (L : List Loc) : Prop := v = none ∧ Fr n0 L ∧ Keep h0 h [p0] ∧ Fld Z h p0 "java/util/ArrayList$Itr" "this$0" "Ljava/util/ArrayList;" (.ref p1) ∧ Fld Z h p0 "java/util/ArrayList$Itr" "cursor" "I" (.int (0 : Int32)) ∧ Fld Z h p0 "java/util/ArrayList$Itr" "lastRet" "I" (.int (-1 : Int32)) ∧ Fld Z h p0 "java/util/ArrayList$Itr" "expectedModCount" "I" (.int mc)
theorem rm21 (l : Launch) (Z : State) (a0 : Array Value) (hw : ∀ d ∈ tables_1, d.before a0 Z = true) (ws : List Jvm.Cond) (p0 : Addr) (p1 : Addr) (h0 : Heap) (n0 : Nat) (Z0 : n0 ≤ h0.size) (mc : Int32) (pm0 : Exa Z h0 p0 "java/util/ArrayList$Itr") (pm1 : Fld Z h0 p0 "java/util/ArrayList$Itr" "this$0" "Ljava/util/ArrayList;" .null) (pm2 : Fld Z h0 p0 "java/util/ArrayList$Itr" "cursor" "I" (.int (0 : Int32))) (pm3 : Fld Z h0 p0 "java/util/ArrayList$Itr" "lastRet" "I" (.int (0 : Int32))) (pm4 : Fld Z h0 p0 "java/util/ArrayList$Itr" "expectedModCount" "I" (.int (0 : Int32))) (pm5 : Fld Z h0 p1 "java/util/AbstractList" "modCount" "I" (.int mc)) (pm6 : p1 ≠ p0) (pm7 : n0 ≤ p0) :
    own_Met l Z (⟨"java/util/ArrayList$Itr", "<init>", "(Ljava/util/ArrayList;)V"⟩ : MethodName) jdk_49_method_1_code 2 none ws ({ frames := 1, cells := 0, slots := 0, locals := 13 } : Room) #[(.ref p0), (.ref p1)] h0 (Q21 Z p0 p1 mc h0 n0) := by
  refine MetFree.of_bodySF pf_21 hisR ?_
  intro p e s m args below meth c s₁ Bd hml0 hP hK
  obtain ⟨rfl, hZ, hh⟩ := hP
  have hx := Bd.exec
  have hby := Bd.bytes
  have hlk : meth.locks = false := BodyLoose.notSynchronized Bd
  have hml : c.maxLocals = 2 := hml0
  have hown : s.vm.findClass "java/util/ArrayList$Itr" = some m.cls := findClass_of_methodNamed Bd.named
  have hnm := (name_of_methodNamed Bd.named Bd.method).1
  have X0 : Stand p l e ({ frames := 1, cells := 0, slots := 0, locals := 13 } : Room) s m #[(.ref p0), (.ref p1)] below meth c s₁ [] 0 0 := Stand.of_body Bd
  have e0 : s₁.heap = h0 := by rw [← hh, Bd.state]; rfl
  have N0 := Fr.nil n0
  have K0 := Keep.refl h0 [p0]
  show own_Go _ _ _ _ (Q21 Z p0 p1 mc h0 n0) _ _ _
  refine own_by (fun _ k => castTop (ef_21 m p0 p1) k) ?_
  show own_Go _ _ _ _ _ _ _ (s₁.setTop (mkF m 0 #[.val (.ref p0), .val (.ref p1)] []))
  refine own_by (fun _ kz => XS.aloadN X0.here hx rfl (hb hby d21_0) rfl rfl kz) ?_
  refine own_by (fun _ kz => XS.aloadN X0.here hx rfl (hb hby d21_1) rfl rfl kz) ?_
  obtain ⟨T1, h1, X1, e1, W1, st1⟩ := putF X0 hx hZ hown (host := "") (Or.inl (ow hw 151 rfl)) Via.refl e0 pm1 pm0 (Or.inr ⟨ (ow hw 152 rfl), rfl, hnm⟩) (ow hw 145 rfl) (ty := (.object "java/util/ArrayList")) (by decide) rfl rfl (g := (mkF m 2 #[.val (.ref p0), .val (.ref p1)] [(.ref p1), (.ref p0)])) rfl rfl (hb hby d21_2)
  have N1 := Fr.snoc X1 N0 pm7
  have Z1 : n0 ≤ h1.size := by rw [W1.size]; exact Z0
  have K1 := K0.wr W1 (Or.inl (List.mem_of_getElem? (i := 0) rfl))
  have pm0_h1 := pm0.wr W1
  have pm1_h1 := pm1.same W1
  have pm2_h1 := pm2.other W1 (Or.inr (slot_ne (Or.inl (ow hw 169 rfl)) (Or.inr (ow hw 152 rfl)) (by decide) (by decide : parseFieldDescriptor "I" = some .int) (by decide : parseFieldDescriptor "Ljava/util/ArrayList;" = some (.object "java/util/ArrayList"))))
  have pm3_h1 := pm3.other W1 (Or.inr (slot_ne (Or.inl (ow hw 155 rfl)) (Or.inr (ow hw 152 rfl)) (by decide) (by decide : parseFieldDescriptor "I" = some .int) (by decide : parseFieldDescriptor "Ljava/util/ArrayList;" = some (.object "java/util/ArrayList"))))
  have pm4_h1 := pm4.other W1 (Or.inr (slot_ne (Or.inl (ow hw 158 rfl)) (Or.inr (ow hw 152 rfl)) (by decide) (by decide : parseFieldDescriptor "I" = some .int) (by decide : parseFieldDescriptor "Ljava/util/ArrayList;" = some (.object "java/util/ArrayList"))))
  have pm5_h1 := pm5.other W1 (Or.inl pm6)
  refine own_by st1 ?_
  show own_Go _ _ _ _ _ _ _ (T1.setTop (mkF m 5 #[.val (.ref p0), .val (.ref p1)] []))
  refine own_by (fun _ kz => XS.aloadN X1.here hx rfl (hb hby d21_5) rfl rfl kz) ?_
  show own_Go _ _ _ _ _ _ _ (T1.setTop (mkF m 6 #[.val (.ref p0), .val (.ref p1)] [(.ref p0)]))
  obtain ⟨T2, X2, e2, st2⟩ := initO X1 hx hZ hown (ow hw 153 rfl) (ow hw 25 rfl) (ow hw 26 rfl) e1 (g := (mkF m 6 #[.val (.ref p0), .val (.ref p1)] [(.ref p0)])) rfl (by rw [hml]; rfl) rfl (hb hby d21_6) (by decide) (W := 0) (by show 2 * 0 + _ ≤ _; exact Nat.le_of_eq rfl) (by decide)
  refine own_by st2 ?_
  show own_Go _ _ _ _ _ _ _ (T2.setTop (mkF m 9 #[.val (.ref p0), .val (.ref p1)] []))
  refine own_by (fun _ kz => XS.aloadN X2.here hx rfl (hb hby d21_9) rfl rfl kz) ?_
  refine own_by (fun _ kz => XS.iconst X2.here hx rfl (hb hby d21_10) kz) ?_
  obtain ⟨T3, h3, X3, e3, W3, st3⟩ := putF X2 hx hZ hown (host := "") (Or.inl (ow hw 154 rfl)) Via.refl e2 pm3_h1 pm0_h1 (Or.inl (ow hw 155 rfl)) (ow hw 145 rfl) (ty := .int) (by decide) rfl rfl (g := (mkF m 11 #[.val (.ref p0), .val (.ref p1)] [(.int (-1 : Int32)), (.ref p0)])) rfl rfl (hb hby d21_11)
  have N3 := Fr.snoc X3 N1 pm7
  have Z3 : n0 ≤ h3.size := by rw [W3.size]; exact Z1
  have K3 := K1.wr W3 (Or.inl (List.mem_of_getElem? (i := 0) rfl))
  have pm0_h3 := pm0_h1.wr W3
  have pm1_h3 := pm1_h1.other W3 (Or.inr (slot_ne (Or.inr (ow hw 152 rfl)) (Or.inl (ow hw 155 rfl)) (by decide) (by decide : parseFieldDescriptor "Ljava/util/ArrayList;" = some (.object "java/util/ArrayList")) (by decide : parseFieldDescriptor "I" = some .int)))
  have pm2_h3 := pm2_h1.other W3 (Or.inr (slot_ne (Or.inl (ow hw 169 rfl)) (Or.inl (ow hw 155 rfl)) (by decide) (by decide : parseFieldDescriptor "I" = some .int) (by decide : parseFieldDescriptor "I" = some .int)))
  have pm3_h3 := pm3_h1.same W3
  have pm4_h3 := pm4_h1.other W3 (Or.inr (slot_ne (Or.inl (ow hw 158 rfl)) (Or.inl (ow hw 155 rfl)) (by decide) (by decide : parseFieldDescriptor "I" = some .int) (by decide : parseFieldDescriptor "I" = some .int)))
  have pm5_h3 := pm5_h1.other W3 (Or.inl pm6)
  refine own_by st3 ?_
  show own_Go _ _ _ _ _ _ _ (T3.setTop (mkF m 14 #[.val (.ref p0), .val (.ref p1)] []))
  refine own_by (fun _ kz => XS.aloadN X3.here hx rfl (hb hby d21_14) rfl rfl kz) ?_
  refine own_by (fun _ kz => XS.aloadN X3.here hx rfl (hb hby d21_15) rfl rfl kz) ?_
  obtain ⟨T4, X4, e4, st4⟩ := getF X3 hx hZ hown (host := "") (Or.inl (ow hw 151 rfl)) Via.refl e3 pm1_h3 (g := (mkF m 16 #[.val (.ref p0), .val (.ref p1)] [(.ref p0), (.ref p0)])) rfl rfl (hb hby d21_16)
  refine own_by st4 ?_
  show own_Go _ _ _ _ _ _ _ (T4.setTop (mkF m 19 #[.val (.ref p0), .val (.ref p1)] [(.ref p1), (.ref p0)]))
  obtain ⟨T5, X5, e5, st5⟩ := getF X4 hx hZ hown (host := "") (Or.inl (ow hw 156 rfl)) (Via.of (ow hw 57 rfl)) e4 pm5_h3 (g := (mkF m 19 #[.val (.ref p0), .val (.ref p1)] [(.ref p1), (.ref p0)])) rfl rfl (hb hby d21_19)
  refine own_by st5 ?_
  show own_Go _ _ _ _ _ _ _ (T5.setTop (mkF m 22 #[.val (.ref p0), .val (.ref p1)] [(.int mc), (.ref p0)]))
  obtain ⟨T6, h6, X6, e6, W6, st6⟩ := putF X5 hx hZ hown (host := "") (Or.inl (ow hw 157 rfl)) Via.refl e5 pm4_h3 pm0_h3 (Or.inl (ow hw 158 rfl)) (ow hw 145 rfl) (ty := .int) (by decide) rfl rfl (g := (mkF m 22 #[.val (.ref p0), .val (.ref p1)] [(.int mc), (.ref p0)])) rfl rfl (hb hby d21_22)
  have N6 := Fr.snoc X6 N3 pm7
  have Z6 : n0 ≤ h6.size := by rw [W6.size]; exact Z3
  have K6 := K3.wr W6 (Or.inl (List.mem_of_getElem? (i := 0) rfl))
  have pm0_h6 := pm0_h3.wr W6
  have pm1_h6 := pm1_h3.other W6 (Or.inr (slot_ne (Or.inr (ow hw 152 rfl)) (Or.inl (ow hw 158 rfl)) (by decide) (by decide : parseFieldDescriptor "Ljava/util/ArrayList;" = some (.object "java/util/ArrayList")) (by decide : parseFieldDescriptor "I" = some .int)))
  have pm2_h6 := pm2_h3.other W6 (Or.inr (slot_ne (Or.inl (ow hw 169 rfl)) (Or.inl (ow hw 158 rfl)) (by decide) (by decide : parseFieldDescriptor "I" = some .int) (by decide : parseFieldDescriptor "I" = some .int)))
  have pm3_h6 := pm3_h3.other W6 (Or.inr (slot_ne (Or.inl (ow hw 155 rfl)) (Or.inl (ow hw 158 rfl)) (by decide) (by decide : parseFieldDescriptor "I" = some .int) (by decide : parseFieldDescriptor "I" = some .int)))
  have pm4_h6 := pm4_h3.same W6
  have pm5_h6 := pm5_h3.other W6 (Or.inl pm6)
  refine own_by st6 ?_
  show own_Go _ _ _ _ _ _ _ (T6.setTop (mkF m 25 #[.val (.ref p0), .val (.ref p1)] []))
  exact own_retV X6 hx hlk Bd.returns (hb hby d21_25) (by decide) (by decide) ⟨rfl, N6, by rw [e6]; exact K6, by rw [e6]; exact pm1_h6, by rw [e6]; exact pm2_h6, by rw [e6]; exact pm3_h6, by rw [e6]; exact pm4_h6⟩
theorem d20_0 : decode jdk_38_method_55_code 0 = .ok (.new 267, 3) := by decide +kernel
theorem d20_3 : decode jdk_38_method_55_code 3 = .ok (.dup, 1) := by decide +kernel
theorem d20_4 : decode jdk_38_method_55_code 4 = .ok (.aload_n 0, 1) := by decide +kernel
theorem d20_5 : decode jdk_38_method_55_code 5 = .ok (.invokespecial 269, 3) := by decide +kernel
theorem d20_8 : decode jdk_38_method_55_code 8 = .ok (.areturn, 1) := by decide +kernel
theorem pf_20 : plainFor (⟨"java/util/ArrayList", "iterator", "()Ljava/util/Iterator;"⟩ : MethodName) = true := by first | exact plainFor_of_name (by first | (simp [plainName, overriddenIn]; done) | decide +kernel) | decide +kernel
theorem pd_20 : parseMethodDescriptor "()Ljava/util/Iterator;" = some ⟨[], some (.object "java/util/Iterator")⟩ := by decide +kernel
theorem ef_20 (m : MethodId) (p0 : Addr) : entryFrame m #[(.ref p0)] 1 = mkF m 0 #[.val (.ref p0)] [] := by first | (simp [entryFrame, mkF, argsToLocals, Value.category]; done) | rfl
def Q20 (Z : State) (p0 : Addr) (mc : Int32) (h0 : Heap) (n0 : Nat) (v : Option Value) (h : Heap) (L : List Loc) : Prop := ∃ (r : Addr), v = some (.ref r) ∧ Fr n0 L ∧ Keep h0 h [] ∧ h0.size ≤ r ∧ Exa Z h r "java/util/ArrayList$Itr" ∧ Fld Z h r "java/util/ArrayList$Itr" "this$0" "Ljava/util/ArrayList;" (.ref p0) ∧ Fld Z h r "java/util/ArrayList$Itr" "cursor" "I" (.int (0 : Int32)) ∧ Fld Z h r "java/util/ArrayList$Itr" "lastRet" "I" (.int (-1 : Int32)) ∧ Fld Z h r "java/util/ArrayList$Itr" "expectedModCount" "I" (.int mc)
theorem rm20 (l : Launch) (Z : State) (a0 : Array Value) (hw : ∀ d ∈ tables_1, d.before a0 Z = true) (ws : List Jvm.Cond) (p0 : Addr) (h0 : Heap) (n0 : Nat) (Z0 : n0 ≤ h0.size) (mc : Int32) (pm0 : Fld Z h0 p0 "java/util/AbstractList" "modCount" "I" (.int mc)) :
    own_Met l Z (⟨"java/util/ArrayList", "iterator", "()Ljava/util/Iterator;"⟩ : MethodName) jdk_38_method_55_code 1 (some (.object "java/util/Iterator")) ws ({ frames := 2, cells := 1, slots := 4, locals := 27 } : Room) #[(.ref p0)] h0 (Q20 Z p0 mc h0 n0) := by
  refine MetFree.of_bodySF pf_20 hisR ?_
  intro p e s m args below meth c s₁ Bd hml0 hP hK
  obtain ⟨rfl, hZ, hh⟩ := hP
  have hx := Bd.exec
  have hby := Bd.bytes
  have hlk : meth.locks = false := BodyLoose.notSynchronized Bd
  have hml : c.maxLocals = 1 := hml0
  have hown : s.vm.findClass "java/util/ArrayList" = some m.cls := findClass_of_methodNamed Bd.named
  have hnm := (name_of_methodNamed Bd.named Bd.method).1
  have X0 : Stand p l e ({ frames := 2, cells := 1, slots := 4, locals := 27 } : Room) s m #[(.ref p0)] below meth c s₁ [] 0 0 := Stand.of_body Bd
  have e0 : s₁.heap = h0 := by rw [← hh, Bd.state]; rfl
  have N0 := Fr.nil n0
  have K0 := Keep.refl h0 []
  show own_Go _ _ _ _ (Q20 Z p0 mc h0 n0) _ _ _
  refine own_by (fun _ k => castTop (ef_20 m p0) k) ?_
  show own_Go _ _ _ _ _ _ _ (s₁.setTop (mkF m 0 #[.val (.ref p0)] []))
  obtain ⟨T1, h1, X1, e1, E1, A1, D1, -, st1⟩ := newO X0 hx hZ hown (ow hw 144 rfl) (ow hw 145 rfl) (ow hw 146 rfl) e0 (g := (mkF m 0 #[.val (.ref p0)] [])) rfl (hb hby d20_0) (by decide) (by decide)
  obtain ⟨b1, g1⟩ : ∃ z, z = h0.size := ⟨_, rfl⟩
  rw [← g1] at A1 D1 st1
  have ge_b1 : n0 ≤ b1 := Nat.le_trans Z0 (Nat.le_of_eq g1.symm)
  have sz_b1 : h0.size ≤ b1 := Nat.le_trans K0.1 (Nat.le_of_eq g1.symm)
  have ne_p0_b1 : p0 ≠ b1 := by rw [g1]; exact Nat.ne_of_lt pm0.lt
  have Z1 : n0 ≤ h1.size := Nat.le_trans Z0 E1.1
  have K1 := K0.ext E1
  have pm0_h1 := pm0.ext E1
  have F1_this0 : Fld Z h1 b1 "java/util/ArrayList$Itr" "this$0" "Ljava/util/ArrayList;" .null := D1 (Or.inr (ow hw 152 rfl)) (ty := (.object "java/util/ArrayList")) (by decide)
  have F1_lastRet : Fld Z h1 b1 "java/util/ArrayList$Itr" "lastRet" "I" (.int (0 : Int32)) := D1 (Or.inl (ow hw 155 rfl)) (ty := .int) (by decide)
  have F1_expectedModCount : Fld Z h1 b1 "java/util/ArrayList$Itr" "expectedModCount" "I" (.int (0 : Int32)) := D1 (Or.inl (ow hw 158 rfl)) (ty := .int) (by decide)
  have F1_cursor : Fld Z h1 b1 "java/util/ArrayList$Itr" "cursor" "I" (.int (0 : Int32)) := D1 (Or.inl (ow hw 169 rfl)) (ty := .int) (by decide)
  refine own_by st1 ?_
  show own_Go _ _ _ _ _ _ _ (T1.setTop (mkF m 3 #[.val (.ref p0)] [(.ref b1)]))
  refine own_by (fun _ kz => XS.dup X1.here hx rfl (hb hby d20_3) rfl rfl kz) ?_
  refine own_by (fun _ kz => XS.aloadN X1.here hx rfl (hb hby d20_4) rfl rfl kz) ?_
  show own_Go _ _ _ _ _ _ _ (T1.setTop (mkF m 5 #[.val (.ref p0)] [(.ref p0), (.ref b1), (.ref b1)]))
  obtain ⟨v2, T2, L2, X2, q2, st2⟩ := own_callI X1 hx hZ rfl hown (ow hw 147 rfl) (ow hw 148 rfl) (ow hw 146 rfl) (ow hw 150 rfl) (by decide) (rm21 l Z a0 hw [] b1 p0 h1 n0 Z1 mc A1 F1_this0 F1_cursor F1_lastRet F1_expectedModCount pm0_h1 ne_p0_b1 ge_b1) (W := 1) (by decide) (by decide) e1 (g := (mkF m 5 #[.val (.ref p0)] [(.ref p0), (.ref b1), (.ref b1)])) rfl (by rw [hml]; rfl) (a := b1) (argsL := [(.ref p0)]) (rest := [(.ref b1)]) (lenOf pd_21 rfl) rfl rfl (by show 2 * 0 + _ ≤ _; exact Nat.le_of_eq rfl) (hb hby d20_5) (by decide) (by decide)
  obtain ⟨rfl, Nq2, Kq2, o2_0, o2_1, o2_2, o2_3⟩ := q2
  have N2 := Fr.app N0 Nq2
  have Z2 : n0 ≤ T2.heap.size := Nat.le_trans Z1 Kq2.1
  have K2 := K1.trans Kq2 (allS (Or.inr sz_b1) all0)
  have pm0_h2 := pm0_h1.keep Kq2 (ninS ne_p0_b1 nin0)
  have A1_h2 := A1.keep Kq2
  refine own_by st2 ?_
  show own_Go _ _ _ _ _ _ _ (T2.setTop (mkF m 8 #[.val (.ref p0)] [(.ref b1)]))
  exact own_retA X2 hx hlk Bd.returns rfl (hb hby d20_8) (by decide) (by decide) ⟨b1, rfl, N2, K2, sz_b1, A1_h2, o2_0, o2_1, o2_2, o2_3⟩
theorem d24_0 : decode jdk_49_method_6_code 0 = .ok (.aload_n 0, 1) := by decide +kernel
theorem d24_1 : decode jdk_49_method_6_code 1 = .ok (.getfield 1, 3) := by decide +kernel
theorem d24_4 : decode jdk_49_method_6_code 4 = .ok (.getfield 17, 3) := by decide +kernel
theorem d24_7 : decode jdk_49_method_6_code 7 = .ok (.aload_n 0, 1) := by decide +kernel
theorem d24_8 : decode jdk_49_method_6_code 8 = .ok (.getfield 22, 3) := by decide +kernel
theorem d24_11 : decode jdk_49_method_6_code 11 = .ok (.if_icmp .eq 11, 3) := by decide +kernel
theorem d24_22 : decode jdk_49_method_6_code 22 = .ok (.return_, 1) := by decide +kernel
theorem pf_24 : plainFor (⟨"java/util/ArrayList$Itr", "checkForComodification", "()V"⟩ : MethodName) = true := by first | exact plainFor_of_name (by first | (simp [plainName, overriddenIn]; done) | decide +kernel) | decide +kernel
theorem pd_24 : parseMethodDescriptor "()V" = some ⟨[], none⟩ := by decide +kernel
theorem ef_24 (m : MethodId) (p0 : Addr) : entryFrame m #[(.ref p0)] 1 = mkF m 0 #[.val (.ref p0)] [] := by first | (simp [entryFrame, mkF, argsToLocals, Value.category]; done) | rfl
def Q24 (Z : State) (p0 : Addr) (a : Addr) (mc : Int32) (h0 : Heap) (n0 : Nat) (v : Option Value) (h : Heap) (L : List Loc) : Prop := v = none ∧ Fr n0 L ∧ h = h0
theorem rm24 (l : Launch) (Z : State) (a0 : Array Value) (hw : ∀ d ∈ tables_1, d.before a0 Z = true) (ws : List Jvm.Cond) (p0 : Addr) (h0 : Heap) (n0 : Nat) (Z0 : n0 ≤ h0.size) (a : Addr) (mc : Int32) (pm0 : Fld Z h0 p0 "java/util/ArrayList$Itr" "this$0" "Ljava/util/ArrayList;" (.ref a)) (pm1 : Fld Z h0 a "java/util/AbstractList" "modCount" "I" (.int mc)) (pm2 : Fld Z h0 p0 "java/util/ArrayList$Itr" "expectedModCount" "I" (.int mc)) :
    own_Met l Z (⟨"java/util/ArrayList$Itr", "checkForComodification", "()V"⟩ : MethodName) jdk_49_method_6_code 1 none ws ({ frames := 0, cells := 0, slots := 0, locals := 0 } : Room) #[(.ref p0)] h0 (Q24 Z p0 a mc h0 n0) := by
  refine MetFree.of_bodySF pf_24 hisR ?_
  intro p e s m args below meth c s₁ Bd hml0 hP hK
  obtain ⟨rfl, hZ, hh⟩ := hP
  have hx := Bd.exec
  have hby := Bd.bytes
  have hlk : meth.locks = false := BodyLoose.notSynchronized Bd
  have hml : c.maxLocals = 1 := hml0
  have hown : s.vm.findClass "java/util/ArrayList$Itr" = some m.cls := findClass_of_methodNamed Bd.named
  have hnm := (name_of_methodNamed Bd.named Bd.method).1
  have X0 : Stand p l e ({ frames := 0, cells := 0, slots := 0, locals := 0 } : Room) s m #[(.ref p0)] below meth c s₁ [] 0 0 := Stand.of_body Bd
  have e0 : s₁.heap = h0 := by rw [← hh, Bd.state]; rfl
  have N0 := Fr.nil n0
  show own_Go _ _ _ _ (Q24 Z p0 a mc h0 n0) _ _ _
  refine own_by (fun _ k => castTop (ef_24 m p0) k) ?_
  show own_Go _ _ _ _ _ _ _ (s₁.setTop (mkF m 0 #[.val (.ref p0)] []))
  refine own_by (fun _ kz => XS.aloadN X0.here hx rfl (hb hby d24_0) rfl rfl kz) ?_
  obtain ⟨T1, X1, e1, st1⟩ := getF X0 hx hZ hown (host := "") (Or.inl (ow hw 151 rfl)) Via.refl e0 pm0 (g := (mkF m 1 #[.val (.ref p0)] [(.ref p0)])) rfl rfl (hb hby d24_1)
  refine own_by st1 ?_
  show own_Go _ _ _ _ _ _ _ (T1.setTop (mkF m 4 #[.val (.ref p0)] [(.ref a)]))
  obtain ⟨T2, X2, e2, st2⟩ := getF X1 hx hZ hown (host := "") (Or.inl (ow hw 156 rfl)) (Via.of (ow hw 57 rfl)) e1 pm1 (g := (mkF m 4 #[.val (.ref p0)] [(.ref a)])) rfl rfl (hb hby d24_4)
  refine own_by st2 ?_
  show own_Go _ _ _ _ _ _ _ (T2.setTop (mkF m 7 #[.val (.ref p0)] [(.int mc)]))
  refine own_by (fun _ kz => XS.aloadN X2.here hx rfl (hb hby d24_7) rfl rfl kz) ?_
  obtain ⟨T3, X3, e3, st3⟩ := getF X2 hx hZ hown (host := "") (Or.inl (ow hw 157 rfl)) Via.refl e2 pm2 (g := (mkF m 8 #[.val (.ref p0)] [(.ref p0), (.int mc)])) rfl rfl (hb hby d24_8)
  refine own_by st3 ?_
  show own_Go _ _ _ _ _ _ _ (T3.setTop (mkF m 11 #[.val (.ref p0)] [(.int mc), (.int mc)]))
  refine own_by (fun _ kz => XS.icmpYes X3.here hx rfl (pc0 := 11) (pc' := 22) rfl (hb hby d24_11) rfl (teq rfl).1 (by decide) (by decide) kz) ?_
  show own_Go _ _ _ _ _ _ _ (T3.setTop (mkF m 22 #[.val (.ref p0)] []))
  exact own_retV X3 hx hlk Bd.returns (hb hby d24_22) (by decide) (by decide) ⟨rfl, N0, e3⟩
theorem d22_0 : decode jdk_49_method_2_code 0 = .ok (.aload_n 0, 1) := by decide +kernel
theorem d22_1 : decode jdk_49_method_2_code 1 = .ok (.getfield 25, 3) := by decide +kernel
theorem d22_4 : decode jdk_49_method_2_code 4 = .ok (.aload_n 0, 1) := by decide +kernel
theorem d22_5 : decode jdk_49_method_2_code 5 = .ok (.getfield 1, 3) := by decide +kernel
theorem d22_8 : decode jdk_49_method_2_code 8 = .ok (.getfield 28, 3) := by decide +kernel
theorem d22_11 : decode jdk_49_method_2_code 11 = .ok (.if_icmp .eq 7, 3) := by decide +kernel
theorem d22_14 : decode jdk_49_method_2_code 14 = .ok (.iconst 1, 1) := by decide +kernel
theorem d22_15 : decode jdk_49_method_2_code 15 = .ok (.goto 4, 3) := by decide +kernel
theorem d22_18 : decode jdk_49_method_2_code 18 = .ok (.iconst 0, 1) := by decide +kernel
theorem d22_19 : decode jdk_49_method_2_code 19 = .ok (.ireturn, 1) := by decide +kernel
theorem pf_22 : plainFor (⟨"java/util/ArrayList$Itr", "hasNext", "()Z"⟩ : MethodName) = true := by first | exact plainFor_of_name (by first | (simp [plainName, overriddenIn]; done) | decide +kernel) | decide +kernel
theorem pd_22 : parseMethodDescriptor "()Z" = some ⟨[], some .boolean⟩ := by decide +kernel
theorem ef_22_0_1 (m : MethodId) (p0 : Addr) : entryFrame m #[(.ref p0)] 1 = mkF m 0 #[.val (.ref p0)] [] := by first | (simp [entryFrame, mkF, argsToLocals, Value.category]; done) | rfl
def Q22_0_1 (Z : State) (p0 : Addr) (a : Addr) (h0 : Heap) (n0 : Nat) (v : Option Value) (h : Heap) (L : List Loc) : Prop := v = some (.int (1 : Int32)) ∧ Fr n0 L ∧ h = h0
theorem rm22_0_1 (l : Launch) (Z : State) (a0 : Array Value) (hw : ∀ d ∈ tables_1, d.before a0 Z = true) (ws : List Jvm.Cond) (p0 : Addr) (h0 : Heap) (n0 : Nat) (Z0 : n0 ≤ h0.size) (a : Addr) (pm0 : Fld Z h0 p0 "java/util/ArrayList$Itr" "cursor" "I" (.int (0 : Int32))) (pm1 : Fld Z h0 p0 "java/util/ArrayList$Itr" "this$0" "Ljava/util/ArrayList;" (.ref a)) (pm2 : Fld Z h0 a "java/util/ArrayList" "size" "I" (.int (1 : Int32))) :
    own_Met l Z (⟨"java/util/ArrayList$Itr", "hasNext", "()Z"⟩ : MethodName) jdk_49_method_2_code 1 (some .boolean) ws ({ frames := 0, cells := 0, slots := 0, locals := 0 } : Room) #[(.ref p0)] h0 (Q22_0_1 Z p0 a h0 n0) := by
  refine MetFree.of_bodySF pf_22 hisR ?_
  intro p e s m args below meth c s₁ Bd hml0 hP hK
  obtain ⟨rfl, hZ, hh⟩ := hP
  have hx := Bd.exec
  have hby := Bd.bytes
  have hlk : meth.locks = false := BodyLoose.notSynchronized Bd
  have hml : c.maxLocals = 1 := hml0
  have hown : s.vm.findClass "java/util/ArrayList$Itr" = some m.cls := findClass_of_methodNamed Bd.named
  have hnm := (name_of_methodNamed Bd.named Bd.method).1
  have X0 : Stand p l e ({ frames := 0, cells := 0, slots := 0, locals := 0 } : Room) s m #[(.ref p0)] below meth c s₁ [] 0 0 := Stand.of_body Bd
  have e0 : s₁.heap = h0 := by rw [← hh, Bd.state]; rfl
  have N0 := Fr.nil n0
  show own_Go _ _ _ _ (Q22_0_1 Z p0 a h0 n0) _ _ _
  refine own_by (fun _ k => castTop (ef_22_0_1 m p0) k) ?_
  show own_Go _ _ _ _ _ _ _ (s₁.setTop (mkF m 0 #[.val (.ref p0)] []))
  refine own_by (fun _ kz => XS.aloadN X0.here hx rfl (hb hby d22_0) rfl rfl kz) ?_
  obtain ⟨T1, X1, e1, st1⟩ := getF X0 hx hZ hown (host := "") (Or.inl (ow hw 168 rfl)) Via.refl e0 pm0 (g := (mkF m 1 #[.val (.ref p0)] [(.ref p0)])) rfl rfl (hb hby d22_1)
  refine own_by st1 ?_
  show own_Go _ _ _ _ _ _ _ (T1.setTop (mkF m 4 #[.val (.ref p0)] [(.int (0 : Int32))]))
  refine own_by (fun _ kz => XS.aloadN X1.here hx rfl (hb hby d22_4) rfl rfl kz) ?_
  obtain ⟨T2, X2, e2, st2⟩ := getF X1 hx hZ hown (host := "") (Or.inl (ow hw 151 rfl)) Via.refl e1 pm1 (g := (mkF m 5 #[.val (.ref p0)] [(.ref p0), (.int (0 : Int32))])) rfl rfl (hb hby d22_5)
  refine own_by st2 ?_
  show own_Go _ _ _ _ _ _ _ (T2.setTop (mkF m 8 #[.val (.ref p0)] [(.ref a), (.int (0 : Int32))]))
  obtain ⟨T3, X3, e3, st3⟩ := getF X2 hx hZ hown (host := "java/util/ArrayList") (Or.inr (ow hw 170 rfl)) Via.refl e2 pm2 (g := (mkF m 8 #[.val (.ref p0)] [(.ref a), (.int (0 : Int32))])) rfl rfl (hb hby d22_8)
  refine own_by st3 ?_
  show own_Go _ _ _ _ _ _ _ (T3.setTop (mkF m 11 #[.val (.ref p0)] [(.int (1 : Int32)), (.int (0 : Int32))]))
  refine own_by (fun _ kz => XS.icmpNo X3.here hx rfl (hb hby d22_11) rfl (feq (by decide : ¬ ((0 : Int32) = (1 : Int32)))).1 kz) ?_
  show own_Go _ _ _ _ _ _ _ (T3.setTop (mkF m 14 #[.val (.ref p0)] []))
  refine own_by (fun _ kz => XS.iconst X3.here hx rfl (hb hby d22_14) kz) ?_
  show own_Go _ _ _ _ _ _ _ (T3.setTop (mkF m 15 #[.val (.ref p0)] [(.int (1 : Int32))]))
  refine own_by (fun _ kz => XS.goto X3.here hx rfl (pc0 := 15) (pc' := 19) rfl (hb hby d22_15) (by decide) (by decide) kz) ?_
  show own_Go _ _ _ _ _ _ _ (T3.setTop (mkF m 19 #[.val (.ref p0)] [(.int (1 : Int32))]))
  exact own_retZ X3 hx hlk Bd.returns (hb hby d22_19) (by decide) (by decide) ⟨rfl, N0, e3⟩
theorem d23_0 : decode jdk_49_method_3_code 0 = .ok (.aload_n 0, 1) := by decide +kernel
theorem d23_1 : decode jdk_49_method_3_code 1 = .ok (.invokevirtual 31, 3) := by decide +kernel
theorem d23_4 : decode jdk_49_method_3_code 4 = .ok (.aload_n 0, 1) := by decide +kernel
theorem d23_5 : decode jdk_49_method_3_code 5 = .ok (.getfield 25, 3) := by decide +kernel
theorem d23_8 : decode jdk_49_method_3_code 8 = .ok (.istore_n 1, 1) := by decide +kernel
theorem d23_9 : decode jdk_49_method_3_code 9 = .ok (.iload_n 1, 1) := by decide +kernel
theorem d23_10 : decode jdk_49_method_3_code 10 = .ok (.aload_n 0, 1) := by decide +kernel
theorem d23_11 : decode jdk_49_method_3_code 11 = .ok (.getfield 1, 3) := by decide +kernel
theorem d23_14 : decode jdk_49_method_3_code 14 = .ok (.getfield 28, 3) := by decide +kernel
theorem d23_17 : decode jdk_49_method_3_code 17 = .ok (.if_icmp .lt 11, 3) := by decide +kernel
theorem d23_28 : decode jdk_49_method_3_code 28 = .ok (.aload_n 0, 1) := by decide +kernel
theorem d23_29 : decode jdk_49_method_3_code 29 = .ok (.getfield 1, 3) := by decide +kernel
theorem d23_32 : decode jdk_49_method_3_code 32 = .ok (.getfield 37, 3) := by decide +kernel
theorem d23_35 : decode jdk_49_method_3_code 35 = .ok (.astore_n 2, 1) := by decide +kernel
theorem d23_36 : decode jdk_49_method_3_code 36 = .ok (.iload_n 1, 1) := by decide +kernel
theorem d23_37 : decode jdk_49_method_3_code 37 = .ok (.aload_n 2, 1) := by decide +kernel
theorem d23_38 : decode jdk_49_method_3_code 38 = .ok (.arraylength, 1) := by decide +kernel
theorem d23_39 : decode jdk_49_method_3_code 39 = .ok (.if_icmp .lt 11, 3) := by decide +kernel
theorem d23_50 : decode jdk_49_method_3_code 50 = .ok (.aload_n 0, 1) := by decide +kernel
theorem d23_51 : decode jdk_49_method_3_code 51 = .ok (.iload_n 1, 1) := by decide +kernel
theorem d23_52 : decode jdk_49_method_3_code 52 = .ok (.iconst 1, 1) := by decide +kernel
theorem d23_53 : decode jdk_49_method_3_code 53 = .ok (.iadd, 1) := by decide +kernel
theorem d23_54 : decode jdk_49_method_3_code 54 = .ok (.putfield 25, 3) := by decide +kernel
theorem d23_57 : decode jdk_49_method_3_code 57 = .ok (.aload_n 2, 1) := by decide +kernel
theorem d23_58 : decode jdk_49_method_3_code 58 = .ok (.aload_n 0, 1) := by decide +kernel
theorem d23_59 : decode jdk_49_method_3_code 59 = .ok (.iload_n 1, 1) := by decide +kernel
theorem d23_60 : decode jdk_49_method_3_code 60 = .ok (.dup_x1, 1) := by decide +kernel
theorem d23_61 : decode jdk_49_method_3_code 61 = .ok (.putfield 13, 3) := by decide +kernel
theorem d23_64 : decode jdk_49_method_3_code 64 = .ok (.aaload, 1) := by decide +kernel
theorem d23_65 : decode jdk_49_method_3_code 65 = .ok (.areturn, 1) := by decide +kernel
theorem pf_23 : plainFor (⟨"java/util/ArrayList$Itr", "next", "()Ljava/lang/Object;"⟩ : MethodName) = true := by first | exact plainFor_of_name (by first | (simp [plainName, overriddenIn]; done) | decide +kernel) | decide +kernel
theorem pd_23 : parseMethodDescriptor "()Ljava/lang/Object;" = some ⟨[], some (.object "java/lang/Object")⟩ := by decide +kernel
theorem ef_23_0_1 (m : MethodId) (p0 : Addr) : entryFrame m #[(.ref p0)] 3 = mkF m 0 #[.val (.ref p0), .unset, .unset] [] := by first | (simp [entryFrame, mkF, argsToLocals, Value.category]; done) | rfl
def Q23_0_1 (Z : State) (p0 : Addr) (a : Addr) (mc : Int32) (ea : Addr) (kA : ClassId) (d1 : Addr) (h0 : Heap) (n0 : Nat) (v : Option Value) (h : Heap) (L : List Loc) : Prop := v = some (.ref d1) ∧ Fr n0 L ∧ Keep h0 h [p0] ∧ Fld Z h p0 "java/util/ArrayList$Itr" "this$0" "Ljava/util/ArrayList;" (.ref a) ∧ Fld Z h p0 "java/util/ArrayList$Itr" "cursor" "I" (.int (1 : Int32)) ∧ Fld Z h p0 "java/util/ArrayList$Itr" "lastRet" "I" (.int (0 : Int32)) ∧ Fld Z h p0 "java/util/ArrayList$Itr" "expectedModCount" "I" (.int mc)
theorem rm23_0_1 (l : Launch) (Z : State) (a0 : Array Value) (hw : ∀ d ∈ tables_1, d.before a0 Z = true) (ws : List Jvm.Cond) (p0 : Addr) (h0 : Heap) (n0 : Nat) (Z0 : n0 ≤ h0.size) (a : Addr) (mc : Int32) (ea : Addr) (kA : ClassId) (d1 : Addr) (pm0 : Exa Z h0 p0 "java/util/ArrayList$Itr") (pm1 : Fld Z h0 p0 "java/util/ArrayList$Itr" "this$0" "Ljava/util/ArrayList;" (.ref a)) (pm2 : Fld Z h0 p0 "java/util/ArrayList$Itr" "cursor" "I" (.int (0 : Int32))) (pm3 : Fld Z h0 p0 "java/util/ArrayList$Itr" "lastRet" "I" (.int (-1 : Int32))) (pm4 : Fld Z h0 p0 "java/util/ArrayList$Itr" "expectedModCount" "I" (.int mc)) (pm5 : Fld Z h0 a "java/util/AbstractList" "modCount" "I" (.int mc)) (pm6 : Fld Z h0 a "java/util/ArrayList" "size" "I" (.int (1 : Int32))) (pm7 : Fld Z h0 a "java/util/ArrayList" "elementData" "[Ljava/lang/Object;" (.ref ea)) (pm8 : Arv Z h0 ea kA (.object "java/lang/Object") (10 : Int32) [(.ref d1), .null, .null, .null, .null, .null, .null, .null, .null, .null] .null) (pm9 : a ≠ p0) (pm10 : ea ≠ p0) (pm11 : n0 ≤ p0) :
    own_Met l Z (⟨"java/util/ArrayList$Itr", "next", "()Ljava/lang/Object;"⟩ : MethodName) jdk_49_method_3_code 3 (some (.object "java/lang/Object")) ws ({ frames := 1, cells := 0, slots := 0, locals := 12 } : Room) #[(.ref p0)] h0 (Q23_0_1 Z p0 a mc ea kA d1 h0 n0) := by
  refine MetFree.of_bodySF pf_23 hisR ?_
  intro p e s m args below meth c s₁ Bd hml0 hP hK
  obtain ⟨rfl, hZ, hh⟩ := hP
  have hx := Bd.exec
  have hby := Bd.bytes
  have hlk : meth.locks = false := BodyLoose.notSynchronized Bd
  have hml : c.maxLocals = 3 := hml0
  have hown : s.vm.findClass "java/util/ArrayList$Itr" = some m.cls := findClass_of_methodNamed Bd.named
  have hnm := (name_of_methodNamed Bd.named Bd.method).1
  have X0 : Stand p l e ({ frames := 1, cells := 0, slots := 0, locals := 12 } : Room) s m #[(.ref p0)] below meth c s₁ [] 0 0 := Stand.of_body Bd
  have e0 : s₁.heap = h0 := by rw [← hh, Bd.state]; rfl
  have N0 := Fr.nil n0
  have K0 := Keep.refl h0 [p0]
  show own_Go _ _ _ _ (Q23_0_1 Z p0 a mc ea kA d1 h0 n0) _ _ _
  refine own_by (fun _ k => castTop (ef_23_0_1 m p0) k) ?_
  show own_Go _ _ _ _ _ _ _ (s₁.setTop (mkF m 0 #[.val (.ref p0), .unset, .unset] []))
  refine own_by (fun _ kz => XS.aloadN X0.here hx rfl (hb hby d23_0) rfl rfl kz) ?_
  show own_Go _ _ _ _ _ _ _ (s₁.setTop (mkF m 1 #[.val (.ref p0), .unset, .unset] [(.ref p0)]))
  obtain ⟨v1, T1, L1, X1, q1, st1⟩ := own_callV X0 hx hZ hown (ow hw 179 rfl) (ow hw 180 rfl) (ow hw 182 rfl) (ow hw 181 rfl) (ow hw 146 rfl) (ow hw 183 rfl) (by decide) (rm24 l Z a0 hw [] p0 h0 n0 Z0 a mc pm1 pm5 pm4) (W := 0) (by decide) (by decide) e0 pm0 (g := (mkF m 1 #[.val (.ref p0), .unset, .unset] [(.ref p0)])) rfl (by rw [hml]; rfl) (argsL := []) (rest := []) (lenOf pd_24 rfl) rfl rfl (by show 2 * 0 + _ ≤ _; exact Nat.le_of_eq rfl) (hb hby d23_1) (by decide) (by decide)
  obtain ⟨rfl, Nq1, hh1⟩ := q1
  have N1 := Fr.app N0 Nq1
  refine own_by st1 ?_
  show own_Go _ _ _ _ _ _ _ (T1.setTop (mkF m 4 #[.val (.ref p0), .unset, .unset] []))
  refine own_by (fun _ kz => XS.aloadN X1.here hx rfl (hb hby d23_4) rfl rfl kz) ?_
  obtain ⟨T2, X2, e2, st2⟩ := getF X1 hx hZ hown (host := "") (Or.inl (ow hw 168 rfl)) Via.refl hh1 pm2 (g := (mkF m 5 #[.val (.ref p0), .unset, .unset] [(.ref p0)])) rfl rfl (hb hby d23_5)
  refine own_by st2 ?_
  show own_Go _ _ _ _ _ _ _ (T2.setTop (mkF m 8 #[.val (.ref p0), .unset, .unset] [(.int (0 : Int32))]))
  refine own_by (fun _ kz => XS.istoreN X2.here hx rfl (hb hby d23_8) rfl (l' := #[.val (.ref p0), .val (.int (0 : Int32)), .unset]) rfl kz) ?_
  show own_Go _ _ _ _ _ _ _ (T2.setTop (mkF m 9 #[.val (.ref p0), .val (.int (0 : Int32)), .unset] []))
  refine own_by (fun _ kz => XS.iloadN X2.here hx rfl (hb hby d23_9) rfl kz) ?_
  refine own_by (fun _ kz => XS.aloadN X2.here hx rfl (hb hby d23_10) rfl rfl kz) ?_
  obtain ⟨T3, X3, e3, st3⟩ := getF X2 hx hZ hown (host := "") (Or.inl (ow hw 151 rfl)) Via.refl e2 pm1 (g := (mkF m 11 #[.val (.ref p0), .val (.int (0 : Int32)), .unset] [(.ref p0), (.int (0 : Int32))])) rfl rfl (hb hby d23_11)
  refine own_by st3 ?_
  show own_Go _ _ _ _ _ _ _ (T3.setTop (mkF m 14 #[.val (.ref p0), .val (.int (0 : Int32)), .unset] [(.ref a), (.int (0 : Int32))]))
  obtain ⟨T4, X4, e4, st4⟩ := getF X3 hx hZ hown (host := "java/util/ArrayList") (Or.inr (ow hw 170 rfl)) Via.refl e3 pm6 (g := (mkF m 14 #[.val (.ref p0), .val (.int (0 : Int32)), .unset] [(.ref a), (.int (0 : Int32))])) rfl rfl (hb hby d23_14)
  refine own_by st4 ?_
  show own_Go _ _ _ _ _ _ _ (T4.setTop (mkF m 17 #[.val (.ref p0), .val (.int (0 : Int32)), .unset] [(.int (1 : Int32)), (.int (0 : Int32))]))
  refine own_by (fun _ kz => XS.icmpYes X4.here hx rfl (pc0 := 17) (pc' := 28) rfl (hb hby d23_17) rfl (tlt (by decide : ((0 : Int32) < (1 : Int32)))).1 (by decide) (by decide) kz) ?_
  show own_Go _ _ _ _ _ _ _ (T4.setTop (mkF m 28 #[.val (.ref p0), .val (.int (0 : Int32)), .unset] []))
  refine own_by (fun _ kz => XS.aloadN X4.here hx rfl (hb hby d23_28) rfl rfl kz) ?_
  obtain ⟨T5, X5, e5, st5⟩ := getF X4 hx hZ hown (host := "") (Or.inl (ow hw 151 rfl)) Via.refl e4 pm1 (g := (mkF m 29 #[.val (.ref p0), .val (.int (0 : Int32)), .unset] [(.ref p0)])) rfl rfl (hb hby d23_29)
  refine own_by st5 ?_
  show own_Go _ _ _ _ _ _ _ (T5.setTop (mkF m 32 #[.val (.ref p0), .val (.int (0 : Int32)), .unset] [(.ref a)]))
  obtain ⟨T6, X6, e6, st6⟩ := getF X5 hx hZ hown (host := "") (Or.inl (ow hw 184 rfl)) Via.refl e5 pm7 (g := (mkF m 32 #[.val (.ref p0), .val (.int (0 : Int32)), .unset] [(.ref a)])) rfl rfl (hb hby d23_32)
  refine own_by st6 ?_
  show own_Go _ _ _ _ _ _ _ (T6.setTop (mkF m 35 #[.val (.ref p0), .val (.int (0 : Int32)), .unset] [(.ref ea)]))
  refine own_by (fun _ kz => XS.astoreN X6.here hx rfl (hb hby d23_35) rfl rfl (l' := #[.val (.ref p0), .val (.int (0 : Int32)), .val (.ref ea)]) rfl kz) ?_
  show own_Go _ _ _ _ _ _ _ (T6.setTop (mkF m 36 #[.val (.ref p0), .val (.int (0 : Int32)), .val (.ref ea)] []))
  refine own_by (fun _ kz => XS.iloadN X6.here hx rfl (hb hby d23_36) rfl kz) ?_
  refine own_by (fun _ kz => XS.aloadN X6.here hx rfl (hb hby d23_37) rfl rfl kz) ?_
  show own_Go _ _ _ _ _ _ _ (T6.setTop (mkF m 38 #[.val (.ref p0), .val (.int (0 : Int32)), .val (.ref ea)] [(.ref ea), (.int (0 : Int32))]))
  refine own_by (fun _ kz => own_len X6 hx hZ e6 pm8 (g := (mkF m 38 #[.val (.ref p0), .val (.int (0 : Int32)), .val (.ref ea)] [(.ref ea), (.int (0 : Int32))])) rfl rfl (hb hby d23_38) _ kz) ?_
  show own_Go _ _ _ _ _ _ _ (T6.setTop (mkF m 39 #[.val (.ref p0), .val (.int (0 : Int32)), .val (.ref ea)] [(.int (10 : Int32)), (.int (0 : Int32))]))
  refine own_by (fun _ kz => XS.icmpYes X6.here hx rfl (pc0 := 39) (pc' := 50) rfl (hb hby d23_39) rfl (tlt (by decide : ((0 : Int32) < (10 : Int32)))).1 (by decide) (by decide) kz) ?_
  show own_Go _ _ _ _ _ _ _ (T6.setTop (mkF m 50 #[.val (.ref p0), .val (.int (0 : Int32)), .val (.ref ea)] []))
  refine own_by (fun _ kz => XS.aloadN X6.here hx rfl (hb hby d23_50) rfl rfl kz) ?_
  refine own_by (fun _ kz => XS.iloadN X6.here hx rfl (hb hby d23_51) rfl kz) ?_
  refine own_by (fun _ kz => XS.iconst X6.here hx rfl (hb hby d23_52) kz) ?_
  show own_Go _ _ _ _ _ _ _ (T6.setTop (mkF m 53 #[.val (.ref p0), .val (.int (0 : Int32)), .val (.ref ea)] [(.int (1 : Int32)), (.int (0 : Int32)), (.ref p0)]))
  refine own_by (fun _ kz => XS.iadd X6.here hx rfl (hb hby d23_53) rfl kz) ?_
  show own_Go _ _ _ _ _ _ _ (T6.setTop (mkF m 54 #[.val (.ref p0), .val (.int (0 : Int32)), .val (.ref ea)] [(.int (1 : Int32)), (.ref p0)]))
  obtain ⟨T7, h7, X7, e7, W7, st7⟩ := putF X6 hx hZ hown (host := "") (Or.inl (ow hw 168 rfl)) Via.refl e6 pm2 pm0 (Or.inl (ow hw 169 rfl)) (ow hw 145 rfl) (ty := .int) (by decide) rfl rfl (g := (mkF m 54 #[.val (.ref p0), .val (.int (0 : Int32)), .val (.ref ea)] [(.int (1 : Int32)), (.ref p0)])) rfl rfl (hb hby d23_54)
  have N7 := Fr.snoc X7 N1 pm11
  have Z7 : n0 ≤ h7.size := by rw [W7.size]; exact Z0
  have K7 := K0.wr W7 (Or.inl (List.mem_of_getElem? (i := 0) rfl))
  have pm0_h7 := pm0.wr W7
  have pm1_h7 := pm1.other W7 (Or.inr (slot_ne (Or.inr (ow hw 152 rfl)) (Or.inl (ow hw 169 rfl)) (by decide) (by decide : parseFieldDescriptor "Ljava/util/ArrayList;" = some (.object "java/util/ArrayList")) (by decide : parseFieldDescriptor "I" = some .int)))
  have pm2_h7 := pm2.same W7
  have pm3_h7 := pm3.other W7 (Or.inr (slot_ne (Or.inl (ow hw 155 rfl)) (Or.inl (ow hw 169 rfl)) (by decide) (by decide : parseFieldDescriptor "I" = some .int) (by decide : parseFieldDescriptor "I" = some .int)))
  have pm4_h7 := pm4.other W7 (Or.inr (slot_ne (Or.inl (ow hw 158 rfl)) (Or.inl (ow hw 169 rfl)) (by decide) (by decide : parseFieldDescriptor "I" = some .int) (by decide : parseFieldDescriptor "I" = some .int)))
  have pm5_h7 := pm5.other W7 (Or.inl pm9)
  have pm6_h7 := pm6.other W7 (Or.inl pm9)
  have pm7_h7 := pm7.other W7 (Or.inl pm9)
  have pm8_h7 := pm8.other W7 pm10
  refine own_by st7 ?_
  show own_Go _ _ _ _ _ _ _ (T7.setTop (mkF m 57 #[.val (.ref p0), .val (.int (0 : Int32)), .val (.ref ea)] []))
  refine own_by (fun _ kz => XS.aloadN X7.here hx rfl (hb hby d23_57) rfl rfl kz) ?_
  refine own_by (fun _ kz => XS.aloadN X7.here hx rfl (hb hby d23_58) rfl rfl kz) ?_
  refine own_by (fun _ kz => XS.iloadN X7.here hx rfl (hb hby d23_59) rfl kz) ?_
  show own_Go _ _ _ _ _ _ _ (T7.setTop (mkF m 60 #[.val (.ref p0), .val (.int (0 : Int32)), .val (.ref ea)] [(.int (0 : Int32)), (.ref p0), (.ref ea)]))
  refine own_by (fun _ kz => XS.dupX1 X7.here hx rfl (hb hby d23_60) rfl rfl rfl kz) ?_
  show own_Go _ _ _ _ _ _ _ (T7.setTop (mkF m 61 #[.val (.ref p0), .val (.int (0 : Int32)), .val (.ref ea)] [(.int (0 : Int32)), (.ref p0), (.int (0 : Int32)), (.ref ea)]))
  obtain ⟨T8, h8, X8, e8, W8, st8⟩ := putF X7 hx hZ hown (host := "") (Or.inl (ow hw 154 rfl)) Via.refl e7 pm3_h7 pm0_h7 (Or.inl (ow hw 155 rfl)) (ow hw 145 rfl) (ty := .int) (by decide) rfl rfl (g := (mkF m 61 #[.val (.ref p0), .val (.int (0 : Int32)), .val (.ref ea)] [(.int (0 : Int32)), (.ref p0), (.int (0 : Int32)), (.ref ea)])) rfl rfl (hb hby d23_61)
  have N8 := Fr.snoc X8 N7 pm11
  have Z8 : n0 ≤ h8.size := by rw [W8.size]; exact Z7
  have K8 := K7.wr W8 (Or.inl (List.mem_of_getElem? (i := 0) rfl))
  have pm0_h8 := pm0_h7.wr W8
  have pm1_h8 := pm1_h7.other W8 (Or.inr (slot_ne (Or.inr (ow hw 152 rfl)) (Or.inl (ow hw 155 rfl)) (by decide) (by decide : parseFieldDescriptor "Ljava/util/ArrayList;" = some (.object "java/util/ArrayList")) (by decide : parseFieldDescriptor "I" = some .int)))
  have pm2_h8 := pm2_h7.other W8 (Or.inr (slot_ne (Or.inl (ow hw 169 rfl)) (Or.inl (ow hw 155 rfl)) (by decide) (by decide : parseFieldDescriptor "I" = some .int) (by decide : parseFieldDescriptor "I" = some .int)))
  have pm3_h8 := pm3_h7.same W8
  have pm4_h8 := pm4_h7.other W8 (Or.inr (slot_ne (Or.inl (ow hw 158 rfl)) (Or.inl (ow hw 155 rfl)) (by decide) (by decide : parseFieldDescriptor "I" = some .int) (by decide : parseFieldDescriptor "I" = some .int)))
  have pm5_h8 := pm5_h7.other W8 (Or.inl pm9)
  have pm6_h8 := pm6_h7.other W8 (Or.inl pm9)
  have pm7_h8 := pm7_h7.other W8 (Or.inl pm9)
  have pm8_h8 := pm8_h7.other W8 pm10
  refine own_by st8 ?_
  show own_Go _ _ _ _ _ _ _ (T8.setTop (mkF m 64 #[.val (.ref p0), .val (.int (0 : Int32)), .val (.ref ea)] [(.int (0 : Int32)), (.ref ea)]))
  refine own_by (fun _ kz => own_ldA X8 hx hZ e8 pm8_h8 rfl (j := (0 : Int32)) ⟨by decide, by decide⟩ (v := (.ref d1)) rfl (g := (mkF m 64 #[.val (.ref p0), .val (.int (0 : Int32)), .val (.ref ea)] [(.int (0 : Int32)), (.ref ea)])) rfl rfl (hb hby d23_64) _ kz) ?_
  show own_Go _ _ _ _ _ _ _ (T8.setTop (mkF m 65 #[.val (.ref p0), .val (.int (0 : Int32)), .val (.ref ea)] [(.ref d1)]))
  exact own_retA X8 hx hlk Bd.returns rfl (hb hby d23_65) (by decide) (by decide) ⟨rfl, N8, by rw [e8]; exact K8, by rw [e8]; exact pm1_h8, by rw [e8]; exact pm2_h8, by rw [e8]; exact pm3_h8, by rw [e8]; exact pm4_h8⟩
theorem ef_22_1_1 (m : MethodId) (p0 : Addr) : entryFrame m #[(.ref p0)] 1 = mkF m 0 #[.val (.ref p0)] [] := by first | (simp [entryFrame, mkF, argsToLocals, Value.category]; done) | rfl
def Q22_1_1 (Z : State) (p0 : Addr) (a : Addr) (h0 : Heap) (n0 : Nat) (v : Option Value) (h : Heap) (L : List Loc) : Prop := v = some (.int (0 : Int32)) ∧ Fr n0 L ∧ h = h0
theorem rm22_1_1 (l : Launch) (Z : State) (a0 : Array Value) (hw : ∀ d ∈ tables_1, d.before a0 Z = true) (ws : List Jvm.Cond) (p0 : Addr) (h0 : Heap) (n0 : Nat) (Z0 : n0 ≤ h0.size) (a : Addr) (pm0 : Fld Z h0 p0 "java/util/ArrayList$Itr" "cursor" "I" (.int (1 : Int32))) (pm1 : Fld Z h0 p0 "java/util/ArrayList$Itr" "this$0" "Ljava/util/ArrayList;" (.ref a)) (pm2 : Fld Z h0 a "java/util/ArrayList" "size" "I" (.int (1 : Int32))) :
    own_Met l Z (⟨"java/util/ArrayList$Itr", "hasNext", "()Z"⟩ : MethodName) jdk_49_method_2_code 1 (some .boolean) ws ({ frames := 0, cells := 0, slots := 0, locals := 0 } : Room) #[(.ref p0)] h0 (Q22_1_1 Z p0 a h0 n0) := by
  refine MetFree.of_bodySF pf_22 hisR ?_
  intro p e s m args below meth c s₁ Bd hml0 hP hK
  obtain ⟨rfl, hZ, hh⟩ := hP
  have hx := Bd.exec
  have hby := Bd.bytes
  have hlk : meth.locks = false := BodyLoose.notSynchronized Bd
  have hml : c.maxLocals = 1 := hml0
  have hown : s.vm.findClass "java/util/ArrayList$Itr" = some m.cls := findClass_of_methodNamed Bd.named
  have hnm := (name_of_methodNamed Bd.named Bd.method).1
  have X0 : Stand p l e ({ frames := 0, cells := 0, slots := 0, locals := 0 } : Room) s m #[(.ref p0)] below meth c s₁ [] 0 0 := Stand.of_body Bd
  have e0 : s₁.heap = h0 := by rw [← hh, Bd.state]; rfl
  have N0 := Fr.nil n0
  show own_Go _ _ _ _ (Q22_1_1 Z p0 a h0 n0) _ _ _
  refine own_by (fun _ k => castTop (ef_22_1_1 m p0) k) ?_
  show own_Go _ _ _ _ _ _ _ (s₁.setTop (mkF m 0 #[.val (.ref p0)] []))
  refine own_by (fun _ kz => XS.aloadN X0.here hx rfl (hb hby d22_0) rfl rfl kz) ?_
  obtain ⟨T1, X1, e1, st1⟩ := getF X0 hx hZ hown (host := "") (Or.inl (ow hw 168 rfl)) Via.refl e0 pm0 (g := (mkF m 1 #[.val (.ref p0)] [(.ref p0)])) rfl rfl (hb hby d22_1)
  refine own_by st1 ?_
  show own_Go _ _ _ _ _ _ _ (T1.setTop (mkF m 4 #[.val (.ref p0)] [(.int (1 : Int32))]))
  refine own_by (fun _ kz => XS.aloadN X1.here hx rfl (hb hby d22_4) rfl rfl kz) ?_
  obtain ⟨T2, X2, e2, st2⟩ := getF X1 hx hZ hown (host := "") (Or.inl (ow hw 151 rfl)) Via.refl e1 pm1 (g := (mkF m 5 #[.val (.ref p0)] [(.ref p0), (.int (1 : Int32))])) rfl rfl (hb hby d22_5)
  refine own_by st2 ?_
  show own_Go _ _ _ _ _ _ _ (T2.setTop (mkF m 8 #[.val (.ref p0)] [(.ref a), (.int (1 : Int32))]))
  obtain ⟨T3, X3, e3, st3⟩ := getF X2 hx hZ hown (host := "java/util/ArrayList") (Or.inr (ow hw 170 rfl)) Via.refl e2 pm2 (g := (mkF m 8 #[.val (.ref p0)] [(.ref a), (.int (1 : Int32))])) rfl rfl (hb hby d22_8)
  refine own_by st3 ?_
  show own_Go _ _ _ _ _ _ _ (T3.setTop (mkF m 11 #[.val (.ref p0)] [(.int (1 : Int32)), (.int (1 : Int32))]))
  refine own_by (fun _ kz => XS.icmpYes X3.here hx rfl (pc0 := 11) (pc' := 18) rfl (hb hby d22_11) rfl (teq (by decide : ((1 : Int32) = (1 : Int32)))).1 (by decide) (by decide) kz) ?_
  show own_Go _ _ _ _ _ _ _ (T3.setTop (mkF m 18 #[.val (.ref p0)] []))
  refine own_by (fun _ kz => XS.iconst X3.here hx rfl (hb hby d22_18) kz) ?_
  show own_Go _ _ _ _ _ _ _ (T3.setTop (mkF m 19 #[.val (.ref p0)] [(.int (0 : Int32))]))
  exact own_retZ X3 hx hlk Bd.returns (hb hby d22_19) (by decide) (by decide) ⟨rfl, N0, e3⟩
theorem ef_22_0_2 (m : MethodId) (p0 : Addr) : entryFrame m #[(.ref p0)] 1 = mkF m 0 #[.val (.ref p0)] [] := by first | (simp [entryFrame, mkF, argsToLocals, Value.category]; done) | rfl
def Q22_0_2 (Z : State) (p0 : Addr) (a : Addr) (h0 : Heap) (n0 : Nat) (v : Option Value) (h : Heap) (L : List Loc) : Prop := v = some (.int (1 : Int32)) ∧ Fr n0 L ∧ h = h0
theorem rm22_0_2 (l : Launch) (Z : State) (a0 : Array Value) (hw : ∀ d ∈ tables_1, d.before a0 Z = true) (ws : List Jvm.Cond) (p0 : Addr) (h0 : Heap) (n0 : Nat) (Z0 : n0 ≤ h0.size) (a : Addr) (pm0 : Fld Z h0 p0 "java/util/ArrayList$Itr" "cursor" "I" (.int (0 : Int32))) (pm1 : Fld Z h0 p0 "java/util/ArrayList$Itr" "this$0" "Ljava/util/ArrayList;" (.ref a)) (pm2 : Fld Z h0 a "java/util/ArrayList" "size" "I" (.int (2 : Int32))) :
    own_Met l Z (⟨"java/util/ArrayList$Itr", "hasNext", "()Z"⟩ : MethodName) jdk_49_method_2_code 1 (some .boolean) ws ({ frames := 0, cells := 0, slots := 0, locals := 0 } : Room) #[(.ref p0)] h0 (Q22_0_2 Z p0 a h0 n0) := by
  refine MetFree.of_bodySF pf_22 hisR ?_
  intro p e s m args below meth c s₁ Bd hml0 hP hK
  obtain ⟨rfl, hZ, hh⟩ := hP
  have hx := Bd.exec
  have hby := Bd.bytes
  have hlk : meth.locks = false := BodyLoose.notSynchronized Bd
  have hml : c.maxLocals = 1 := hml0
  have hown : s.vm.findClass "java/util/ArrayList$Itr" = some m.cls := findClass_of_methodNamed Bd.named
  have hnm := (name_of_methodNamed Bd.named Bd.method).1
  have X0 : Stand p l e ({ frames := 0, cells := 0, slots := 0, locals := 0 } : Room) s m #[(.ref p0)] below meth c s₁ [] 0 0 := Stand.of_body Bd
  have e0 : s₁.heap = h0 := by rw [← hh, Bd.state]; rfl
  have N0 := Fr.nil n0
  show own_Go _ _ _ _ (Q22_0_2 Z p0 a h0 n0) _ _ _
  refine own_by (fun _ k => castTop (ef_22_0_2 m p0) k) ?_
  show own_Go _ _ _ _ _ _ _ (s₁.setTop (mkF m 0 #[.val (.ref p0)] []))
  refine own_by (fun _ kz => XS.aloadN X0.here hx rfl (hb hby d22_0) rfl rfl kz) ?_
  obtain ⟨T1, X1, e1, st1⟩ := getF X0 hx hZ hown (host := "") (Or.inl (ow hw 168 rfl)) Via.refl e0 pm0 (g := (mkF m 1 #[.val (.ref p0)] [(.ref p0)])) rfl rfl (hb hby d22_1)
  refine own_by st1 ?_
  show own_Go _ _ _ _ _ _ _ (T1.setTop (mkF m 4 #[.val (.ref p0)] [(.int (0 : Int32))]))
  refine own_by (fun _ kz => XS.aloadN X1.here hx rfl (hb hby d22_4) rfl rfl kz) ?_
  obtain ⟨T2, X2, e2, st2⟩ := getF X1 hx hZ hown (host := "") (Or.inl (ow hw 151 rfl)) Via.refl e1 pm1 (g := (mkF m 5 #[.val (.ref p0)] [(.ref p0), (.int (0 : Int32))])) rfl rfl (hb hby d22_5)
  refine own_by st2 ?_
  show own_Go _ _ _ _ _ _ _ (T2.setTop (mkF m 8 #[.val (.ref p0)] [(.ref a), (.int (0 : Int32))]))
  obtain ⟨T3, X3, e3, st3⟩ := getF X2 hx hZ hown (host := "java/util/ArrayList") (Or.inr (ow hw 170 rfl)) Via.refl e2 pm2 (g := (mkF m 8 #[.val (.ref p0)] [(.ref a), (.int (0 : Int32))])) rfl rfl (hb hby d22_8)
  refine own_by st3 ?_
  show own_Go _ _ _ _ _ _ _ (T3.setTop (mkF m 11 #[.val (.ref p0)] [(.int (2 : Int32)), (.int (0 : Int32))]))
  refine own_by (fun _ kz => XS.icmpNo X3.here hx rfl (hb hby d22_11) rfl (feq (by decide : ¬ ((0 : Int32) = (2 : Int32)))).1 kz) ?_
  show own_Go _ _ _ _ _ _ _ (T3.setTop (mkF m 14 #[.val (.ref p0)] []))
  refine own_by (fun _ kz => XS.iconst X3.here hx rfl (hb hby d22_14) kz) ?_
  show own_Go _ _ _ _ _ _ _ (T3.setTop (mkF m 15 #[.val (.ref p0)] [(.int (1 : Int32))]))
  refine own_by (fun _ kz => XS.goto X3.here hx rfl (pc0 := 15) (pc' := 19) rfl (hb hby d22_15) (by decide) (by decide) kz) ?_
  show own_Go _ _ _ _ _ _ _ (T3.setTop (mkF m 19 #[.val (.ref p0)] [(.int (1 : Int32))]))
  exact own_retZ X3 hx hlk Bd.returns (hb hby d22_19) (by decide) (by decide) ⟨rfl, N0, e3⟩
theorem ef_23_0_2 (m : MethodId) (p0 : Addr) : entryFrame m #[(.ref p0)] 3 = mkF m 0 #[.val (.ref p0), .unset, .unset] [] := by first | (simp [entryFrame, mkF, argsToLocals, Value.category]; done) | rfl
def Q23_0_2 (Z : State) (p0 : Addr) (a : Addr) (mc : Int32) (ea : Addr) (kA : ClassId) (d1 : Addr) (d2 : Addr) (h0 : Heap) (n0 : Nat) (v : Option Value) (h : Heap) (L : List Loc) : Prop := v = some (.ref d1) ∧ Fr n0 L ∧ Keep h0 h [p0] ∧ Fld Z h p0 "java/util/ArrayList$Itr" "this$0" "Ljava/util/ArrayList;" (.ref a) ∧ Fld Z h p0 "java/util/ArrayList$Itr" "cursor" "I" (.int (1 : Int32)) ∧ Fld Z h p0 "java/util/ArrayList$Itr" "lastRet" "I" (.int (0 : Int32)) ∧ Fld Z h p0 "java/util/ArrayList$Itr" "expectedModCount" "I" (.int mc)
theorem rm23_0_2 (l : Launch) (Z : State) (a0 : Array Value) (hw : ∀ d ∈ tables_1, d.before a0 Z = true) (ws : List Jvm.Cond) (p0 : Addr) (h0 : Heap) (n0 : Nat) (Z0 : n0 ≤ h0.size) (a : Addr) (mc : Int32) (ea : Addr) (kA : ClassId) (d1 : Addr) (d2 : Addr) (pm0 : Exa Z h0 p0 "java/util/ArrayList$Itr") (pm1 : Fld Z h0 p0 "java/util/ArrayList$Itr" "this$0" "Ljava/util/ArrayList;" (.ref a)) (pm2 : Fld Z h0 p0 "java/util/ArrayList$Itr" "cursor" "I" (.int (0 : Int32))) (pm3 : Fld Z h0 p0 "java/util/ArrayList$Itr" "lastRet" "I" (.int (-1 : Int32))) (pm4 : Fld Z h0 p0 "java/util/ArrayList$Itr" "expectedModCount" "I" (.int mc)) (pm5 : Fld Z h0 a "java/util/AbstractList" "modCount" "I" (.int mc)) (pm6 : Fld Z h0 a "java/util/ArrayList" "size" "I" (.int (2 : Int32))) (pm7 : Fld Z h0 a "java/util/ArrayList" "elementData" "[Ljava/lang/Object;" (.ref ea)) (pm8 : Arv Z h0 ea kA (.object "java/lang/Object") (10 : Int32) [(.ref d1), (.ref d2), .null, .null, .null, .null, .null, .null, .null, .null] .null) (pm9 : a ≠ p0) (pm10 : ea ≠ p0) (pm11 : n0 ≤ p0) :
    own_Met l Z (⟨"java/util/ArrayList$Itr", "next", "()Ljava/lang/Object;"⟩ : MethodName) jdk_49_method_3_code 3 (some (.object "java/lang/Object")) ws ({ frames := 1, cells := 0, slots := 0, locals := 12 } : Room) #[(.ref p0)] h0 (Q23_0_2 Z p0 a mc ea kA d1 d2 h0 n0) := by
  refine MetFree.of_bodySF pf_23 hisR ?_
  intro p e s m args below meth c s₁ Bd hml0 hP hK
  obtain ⟨rfl, hZ, hh⟩ := hP
  have hx := Bd.exec
  have hby := Bd.bytes
  have hlk : meth.locks = false := BodyLoose.notSynchronized Bd
  have hml : c.maxLocals = 3 := hml0
  have hown : s.vm.findClass "java/util/ArrayList$Itr" = some m.cls := findClass_of_methodNamed Bd.named
  have hnm := (name_of_methodNamed Bd.named Bd.method).1
  have X0 : Stand p l e ({ frames := 1, cells := 0, slots := 0, locals := 12 } : Room) s m #[(.ref p0)] below meth c s₁ [] 0 0 := Stand.of_body Bd
  have e0 : s₁.heap = h0 := by rw [← hh, Bd.state]; rfl
  have N0 := Fr.nil n0
  have K0 := Keep.refl h0 [p0]
  show own_Go _ _ _ _ (Q23_0_2 Z p0 a mc ea kA d1 d2 h0 n0) _ _ _
  refine own_by (fun _ k => castTop (ef_23_0_2 m p0) k) ?_
  show own_Go _ _ _ _ _ _ _ (s₁.setTop (mkF m 0 #[.val (.ref p0), .unset, .unset] []))
  refine own_by (fun _ kz => XS.aloadN X0.here hx rfl (hb hby d23_0) rfl rfl kz) ?_
  show own_Go _ _ _ _ _ _ _ (s₁.setTop (mkF m 1 #[.val (.ref p0), .unset, .unset] [(.ref p0)]))
  obtain ⟨v1, T1, L1, X1, q1, st1⟩ := own_callV X0 hx hZ hown (ow hw 179 rfl) (ow hw 180 rfl) (ow hw 182 rfl) (ow hw 181 rfl) (ow hw 146 rfl) (ow hw 183 rfl) (by decide) (rm24 l Z a0 hw [] p0 h0 n0 Z0 a mc pm1 pm5 pm4) (W := 0) (by decide) (by decide) e0 pm0 (g := (mkF m 1 #[.val (.ref p0), .unset, .unset] [(.ref p0)])) rfl (by rw [hml]; rfl) (argsL := []) (rest := []) (lenOf pd_24 rfl) rfl rfl (by show 2 * 0 + _ ≤ _; exact Nat.le_of_eq rfl) (hb hby d23_1) (by decide) (by decide)
  obtain ⟨rfl, Nq1, hh1⟩ := q1
  have N1 := Fr.app N0 Nq1
  refine own_by st1 ?_
  show own_Go _ _ _ _ _ _ _ (T1.setTop (mkF m 4 #[.val (.ref p0), .unset, .unset] []))
  refine own_by (fun _ kz => XS.aloadN X1.here hx rfl (hb hby d23_4) rfl rfl kz) ?_
  obtain ⟨T2, X2, e2, st2⟩ := getF X1 hx hZ hown (host := "") (Or.inl (ow hw 168 rfl)) Via.refl hh1 pm2 (g := (mkF m 5 #[.val (.ref p0), .unset, .unset] [(.ref p0)])) rfl rfl (hb hby d23_5)
  refine own_by st2 ?_
  show own_Go _ _ _ _ _ _ _ (T2.setTop (mkF m 8 #[.val (.ref p0), .unset, .unset] [(.int (0 : Int32))]))
  refine own_by (fun _ kz => XS.istoreN X2.here hx rfl (hb hby d23_8) rfl (l' := #[.val (.ref p0), .val (.int (0 : Int32)), .unset]) rfl kz) ?_
  show own_Go _ _ _ _ _ _ _ (T2.setTop (mkF m 9 #[.val (.ref p0), .val (.int (0 : Int32)), .unset] []))
  refine own_by (fun _ kz => XS.iloadN X2.here hx rfl (hb hby d23_9) rfl kz) ?_
  refine own_by (fun _ kz => XS.aloadN X2.here hx rfl (hb hby d23_10) rfl rfl kz) ?_
  obtain ⟨T3, X3, e3, st3⟩ := getF X2 hx hZ hown (host := "") (Or.inl (ow hw 151 rfl)) Via.refl e2 pm1 (g := (mkF m 11 #[.val (.ref p0), .val (.int (0 : Int32)), .unset] [(.ref p0), (.int (0 : Int32))])) rfl rfl (hb hby d23_11)
  refine own_by st3 ?_
  show own_Go _ _ _ _ _ _ _ (T3.setTop (mkF m 14 #[.val (.ref p0), .val (.int (0 : Int32)), .unset] [(.ref a), (.int (0 : Int32))]))
  obtain ⟨T4, X4, e4, st4⟩ := getF X3 hx hZ hown (host := "java/util/ArrayList") (Or.inr (ow hw 170 rfl)) Via.refl e3 pm6 (g := (mkF m 14 #[.val (.ref p0), .val (.int (0 : Int32)), .unset] [(.ref a), (.int (0 : Int32))])) rfl rfl (hb hby d23_14)
  refine own_by st4 ?_
  show own_Go _ _ _ _ _ _ _ (T4.setTop (mkF m 17 #[.val (.ref p0), .val (.int (0 : Int32)), .unset] [(.int (2 : Int32)), (.int (0 : Int32))]))
  refine own_by (fun _ kz => XS.icmpYes X4.here hx rfl (pc0 := 17) (pc' := 28) rfl (hb hby d23_17) rfl (tlt (by decide : ((0 : Int32) < (2 : Int32)))).1 (by decide) (by decide) kz) ?_
  show own_Go _ _ _ _ _ _ _ (T4.setTop (mkF m 28 #[.val (.ref p0), .val (.int (0 : Int32)), .unset] []))
  refine own_by (fun _ kz => XS.aloadN X4.here hx rfl (hb hby d23_28) rfl rfl kz) ?_
  obtain ⟨T5, X5, e5, st5⟩ := getF X4 hx hZ hown (host := "") (Or.inl (ow hw 151 rfl)) Via.refl e4 pm1 (g := (mkF m 29 #[.val (.ref p0), .val (.int (0 : Int32)), .unset] [(.ref p0)])) rfl rfl (hb hby d23_29)
  refine own_by st5 ?_
  show own_Go _ _ _ _ _ _ _ (T5.setTop (mkF m 32 #[.val (.ref p0), .val (.int (0 : Int32)), .unset] [(.ref a)]))
  obtain ⟨T6, X6, e6, st6⟩ := getF X5 hx hZ hown (host := "") (Or.inl (ow hw 184 rfl)) Via.refl e5 pm7 (g := (mkF m 32 #[.val (.ref p0), .val (.int (0 : Int32)), .unset] [(.ref a)])) rfl rfl (hb hby d23_32)
  refine own_by st6 ?_
  show own_Go _ _ _ _ _ _ _ (T6.setTop (mkF m 35 #[.val (.ref p0), .val (.int (0 : Int32)), .unset] [(.ref ea)]))
  refine own_by (fun _ kz => XS.astoreN X6.here hx rfl (hb hby d23_35) rfl rfl (l' := #[.val (.ref p0), .val (.int (0 : Int32)), .val (.ref ea)]) rfl kz) ?_
  show own_Go _ _ _ _ _ _ _ (T6.setTop (mkF m 36 #[.val (.ref p0), .val (.int (0 : Int32)), .val (.ref ea)] []))
  refine own_by (fun _ kz => XS.iloadN X6.here hx rfl (hb hby d23_36) rfl kz) ?_
  refine own_by (fun _ kz => XS.aloadN X6.here hx rfl (hb hby d23_37) rfl rfl kz) ?_
  show own_Go _ _ _ _ _ _ _ (T6.setTop (mkF m 38 #[.val (.ref p0), .val (.int (0 : Int32)), .val (.ref ea)] [(.ref ea), (.int (0 : Int32))]))
  refine own_by (fun _ kz => own_len X6 hx hZ e6 pm8 (g := (mkF m 38 #[.val (.ref p0), .val (.int (0 : Int32)), .val (.ref ea)] [(.ref ea), (.int (0 : Int32))])) rfl rfl (hb hby d23_38) _ kz) ?_
  show own_Go _ _ _ _ _ _ _ (T6.setTop (mkF m 39 #[.val (.ref p0), .val (.int (0 : Int32)), .val (.ref ea)] [(.int (10 : Int32)), (.int (0 : Int32))]))
  refine own_by (fun _ kz => XS.icmpYes X6.here hx rfl (pc0 := 39) (pc' := 50) rfl (hb hby d23_39) rfl (tlt (by decide : ((0 : Int32) < (10 : Int32)))).1 (by decide) (by decide) kz) ?_
  show own_Go _ _ _ _ _ _ _ (T6.setTop (mkF m 50 #[.val (.ref p0), .val (.int (0 : Int32)), .val (.ref ea)] []))
  refine own_by (fun _ kz => XS.aloadN X6.here hx rfl (hb hby d23_50) rfl rfl kz) ?_
  refine own_by (fun _ kz => XS.iloadN X6.here hx rfl (hb hby d23_51) rfl kz) ?_
  refine own_by (fun _ kz => XS.iconst X6.here hx rfl (hb hby d23_52) kz) ?_
  show own_Go _ _ _ _ _ _ _ (T6.setTop (mkF m 53 #[.val (.ref p0), .val (.int (0 : Int32)), .val (.ref ea)] [(.int (1 : Int32)), (.int (0 : Int32)), (.ref p0)]))
  refine own_by (fun _ kz => XS.iadd X6.here hx rfl (hb hby d23_53) rfl kz) ?_
  show own_Go _ _ _ _ _ _ _ (T6.setTop (mkF m 54 #[.val (.ref p0), .val (.int (0 : Int32)), .val (.ref ea)] [(.int (1 : Int32)), (.ref p0)]))
  obtain ⟨T7, h7, X7, e7, W7, st7⟩ := putF X6 hx hZ hown (host := "") (Or.inl (ow hw 168 rfl)) Via.refl e6 pm2 pm0 (Or.inl (ow hw 169 rfl)) (ow hw 145 rfl) (ty := .int) (by decide) rfl rfl (g := (mkF m 54 #[.val (.ref p0), .val (.int (0 : Int32)), .val (.ref ea)] [(.int (1 : Int32)), (.ref p0)])) rfl rfl (hb hby d23_54)
  have N7 := Fr.snoc X7 N1 pm11
  have Z7 : n0 ≤ h7.size := by rw [W7.size]; exact Z0
  have K7 := K0.wr W7 (Or.inl (List.mem_of_getElem? (i := 0) rfl))
  have pm0_h7 := pm0.wr W7
  have pm1_h7 := pm1.other W7 (Or.inr (slot_ne (Or.inr (ow hw 152 rfl)) (Or.inl (ow hw 169 rfl)) (by decide) (by decide : parseFieldDescriptor "Ljava/util/ArrayList;" = some (.object "java/util/ArrayList")) (by decide : parseFieldDescriptor "I" = some .int)))
  have pm2_h7 := pm2.same W7
  have pm3_h7 := pm3.other W7 (Or.inr (slot_ne (Or.inl (ow hw 155 rfl)) (Or.inl (ow hw 169 rfl)) (by decide) (by decide : parseFieldDescriptor "I" = some .int) (by decide : parseFieldDescriptor "I" = some .int)))
  have pm4_h7 := pm4.other W7 (Or.inr (slot_ne (Or.inl (ow hw 158 rfl)) (Or.inl (ow hw 169 rfl)) (by decide) (by decide : parseFieldDescriptor "I" = some .int) (by decide : parseFieldDescriptor "I" = some .int)))
  have pm5_h7 := pm5.other W7 (Or.inl pm9)
  have pm6_h7 := pm6.other W7 (Or.inl pm9)
  have pm7_h7 := pm7.other W7 (Or.inl pm9)
  have pm8_h7 := pm8.other W7 pm10
  refine own_by st7 ?_
  show own_Go _ _ _ _ _ _ _ (T7.setTop (mkF m 57 #[.val (.ref p0), .val (.int (0 : Int32)), .val (.ref ea)] []))
  refine own_by (fun _ kz => XS.aloadN X7.here hx rfl (hb hby d23_57) rfl rfl kz) ?_
  refine own_by (fun _ kz => XS.aloadN X7.here hx rfl (hb hby d23_58) rfl rfl kz) ?_
  refine own_by (fun _ kz => XS.iloadN X7.here hx rfl (hb hby d23_59) rfl kz) ?_
  show own_Go _ _ _ _ _ _ _ (T7.setTop (mkF m 60 #[.val (.ref p0), .val (.int (0 : Int32)), .val (.ref ea)] [(.int (0 : Int32)), (.ref p0), (.ref ea)]))
  refine own_by (fun _ kz => XS.dupX1 X7.here hx rfl (hb hby d23_60) rfl rfl rfl kz) ?_
  show own_Go _ _ _ _ _ _ _ (T7.setTop (mkF m 61 #[.val (.ref p0), .val (.int (0 : Int32)), .val (.ref ea)] [(.int (0 : Int32)), (.ref p0), (.int (0 : Int32)), (.ref ea)]))
  obtain ⟨T8, h8, X8, e8, W8, st8⟩ := putF X7 hx hZ hown (host := "") (Or.inl (ow hw 154 rfl)) Via.refl e7 pm3_h7 pm0_h7 (Or.inl (ow hw 155 rfl)) (ow hw 145 rfl) (ty := .int) (by decide) rfl rfl (g := (mkF m 61 #[.val (.ref p0), .val (.int (0 : Int32)), .val (.ref ea)] [(.int (0 : Int32)), (.ref p0), (.int (0 : Int32)), (.ref ea)])) rfl rfl (hb hby d23_61)
  have N8 := Fr.snoc X8 N7 pm11
  have Z8 : n0 ≤ h8.size := by rw [W8.size]; exact Z7
  have K8 := K7.wr W8 (Or.inl (List.mem_of_getElem? (i := 0) rfl))
  have pm0_h8 := pm0_h7.wr W8
  have pm1_h8 := pm1_h7.other W8 (Or.inr (slot_ne (Or.inr (ow hw 152 rfl)) (Or.inl (ow hw 155 rfl)) (by decide) (by decide : parseFieldDescriptor "Ljava/util/ArrayList;" = some (.object "java/util/ArrayList")) (by decide : parseFieldDescriptor "I" = some .int)))
  have pm2_h8 := pm2_h7.other W8 (Or.inr (slot_ne (Or.inl (ow hw 169 rfl)) (Or.inl (ow hw 155 rfl)) (by decide) (by decide : parseFieldDescriptor "I" = some .int) (by decide : parseFieldDescriptor "I" = some .int)))
  have pm3_h8 := pm3_h7.same W8
  have pm4_h8 := pm4_h7.other W8 (Or.inr (slot_ne (Or.inl (ow hw 158 rfl)) (Or.inl (ow hw 155 rfl)) (by decide) (by decide : parseFieldDescriptor "I" = some .int) (by decide : parseFieldDescriptor "I" = some .int)))
  have pm5_h8 := pm5_h7.other W8 (Or.inl pm9)
  have pm6_h8 := pm6_h7.other W8 (Or.inl pm9)
  have pm7_h8 := pm7_h7.other W8 (Or.inl pm9)
  have pm8_h8 := pm8_h7.other W8 pm10
  refine own_by st8 ?_
  show own_Go _ _ _ _ _ _ _ (T8.setTop (mkF m 64 #[.val (.ref p0), .val (.int (0 : Int32)), .val (.ref ea)] [(.int (0 : Int32)), (.ref ea)]))
  refine own_by (fun _ kz => own_ldA X8 hx hZ e8 pm8_h8 rfl (j := (0 : Int32)) ⟨by decide, by decide⟩ (v := (.ref d1)) rfl (g := (mkF m 64 #[.val (.ref p0), .val (.int (0 : Int32)), .val (.ref ea)] [(.int (0 : Int32)), (.ref ea)])) rfl rfl (hb hby d23_64) _ kz) ?_
  show own_Go _ _ _ _ _ _ _ (T8.setTop (mkF m 65 #[.val (.ref p0), .val (.int (0 : Int32)), .val (.ref ea)] [(.ref d1)]))
  exact own_retA X8 hx hlk Bd.returns rfl (hb hby d23_65) (by decide) (by decide) ⟨rfl, N8, by rw [e8]; exact K8, by rw [e8]; exact pm1_h8, by rw [e8]; exact pm2_h8, by rw [e8]; exact pm3_h8, by rw [e8]; exact pm4_h8⟩
theorem ef_22_1_2 (m : MethodId) (p0 : Addr) : entryFrame m #[(.ref p0)] 1 = mkF m 0 #[.val (.ref p0)] [] := by first | (simp [entryFrame, mkF, argsToLocals, Value.category]; done) | rfl
def Q22_1_2 (Z : State) (p0 : Addr) (a : Addr) (h0 : Heap) (n0 : Nat) (v : Option Value) (h : Heap) (L : List Loc) : Prop := v = some (.int (1 : Int32)) ∧ Fr n0 L ∧ h = h0
theorem rm22_1_2 (l : Launch) (Z : State) (a0 : Array Value) (hw : ∀ d ∈ tables_1, d.before a0 Z = true) (ws : List Jvm.Cond) (p0 : Addr) (h0 : Heap) (n0 : Nat) (Z0 : n0 ≤ h0.size) (a : Addr) (pm0 : Fld Z h0 p0 "java/util/ArrayList$Itr" "cursor" "I" (.int (1 : Int32))) (pm1 : Fld Z h0 p0 "java/util/ArrayList$Itr" "this$0" "Ljava/util/ArrayList;" (.ref a)) (pm2 : Fld Z h0 a "java/util/ArrayList" "size" "I" (.int (2 : Int32))) :
    own_Met l Z (⟨"java/util/ArrayList$Itr", "hasNext", "()Z"⟩ : MethodName) jdk_49_method_2_code 1 (some .boolean) ws ({ frames := 0, cells := 0, slots := 0, locals := 0 } : Room) #[(.ref p0)] h0 (Q22_1_2 Z p0 a h0 n0) := by
  refine MetFree.of_bodySF pf_22 hisR ?_
  intro p e s m args below meth c s₁ Bd hml0 hP hK
  obtain ⟨rfl, hZ, hh⟩ := hP
  have hx := Bd.exec
  have hby := Bd.bytes
  have hlk : meth.locks = false := BodyLoose.notSynchronized Bd
  have hml : c.maxLocals = 1 := hml0
  have hown : s.vm.findClass "java/util/ArrayList$Itr" = some m.cls := findClass_of_methodNamed Bd.named
  have hnm := (name_of_methodNamed Bd.named Bd.method).1
  have X0 : Stand p l e ({ frames := 0, cells := 0, slots := 0, locals := 0 } : Room) s m #[(.ref p0)] below meth c s₁ [] 0 0 := Stand.of_body Bd
  have e0 : s₁.heap = h0 := by rw [← hh, Bd.state]; rfl
  have N0 := Fr.nil n0
  show own_Go _ _ _ _ (Q22_1_2 Z p0 a h0 n0) _ _ _
  refine own_by (fun _ k => castTop (ef_22_1_2 m p0) k) ?_
  show own_Go _ _ _ _ _ _ _ (s₁.setTop (mkF m 0 #[.val (.ref p0)] []))
  refine own_by (fun _ kz => XS.aloadN X0.here hx rfl (hb hby d22_0) rfl rfl kz) ?_
  obtain ⟨T1, X1, e1, st1⟩ := getF X0 hx hZ hown (host := "") (Or.inl (ow hw 168 rfl)) Via.refl e0 pm0 (g := (mkF m 1 #[.val (.ref p0)] [(.ref p0)])) rfl rfl (hb hby d22_1)
  refine own_by st1 ?_
  show own_Go _ _ _ _ _ _ _ (T1.setTop (mkF m 4 #[.val (.ref p0)] [(.int (1 : Int32))]))
  refine own_by (fun _ kz => XS.aloadN X1.here hx rfl (hb hby d22_4) rfl rfl kz) ?_
  obtain ⟨T2, X2, e2, st2⟩ := getF X1 hx hZ hown (host := "") (Or.inl (ow hw 151 rfl)) Via.refl e1 pm1 (g := (mkF m 5 #[.val (.ref p0)] [(.ref p0), (.int (1 : Int32))])) rfl rfl (hb hby d22_5)
  refine own_by st2 ?_
  show own_Go _ _ _ _ _ _ _ (T2.setTop (mkF m 8 #[.val (.ref p0)] [(.ref a), (.int (1 : Int32))]))
  obtain ⟨T3, X3, e3, st3⟩ := getF X2 hx hZ hown (host := "java/util/ArrayList") (Or.inr (ow hw 170 rfl)) Via.refl e2 pm2 (g := (mkF m 8 #[.val (.ref p0)] [(.ref a), (.int (1 : Int32))])) rfl rfl (hb hby d22_8)
  refine own_by st3 ?_
  show own_Go _ _ _ _ _ _ _ (T3.setTop (mkF m 11 #[.val (.ref p0)] [(.int (2 : Int32)), (.int (1 : Int32))]))
  refine own_by (fun _ kz => XS.icmpNo X3.here hx rfl (hb hby d22_11) rfl (feq (by decide : ¬ ((1 : Int32) = (2 : Int32)))).1 kz) ?_
  show own_Go _ _ _ _ _ _ _ (T3.setTop (mkF m 14 #[.val (.ref p0)] []))
  refine own_by (fun _ kz => XS.iconst X3.here hx rfl (hb hby d22_14) kz) ?_
  show own_Go _ _ _ _ _ _ _ (T3.setTop (mkF m 15 #[.val (.ref p0)] [(.int (1 : Int32))]))
  refine own_by (fun _ kz => XS.goto X3.here hx rfl (pc0 := 15) (pc' := 19) rfl (hb hby d22_15) (by decide) (by decide) kz) ?_
  show own_Go _ _ _ _ _ _ _ (T3.setTop (mkF m 19 #[.val (.ref p0)] [(.int (1 : Int32))]))
  exact own_retZ X3 hx hlk Bd.returns (hb hby d22_19) (by decide) (by decide) ⟨rfl, N0, e3⟩
theorem ef_23_1_2 (m : MethodId) (p0 : Addr) : entryFrame m #[(.ref p0)] 3 = mkF m 0 #[.val (.ref p0), .unset, .unset] [] := by first | (simp [entryFrame, mkF, argsToLocals, Value.category]; done) | rfl
def Q23_1_2 (Z : State) (p0 : Addr) (a : Addr) (mc : Int32) (ea : Addr) (kA : ClassId) (d1 : Addr) (d2 : Addr) (h0 : Heap) (n0 : Nat) (v : Option Value) (h : Heap) (L : List Loc) : Prop := v = some (.ref d2) ∧ Fr n0 L ∧ Keep h0 h [p0] ∧ Fld Z h p0 "java/util/ArrayList$Itr" "this$0" "Ljava/util/ArrayList;" (.ref a) ∧ Fld Z h p0 "java/util/ArrayList$Itr" "cursor" "I" (.int (2 : Int32)) ∧ Fld Z h p0 "java/util/ArrayList$Itr" "lastRet" "I" (.int (1 : Int32)) ∧ Fld Z h p0 "java/util/ArrayList$Itr" "expectedModCount" "I" (.int mc)
theorem rm23_1_2 (l : Launch) (Z : State) (a0 : Array Value) (hw : ∀ d ∈ tables_1, d.before a0 Z = true) (ws : List Jvm.Cond) (p0 : Addr) (h0 : Heap) (n0 : Nat) (Z0 : n0 ≤ h0.size) (a : Addr) (mc : Int32) (ea : Addr) (kA : ClassId) (d1 : Addr) (d2 : Addr) (pm0 : Exa Z h0 p0 "java/util/ArrayList$Itr") (pm1 : Fld Z h0 p0 "java/util/ArrayList$Itr" "this$0" "Ljava/util/ArrayList;" (.ref a)) (pm2 : Fld Z h0 p0 "java/util/ArrayList$Itr" "cursor" "I" (.int (1 : Int32))) (pm3 : Fld Z h0 p0 "java/util/ArrayList$Itr" "lastRet" "I" (.int (0 : Int32))) (pm4 : Fld Z h0 p0 "java/util/ArrayList$Itr" "expectedModCount" "I" (.int mc)) (pm5 : Fld Z h0 a "java/util/AbstractList" "modCount" "I" (.int mc)) (pm6 : Fld Z h0 a "java/util/ArrayList" "size" "I" (.int (2 : Int32))) (pm7 : Fld Z h0 a "java/util/ArrayList" "elementData" "[Ljava/lang/Object;" (.ref ea)) (pm8 : Arv Z h0 ea kA (.object "java/lang/Object") (10 : Int32) [(.ref d1), (.ref d2), .null, .null, .null, .null, .null, .null, .null, .null] .null) (pm9 : a ≠ p0) (pm10 : ea ≠ p0) (pm11 : n0 ≤ p0) :
    own_Met l Z (⟨"java/util/ArrayList$Itr", "next", "()Ljava/lang/Object;"⟩ : MethodName) jdk_49_method_3_code 3 (some (.object "java/lang/Object")) ws ({ frames := 1, cells := 0, slots := 0, locals := 12 } : Room) #[(.ref p0)] h0 (Q23_1_2 Z p0 a mc ea kA d1 d2 h0 n0) := by
  refine MetFree.of_bodySF pf_23 hisR ?_
  intro p e s m args below meth c s₁ Bd hml0 hP hK
  obtain ⟨rfl, hZ, hh⟩ := hP
  have hx := Bd.exec
  have hby := Bd.bytes
  have hlk : meth.locks = false := BodyLoose.notSynchronized Bd
  have hml : c.maxLocals = 3 := hml0
  have hown : s.vm.findClass "java/util/ArrayList$Itr" = some m.cls := findClass_of_methodNamed Bd.named
  have hnm := (name_of_methodNamed Bd.named Bd.method).1
  have X0 : Stand p l e ({ frames := 1, cells := 0, slots := 0, locals := 12 } : Room) s m #[(.ref p0)] below meth c s₁ [] 0 0 := Stand.of_body Bd
  have e0 : s₁.heap = h0 := by rw [← hh, Bd.state]; rfl
  have N0 := Fr.nil n0
  have K0 := Keep.refl h0 [p0]
  show own_Go _ _ _ _ (Q23_1_2 Z p0 a mc ea kA d1 d2 h0 n0) _ _ _
  refine own_by (fun _ k => castTop (ef_23_1_2 m p0) k) ?_
  show own_Go _ _ _ _ _ _ _ (s₁.setTop (mkF m 0 #[.val (.ref p0), .unset, .unset] []))
  refine own_by (fun _ kz => XS.aloadN X0.here hx rfl (hb hby d23_0) rfl rfl kz) ?_
  show own_Go _ _ _ _ _ _ _ (s₁.setTop (mkF m 1 #[.val (.ref p0), .unset, .unset] [(.ref p0)]))
  obtain ⟨v1, T1, L1, X1, q1, st1⟩ := own_callV X0 hx hZ hown (ow hw 179 rfl) (ow hw 180 rfl) (ow hw 182 rfl) (ow hw 181 rfl) (ow hw 146 rfl) (ow hw 183 rfl) (by decide) (rm24 l Z a0 hw [] p0 h0 n0 Z0 a mc pm1 pm5 pm4) (W := 0) (by decide) (by decide) e0 pm0 (g := (mkF m 1 #[.val (.ref p0), .unset, .unset] [(.ref p0)])) rfl (by rw [hml]; rfl) (argsL := []) (rest := []) (lenOf pd_24 rfl) rfl rfl (by show 2 * 0 + _ ≤ _; exact Nat.le_of_eq rfl) (hb hby d23_1) (by decide) (by decide)
  obtain ⟨rfl, Nq1, hh1⟩ := q1
  have N1 := Fr.app N0 Nq1
  refine own_by st1 ?_
  show own_Go _ _ _ _ _ _ _ (T1.setTop (mkF m 4 #[.val (.ref p0), .unset, .unset] []))
  refine own_by (fun _ kz => XS.aloadN X1.here hx rfl (hb hby d23_4) rfl rfl kz) ?_
  obtain ⟨T2, X2, e2, st2⟩ := getF X1 hx hZ hown (host := "") (Or.inl (ow hw 168 rfl)) Via.refl hh1 pm2 (g := (mkF m 5 #[.val (.ref p0), .unset, .unset] [(.ref p0)])) rfl rfl (hb hby d23_5)
  refine own_by st2 ?_
  show own_Go _ _ _ _ _ _ _ (T2.setTop (mkF m 8 #[.val (.ref p0), .unset, .unset] [(.int (1 : Int32))]))
  refine own_by (fun _ kz => XS.istoreN X2.here hx rfl (hb hby d23_8) rfl (l' := #[.val (.ref p0), .val (.int (1 : Int32)), .unset]) rfl kz) ?_
  show own_Go _ _ _ _ _ _ _ (T2.setTop (mkF m 9 #[.val (.ref p0), .val (.int (1 : Int32)), .unset] []))
  refine own_by (fun _ kz => XS.iloadN X2.here hx rfl (hb hby d23_9) rfl kz) ?_
  refine own_by (fun _ kz => XS.aloadN X2.here hx rfl (hb hby d23_10) rfl rfl kz) ?_
  obtain ⟨T3, X3, e3, st3⟩ := getF X2 hx hZ hown (host := "") (Or.inl (ow hw 151 rfl)) Via.refl e2 pm1 (g := (mkF m 11 #[.val (.ref p0), .val (.int (1 : Int32)), .unset] [(.ref p0), (.int (1 : Int32))])) rfl rfl (hb hby d23_11)
  refine own_by st3 ?_
  show own_Go _ _ _ _ _ _ _ (T3.setTop (mkF m 14 #[.val (.ref p0), .val (.int (1 : Int32)), .unset] [(.ref a), (.int (1 : Int32))]))
  obtain ⟨T4, X4, e4, st4⟩ := getF X3 hx hZ hown (host := "java/util/ArrayList") (Or.inr (ow hw 170 rfl)) Via.refl e3 pm6 (g := (mkF m 14 #[.val (.ref p0), .val (.int (1 : Int32)), .unset] [(.ref a), (.int (1 : Int32))])) rfl rfl (hb hby d23_14)
  refine own_by st4 ?_
  show own_Go _ _ _ _ _ _ _ (T4.setTop (mkF m 17 #[.val (.ref p0), .val (.int (1 : Int32)), .unset] [(.int (2 : Int32)), (.int (1 : Int32))]))
  refine own_by (fun _ kz => XS.icmpYes X4.here hx rfl (pc0 := 17) (pc' := 28) rfl (hb hby d23_17) rfl (tlt (by decide : ((1 : Int32) < (2 : Int32)))).1 (by decide) (by decide) kz) ?_
  show own_Go _ _ _ _ _ _ _ (T4.setTop (mkF m 28 #[.val (.ref p0), .val (.int (1 : Int32)), .unset] []))
  refine own_by (fun _ kz => XS.aloadN X4.here hx rfl (hb hby d23_28) rfl rfl kz) ?_
  obtain ⟨T5, X5, e5, st5⟩ := getF X4 hx hZ hown (host := "") (Or.inl (ow hw 151 rfl)) Via.refl e4 pm1 (g := (mkF m 29 #[.val (.ref p0), .val (.int (1 : Int32)), .unset] [(.ref p0)])) rfl rfl (hb hby d23_29)
  refine own_by st5 ?_
  show own_Go _ _ _ _ _ _ _ (T5.setTop (mkF m 32 #[.val (.ref p0), .val (.int (1 : Int32)), .unset] [(.ref a)]))
  obtain ⟨T6, X6, e6, st6⟩ := getF X5 hx hZ hown (host := "") (Or.inl (ow hw 184 rfl)) Via.refl e5 pm7 (g := (mkF m 32 #[.val (.ref p0), .val (.int (1 : Int32)), .unset] [(.ref a)])) rfl rfl (hb hby d23_32)
  refine own_by st6 ?_
  show own_Go _ _ _ _ _ _ _ (T6.setTop (mkF m 35 #[.val (.ref p0), .val (.int (1 : Int32)), .unset] [(.ref ea)]))
  refine own_by (fun _ kz => XS.astoreN X6.here hx rfl (hb hby d23_35) rfl rfl (l' := #[.val (.ref p0), .val (.int (1 : Int32)), .val (.ref ea)]) rfl kz) ?_
  show own_Go _ _ _ _ _ _ _ (T6.setTop (mkF m 36 #[.val (.ref p0), .val (.int (1 : Int32)), .val (.ref ea)] []))
  refine own_by (fun _ kz => XS.iloadN X6.here hx rfl (hb hby d23_36) rfl kz) ?_
  refine own_by (fun _ kz => XS.aloadN X6.here hx rfl (hb hby d23_37) rfl rfl kz) ?_
  show own_Go _ _ _ _ _ _ _ (T6.setTop (mkF m 38 #[.val (.ref p0), .val (.int (1 : Int32)), .val (.ref ea)] [(.ref ea), (.int (1 : Int32))]))
  refine own_by (fun _ kz => own_len X6 hx hZ e6 pm8 (g := (mkF m 38 #[.val (.ref p0), .val (.int (1 : Int32)), .val (.ref ea)] [(.ref ea), (.int (1 : Int32))])) rfl rfl (hb hby d23_38) _ kz) ?_
  show own_Go _ _ _ _ _ _ _ (T6.setTop (mkF m 39 #[.val (.ref p0), .val (.int (1 : Int32)), .val (.ref ea)] [(.int (10 : Int32)), (.int (1 : Int32))]))
  refine own_by (fun _ kz => XS.icmpYes X6.here hx rfl (pc0 := 39) (pc' := 50) rfl (hb hby d23_39) rfl (tlt (by decide : ((1 : Int32) < (10 : Int32)))).1 (by decide) (by decide) kz) ?_
  show own_Go _ _ _ _ _ _ _ (T6.setTop (mkF m 50 #[.val (.ref p0), .val (.int (1 : Int32)), .val (.ref ea)] []))
  refine own_by (fun _ kz => XS.aloadN X6.here hx rfl (hb hby d23_50) rfl rfl kz) ?_
  refine own_by (fun _ kz => XS.iloadN X6.here hx rfl (hb hby d23_51) rfl kz) ?_
  refine own_by (fun _ kz => XS.iconst X6.here hx rfl (hb hby d23_52) kz) ?_
  show own_Go _ _ _ _ _ _ _ (T6.setTop (mkF m 53 #[.val (.ref p0), .val (.int (1 : Int32)), .val (.ref ea)] [(.int (1 : Int32)), (.int (1 : Int32)), (.ref p0)]))
  refine own_by (fun _ kz => XS.iadd X6.here hx rfl (hb hby d23_53) rfl kz) ?_
  show own_Go _ _ _ _ _ _ _ (T6.setTop (mkF m 54 #[.val (.ref p0), .val (.int (1 : Int32)), .val (.ref ea)] [(.int (2 : Int32)), (.ref p0)]))
  obtain ⟨T7, h7, X7, e7, W7, st7⟩ := putF X6 hx hZ hown (host := "") (Or.inl (ow hw 168 rfl)) Via.refl e6 pm2 pm0 (Or.inl (ow hw 169 rfl)) (ow hw 145 rfl) (ty := .int) (by decide) rfl rfl (g := (mkF m 54 #[.val (.ref p0), .val (.int (1 : Int32)), .val (.ref ea)] [(.int (2 : Int32)), (.ref p0)])) rfl rfl (hb hby d23_54)
  have N7 := Fr.snoc X7 N1 pm11
  have Z7 : n0 ≤ h7.size := by rw [W7.size]; exact Z0
  have K7 := K0.wr W7 (Or.inl (List.mem_of_getElem? (i := 0) rfl))
  have pm0_h7 := pm0.wr W7
  have pm1_h7 := pm1.other W7 (Or.inr (slot_ne (Or.inr (ow hw 152 rfl)) (Or.inl (ow hw 169 rfl)) (by decide) (by decide : parseFieldDescriptor "Ljava/util/ArrayList;" = some (.object "java/util/ArrayList")) (by decide : parseFieldDescriptor "I" = some .int)))
  have pm2_h7 := pm2.same W7
  have pm3_h7 := pm3.other W7 (Or.inr (slot_ne (Or.inl (ow hw 155 rfl)) (Or.inl (ow hw 169 rfl)) (by decide) (by decide : parseFieldDescriptor "I" = some .int) (by decide : parseFieldDescriptor "I" = some .int)))
  have pm4_h7 := pm4.other W7 (Or.inr (slot_ne (Or.inl (ow hw 158 rfl)) (Or.inl (ow hw 169 rfl)) (by decide) (by decide : parseFieldDescriptor "I" = some .int) (by decide : parseFieldDescriptor "I" = some .int)))
  have pm5_h7 := pm5.other W7 (Or.inl pm9)
  have pm6_h7 := pm6.other W7 (Or.inl pm9)
  have pm7_h7 := pm7.other W7 (Or.inl pm9)
  have pm8_h7 := pm8.other W7 pm10
  refine own_by st7 ?_
  show own_Go _ _ _ _ _ _ _ (T7.setTop (mkF m 57 #[.val (.ref p0), .val (.int (1 : Int32)), .val (.ref ea)] []))
  refine own_by (fun _ kz => XS.aloadN X7.here hx rfl (hb hby d23_57) rfl rfl kz) ?_
  refine own_by (fun _ kz => XS.aloadN X7.here hx rfl (hb hby d23_58) rfl rfl kz) ?_
  refine own_by (fun _ kz => XS.iloadN X7.here hx rfl (hb hby d23_59) rfl kz) ?_
  show own_Go _ _ _ _ _ _ _ (T7.setTop (mkF m 60 #[.val (.ref p0), .val (.int (1 : Int32)), .val (.ref ea)] [(.int (1 : Int32)), (.ref p0), (.ref ea)]))
  refine own_by (fun _ kz => XS.dupX1 X7.here hx rfl (hb hby d23_60) rfl rfl rfl kz) ?_
  show own_Go _ _ _ _ _ _ _ (T7.setTop (mkF m 61 #[.val (.ref p0), .val (.int (1 : Int32)), .val (.ref ea)] [(.int (1 : Int32)), (.ref p0), (.int (1 : Int32)), (.ref ea)]))
  obtain ⟨T8, h8, X8, e8, W8, st8⟩ := putF X7 hx hZ hown (host := "") (Or.inl (ow hw 154 rfl)) Via.refl e7 pm3_h7 pm0_h7 (Or.inl (ow hw 155 rfl)) (ow hw 145 rfl) (ty := .int) (by decide) rfl rfl (g := (mkF m 61 #[.val (.ref p0), .val (.int (1 : Int32)), .val (.ref ea)] [(.int (1 : Int32)), (.ref p0), (.int (1 : Int32)), (.ref ea)])) rfl rfl (hb hby d23_61)
  have N8 := Fr.snoc X8 N7 pm11
  have Z8 : n0 ≤ h8.size := by rw [W8.size]; exact Z7
  have K8 := K7.wr W8 (Or.inl (List.mem_of_getElem? (i := 0) rfl))
  have pm0_h8 := pm0_h7.wr W8
  have pm1_h8 := pm1_h7.other W8 (Or.inr (slot_ne (Or.inr (ow hw 152 rfl)) (Or.inl (ow hw 155 rfl)) (by decide) (by decide : parseFieldDescriptor "Ljava/util/ArrayList;" = some (.object "java/util/ArrayList")) (by decide : parseFieldDescriptor "I" = some .int)))
  have pm2_h8 := pm2_h7.other W8 (Or.inr (slot_ne (Or.inl (ow hw 169 rfl)) (Or.inl (ow hw 155 rfl)) (by decide) (by decide : parseFieldDescriptor "I" = some .int) (by decide : parseFieldDescriptor "I" = some .int)))
  have pm3_h8 := pm3_h7.same W8
  have pm4_h8 := pm4_h7.other W8 (Or.inr (slot_ne (Or.inl (ow hw 158 rfl)) (Or.inl (ow hw 155 rfl)) (by decide) (by decide : parseFieldDescriptor "I" = some .int) (by decide : parseFieldDescriptor "I" = some .int)))
  have pm5_h8 := pm5_h7.other W8 (Or.inl pm9)
  have pm6_h8 := pm6_h7.other W8 (Or.inl pm9)
  have pm7_h8 := pm7_h7.other W8 (Or.inl pm9)
  have pm8_h8 := pm8_h7.other W8 pm10
  refine own_by st8 ?_
  show own_Go _ _ _ _ _ _ _ (T8.setTop (mkF m 64 #[.val (.ref p0), .val (.int (1 : Int32)), .val (.ref ea)] [(.int (1 : Int32)), (.ref ea)]))
  refine own_by (fun _ kz => own_ldA X8 hx hZ e8 pm8_h8 rfl (j := (1 : Int32)) ⟨by decide, by decide⟩ (v := (.ref d2)) rfl (g := (mkF m 64 #[.val (.ref p0), .val (.int (1 : Int32)), .val (.ref ea)] [(.int (1 : Int32)), (.ref ea)])) rfl rfl (hb hby d23_64) _ kz) ?_
  show own_Go _ _ _ _ _ _ _ (T8.setTop (mkF m 65 #[.val (.ref p0), .val (.int (1 : Int32)), .val (.ref ea)] [(.ref d2)]))
  exact own_retA X8 hx hlk Bd.returns rfl (hb hby d23_65) (by decide) (by decide) ⟨rfl, N8, by rw [e8]; exact K8, by rw [e8]; exact pm1_h8, by rw [e8]; exact pm2_h8, by rw [e8]; exact pm3_h8, by rw [e8]; exact pm4_h8⟩
theorem ef_22_2_2 (m : MethodId) (p0 : Addr) : entryFrame m #[(.ref p0)] 1 = mkF m 0 #[.val (.ref p0)] [] := by first | (simp [entryFrame, mkF, argsToLocals, Value.category]; done) | rfl
def Q22_2_2 (Z : State) (p0 : Addr) (a : Addr) (h0 : Heap) (n0 : Nat) (v : Option Value) (h : Heap) (L : List Loc) : Prop := v = some (.int (0 : Int32)) ∧ Fr n0 L ∧ h = h0
theorem rm22_2_2 (l : Launch) (Z : State) (a0 : Array Value) (hw : ∀ d ∈ tables_1, d.before a0 Z = true) (ws : List Jvm.Cond) (p0 : Addr) (h0 : Heap) (n0 : Nat) (Z0 : n0 ≤ h0.size) (a : Addr) (pm0 : Fld Z h0 p0 "java/util/ArrayList$Itr" "cursor" "I" (.int (2 : Int32))) (pm1 : Fld Z h0 p0 "java/util/ArrayList$Itr" "this$0" "Ljava/util/ArrayList;" (.ref a)) (pm2 : Fld Z h0 a "java/util/ArrayList" "size" "I" (.int (2 : Int32))) :
    own_Met l Z (⟨"java/util/ArrayList$Itr", "hasNext", "()Z"⟩ : MethodName) jdk_49_method_2_code 1 (some .boolean) ws ({ frames := 0, cells := 0, slots := 0, locals := 0 } : Room) #[(.ref p0)] h0 (Q22_2_2 Z p0 a h0 n0) := by
  refine MetFree.of_bodySF pf_22 hisR ?_
  intro p e s m args below meth c s₁ Bd hml0 hP hK
  obtain ⟨rfl, hZ, hh⟩ := hP
  have hx := Bd.exec
  have hby := Bd.bytes
  have hlk : meth.locks = false := BodyLoose.notSynchronized Bd
  have hml : c.maxLocals = 1 := hml0
  have hown : s.vm.findClass "java/util/ArrayList$Itr" = some m.cls := findClass_of_methodNamed Bd.named
  have hnm := (name_of_methodNamed Bd.named Bd.method).1
  have X0 : Stand p l e ({ frames := 0, cells := 0, slots := 0, locals := 0 } : Room) s m #[(.ref p0)] below meth c s₁ [] 0 0 := Stand.of_body Bd
  have e0 : s₁.heap = h0 := by rw [← hh, Bd.state]; rfl
  have N0 := Fr.nil n0
  show own_Go _ _ _ _ (Q22_2_2 Z p0 a h0 n0) _ _ _
  refine own_by (fun _ k => castTop (ef_22_2_2 m p0) k) ?_
  show own_Go _ _ _ _ _ _ _ (s₁.setTop (mkF m 0 #[.val (.ref p0)] []))
  refine own_by (fun _ kz => XS.aloadN X0.here hx rfl (hb hby d22_0) rfl rfl kz) ?_
  obtain ⟨T1, X1, e1, st1⟩ := getF X0 hx hZ hown (host := "") (Or.inl (ow hw 168 rfl)) Via.refl e0 pm0 (g := (mkF m 1 #[.val (.ref p0)] [(.ref p0)])) rfl rfl (hb hby d22_1)
  refine own_by st1 ?_
  show own_Go _ _ _ _ _ _ _ (T1.setTop (mkF m 4 #[.val (.ref p0)] [(.int (2 : Int32))]))
  refine own_by (fun _ kz => XS.aloadN X1.here hx rfl (hb hby d22_4) rfl rfl kz) ?_
  obtain ⟨T2, X2, e2, st2⟩ := getF X1 hx hZ hown (host := "") (Or.inl (ow hw 151 rfl)) Via.refl e1 pm1 (g := (mkF m 5 #[.val (.ref p0)] [(.ref p0), (.int (2 : Int32))])) rfl rfl (hb hby d22_5)
  refine own_by st2 ?_
  show own_Go _ _ _ _ _ _ _ (T2.setTop (mkF m 8 #[.val (.ref p0)] [(.ref a), (.int (2 : Int32))]))
  obtain ⟨T3, X3, e3, st3⟩ := getF X2 hx hZ hown (host := "java/util/ArrayList") (Or.inr (ow hw 170 rfl)) Via.refl e2 pm2 (g := (mkF m 8 #[.val (.ref p0)] [(.ref a), (.int (2 : Int32))])) rfl rfl (hb hby d22_8)
  refine own_by st3 ?_
  show own_Go _ _ _ _ _ _ _ (T3.setTop (mkF m 11 #[.val (.ref p0)] [(.int (2 : Int32)), (.int (2 : Int32))]))
  refine own_by (fun _ kz => XS.icmpYes X3.here hx rfl (pc0 := 11) (pc' := 18) rfl (hb hby d22_11) rfl (teq (by decide : ((2 : Int32) = (2 : Int32)))).1 (by decide) (by decide) kz) ?_
  show own_Go _ _ _ _ _ _ _ (T3.setTop (mkF m 18 #[.val (.ref p0)] []))
  refine own_by (fun _ kz => XS.iconst X3.here hx rfl (hb hby d22_18) kz) ?_
  show own_Go _ _ _ _ _ _ _ (T3.setTop (mkF m 19 #[.val (.ref p0)] [(.int (0 : Int32))]))
  exact own_retZ X3 hx hlk Bd.returns (hb hby d22_19) (by decide) (by decide) ⟨rfl, N0, e3⟩
theorem ef_22_0_3 (m : MethodId) (p0 : Addr) : entryFrame m #[(.ref p0)] 1 = mkF m 0 #[.val (.ref p0)] [] := by first | (simp [entryFrame, mkF, argsToLocals, Value.category]; done) | rfl
def Q22_0_3 (Z : State) (p0 : Addr) (a : Addr) (h0 : Heap) (n0 : Nat) (v : Option Value) (h : Heap) (L : List Loc) : Prop := v = some (.int (1 : Int32)) ∧ Fr n0 L ∧ h = h0
theorem rm22_0_3 (l : Launch) (Z : State) (a0 : Array Value) (hw : ∀ d ∈ tables_1, d.before a0 Z = true) (ws : List Jvm.Cond) (p0 : Addr) (h0 : Heap) (n0 : Nat) (Z0 : n0 ≤ h0.size) (a : Addr) (pm0 : Fld Z h0 p0 "java/util/ArrayList$Itr" "cursor" "I" (.int (0 : Int32))) (pm1 : Fld Z h0 p0 "java/util/ArrayList$Itr" "this$0" "Ljava/util/ArrayList;" (.ref a)) (pm2 : Fld Z h0 a "java/util/ArrayList" "size" "I" (.int (3 : Int32))) :
    own_Met l Z (⟨"java/util/ArrayList$Itr", "hasNext", "()Z"⟩ : MethodName) jdk_49_method_2_code 1 (some .boolean) ws ({ frames := 0, cells := 0, slots := 0, locals := 0 } : Room) #[(.ref p0)] h0 (Q22_0_3 Z p0 a h0 n0) := by
  refine MetFree.of_bodySF pf_22 hisR ?_
  intro p e s m args below meth c s₁ Bd hml0 hP hK
  obtain ⟨rfl, hZ, hh⟩ := hP
  have hx := Bd.exec
  have hby := Bd.bytes
  have hlk : meth.locks = false := BodyLoose.notSynchronized Bd
  have hml : c.maxLocals = 1 := hml0
  have hown : s.vm.findClass "java/util/ArrayList$Itr" = some m.cls := findClass_of_methodNamed Bd.named
  have hnm := (name_of_methodNamed Bd.named Bd.method).1
  have X0 : Stand p l e ({ frames := 0, cells := 0, slots := 0, locals := 0 } : Room) s m #[(.ref p0)] below meth c s₁ [] 0 0 := Stand.of_body Bd
  have e0 : s₁.heap = h0 := by rw [← hh, Bd.state]; rfl
  have N0 := Fr.nil n0
  show own_Go _ _ _ _ (Q22_0_3 Z p0 a h0 n0) _ _ _
  refine own_by (fun _ k => castTop (ef_22_0_3 m p0) k) ?_
  show own_Go _ _ _ _ _ _ _ (s₁.setTop (mkF m 0 #[.val (.ref p0)] []))
  refine own_by (fun _ kz => XS.aloadN X0.here hx rfl (hb hby d22_0) rfl rfl kz) ?_
  obtain ⟨T1, X1, e1, st1⟩ := getF X0 hx hZ hown (host := "") (Or.inl (ow hw 168 rfl)) Via.refl e0 pm0 (g := (mkF m 1 #[.val (.ref p0)] [(.ref p0)])) rfl rfl (hb hby d22_1)
  refine own_by st1 ?_
  show own_Go _ _ _ _ _ _ _ (T1.setTop (mkF m 4 #[.val (.ref p0)] [(.int (0 : Int32))]))
  refine own_by (fun _ kz => XS.aloadN X1.here hx rfl (hb hby d22_4) rfl rfl kz) ?_
  obtain ⟨T2, X2, e2, st2⟩ := getF X1 hx hZ hown (host := "") (Or.inl (ow hw 151 rfl)) Via.refl e1 pm1 (g := (mkF m 5 #[.val (.ref p0)] [(.ref p0), (.int (0 : Int32))])) rfl rfl (hb hby d22_5)
  refine own_by st2 ?_
  show own_Go _ _ _ _ _ _ _ (T2.setTop (mkF m 8 #[.val (.ref p0)] [(.ref a), (.int (0 : Int32))]))
  obtain ⟨T3, X3, e3, st3⟩ := getF X2 hx hZ hown (host := "java/util/ArrayList") (Or.inr (ow hw 170 rfl)) Via.refl e2 pm2 (g := (mkF m 8 #[.val (.ref p0)] [(.ref a), (.int (0 : Int32))])) rfl rfl (hb hby d22_8)
  refine own_by st3 ?_
  show own_Go _ _ _ _ _ _ _ (T3.setTop (mkF m 11 #[.val (.ref p0)] [(.int (3 : Int32)), (.int (0 : Int32))]))
  refine own_by (fun _ kz => XS.icmpNo X3.here hx rfl (hb hby d22_11) rfl (feq (by decide : ¬ ((0 : Int32) = (3 : Int32)))).1 kz) ?_
  show own_Go _ _ _ _ _ _ _ (T3.setTop (mkF m 14 #[.val (.ref p0)] []))
  refine own_by (fun _ kz => XS.iconst X3.here hx rfl (hb hby d22_14) kz) ?_
  show own_Go _ _ _ _ _ _ _ (T3.setTop (mkF m 15 #[.val (.ref p0)] [(.int (1 : Int32))]))
  refine own_by (fun _ kz => XS.goto X3.here hx rfl (pc0 := 15) (pc' := 19) rfl (hb hby d22_15) (by decide) (by decide) kz) ?_
  show own_Go _ _ _ _ _ _ _ (T3.setTop (mkF m 19 #[.val (.ref p0)] [(.int (1 : Int32))]))
  exact own_retZ X3 hx hlk Bd.returns (hb hby d22_19) (by decide) (by decide) ⟨rfl, N0, e3⟩
theorem ef_23_0_3 (m : MethodId) (p0 : Addr) : entryFrame m #[(.ref p0)] 3 = mkF m 0 #[.val (.ref p0), .unset, .unset] [] := by first | (simp [entryFrame, mkF, argsToLocals, Value.category]; done) | rfl
def Q23_0_3 (Z : State) (p0 : Addr) (a : Addr) (mc : Int32) (ea : Addr) (kA : ClassId) (d1 : Addr) (d2 : Addr) (d3 : Addr) (h0 : Heap) (n0 : Nat) (v : Option Value) (h : Heap) (L : List Loc) : Prop := v = some (.ref d1) ∧ Fr n0 L ∧ Keep h0 h [p0] ∧ Fld Z h p0 "java/util/ArrayList$Itr" "this$0" "Ljava/util/ArrayList;" (.ref a) ∧ Fld Z h p0 "java/util/ArrayList$Itr" "cursor" "I" (.int (1 : Int32)) ∧ Fld Z h p0 "java/util/ArrayList$Itr" "lastRet" "I" (.int (0 : Int32)) ∧ Fld Z h p0 "java/util/ArrayList$Itr" "expectedModCount" "I" (.int mc)
theorem rm23_0_3 (l : Launch) (Z : State) (a0 : Array Value) (hw : ∀ d ∈ tables_1, d.before a0 Z = true) (ws : List Jvm.Cond) (p0 : Addr) (h0 : Heap) (n0 : Nat) (Z0 : n0 ≤ h0.size) (a : Addr) (mc : Int32) (ea : Addr) (kA : ClassId) (d1 : Addr) (d2 : Addr) (d3 : Addr) (pm0 : Exa Z h0 p0 "java/util/ArrayList$Itr") (pm1 : Fld Z h0 p0 "java/util/ArrayList$Itr" "this$0" "Ljava/util/ArrayList;" (.ref a)) (pm2 : Fld Z h0 p0 "java/util/ArrayList$Itr" "cursor" "I" (.int (0 : Int32))) (pm3 : Fld Z h0 p0 "java/util/ArrayList$Itr" "lastRet" "I" (.int (-1 : Int32))) (pm4 : Fld Z h0 p0 "java/util/ArrayList$Itr" "expectedModCount" "I" (.int mc)) (pm5 : Fld Z h0 a "java/util/AbstractList" "modCount" "I" (.int mc)) (pm6 : Fld Z h0 a "java/util/ArrayList" "size" "I" (.int (3 : Int32))) (pm7 : Fld Z h0 a "java/util/ArrayList" "elementData" "[Ljava/lang/Object;" (.ref ea)) (pm8 : Arv Z h0 ea kA (.object "java/lang/Object") (10 : Int32) [(.ref d1), (.ref d2), (.ref d3), .null, .null, .null, .null, .null, .null, .null] .null) (pm9 : a ≠ p0) (pm10 : ea ≠ p0) (pm11 : n0 ≤ p0) :
    own_Met l Z (⟨"java/util/ArrayList$Itr", "next", "()Ljava/lang/Object;"⟩ : MethodName) jdk_49_method_3_code 3 (some (.object "java/lang/Object")) ws ({ frames := 1, cells := 0, slots := 0, locals := 12 } : Room) #[(.ref p0)] h0 (Q23_0_3 Z p0 a mc ea kA d1 d2 d3 h0 n0) := by
  refine MetFree.of_bodySF pf_23 hisR ?_
  intro p e s m args below meth c s₁ Bd hml0 hP hK
  obtain ⟨rfl, hZ, hh⟩ := hP
  have hx := Bd.exec
  have hby := Bd.bytes
  have hlk : meth.locks = false := BodyLoose.notSynchronized Bd
  have hml : c.maxLocals = 3 := hml0
  have hown : s.vm.findClass "java/util/ArrayList$Itr" = some m.cls := findClass_of_methodNamed Bd.named
  have hnm := (name_of_methodNamed Bd.named Bd.method).1
  have X0 : Stand p l e ({ frames := 1, cells := 0, slots := 0, locals := 12 } : Room) s m #[(.ref p0)] below meth c s₁ [] 0 0 := Stand.of_body Bd
  have e0 : s₁.heap = h0 := by rw [← hh, Bd.state]; rfl
  have N0 := Fr.nil n0
  have K0 := Keep.refl h0 [p0]
  show own_Go _ _ _ _ (Q23_0_3 Z p0 a mc ea kA d1 d2 d3 h0 n0) _ _ _
  refine own_by (fun _ k => castTop (ef_23_0_3 m p0) k) ?_
  show own_Go _ _ _ _ _ _ _ (s₁.setTop (mkF m 0 #[.val (.ref p0), .unset, .unset] []))
  refine own_by (fun _ kz => XS.aloadN X0.here hx rfl (hb hby d23_0) rfl rfl kz) ?_
  show own_Go _ _ _ _ _ _ _ (s₁.setTop (mkF m 1 #[.val (.ref p0), .unset, .unset] [(.ref p0)]))
  obtain ⟨v1, T1, L1, X1, q1, st1⟩ := own_callV X0 hx hZ hown (ow hw 179 rfl) (ow hw 180 rfl) (ow hw 182 rfl) (ow hw 181 rfl) (ow hw 146 rfl) (ow hw 183 rfl) (by decide) (rm24 l Z a0 hw [] p0 h0 n0 Z0 a mc pm1 pm5 pm4) (W := 0) (by decide) (by decide) e0 pm0 (g := (mkF m 1 #[.val (.ref p0), .unset, .unset] [(.ref p0)])) rfl (by rw [hml]; rfl) (argsL := []) (rest := []) (lenOf pd_24 rfl) rfl rfl (by show 2 * 0 + _ ≤ _; exact Nat.le_of_eq rfl) (hb hby d23_1) (by decide) (by decide)
  obtain ⟨rfl, Nq1, hh1⟩ := q1
  have N1 := Fr.app N0 Nq1
  refine own_by st1 ?_
  show own_Go _ _ _ _ _ _ _ (T1.setTop (mkF m 4 #[.val (.ref p0), .unset, .unset] []))
  refine own_by (fun _ kz => XS.aloadN X1.here hx rfl (hb hby d23_4) rfl rfl kz) ?_
  obtain ⟨T2, X2, e2, st2⟩ := getF X1 hx hZ hown (host := "") (Or.inl (ow hw 168 rfl)) Via.refl hh1 pm2 (g := (mkF m 5 #[.val (.ref p0), .unset, .unset] [(.ref p0)])) rfl rfl (hb hby d23_5)
  refine own_by st2 ?_
  show own_Go _ _ _ _ _ _ _ (T2.setTop (mkF m 8 #[.val (.ref p0), .unset, .unset] [(.int (0 : Int32))]))
  refine own_by (fun _ kz => XS.istoreN X2.here hx rfl (hb hby d23_8) rfl (l' := #[.val (.ref p0), .val (.int (0 : Int32)), .unset]) rfl kz) ?_
  show own_Go _ _ _ _ _ _ _ (T2.setTop (mkF m 9 #[.val (.ref p0), .val (.int (0 : Int32)), .unset] []))
  refine own_by (fun _ kz => XS.iloadN X2.here hx rfl (hb hby d23_9) rfl kz) ?_
  refine own_by (fun _ kz => XS.aloadN X2.here hx rfl (hb hby d23_10) rfl rfl kz) ?_
  obtain ⟨T3, X3, e3, st3⟩ := getF X2 hx hZ hown (host := "") (Or.inl (ow hw 151 rfl)) Via.refl e2 pm1 (g := (mkF m 11 #[.val (.ref p0), .val (.int (0 : Int32)), .unset] [(.ref p0), (.int (0 : Int32))])) rfl rfl (hb hby d23_11)
  refine own_by st3 ?_
  show own_Go _ _ _ _ _ _ _ (T3.setTop (mkF m 14 #[.val (.ref p0), .val (.int (0 : Int32)), .unset] [(.ref a), (.int (0 : Int32))]))
  obtain ⟨T4, X4, e4, st4⟩ := getF X3 hx hZ hown (host := "java/util/ArrayList") (Or.inr (ow hw 170 rfl)) Via.refl e3 pm6 (g := (mkF m 14 #[.val (.ref p0), .val (.int (0 : Int32)), .unset] [(.ref a), (.int (0 : Int32))])) rfl rfl (hb hby d23_14)
  refine own_by st4 ?_
  show own_Go _ _ _ _ _ _ _ (T4.setTop (mkF m 17 #[.val (.ref p0), .val (.int (0 : Int32)), .unset] [(.int (3 : Int32)), (.int (0 : Int32))]))
  refine own_by (fun _ kz => XS.icmpYes X4.here hx rfl (pc0 := 17) (pc' := 28) rfl (hb hby d23_17) rfl (tlt (by decide : ((0 : Int32) < (3 : Int32)))).1 (by decide) (by decide) kz) ?_
  show own_Go _ _ _ _ _ _ _ (T4.setTop (mkF m 28 #[.val (.ref p0), .val (.int (0 : Int32)), .unset] []))
  refine own_by (fun _ kz => XS.aloadN X4.here hx rfl (hb hby d23_28) rfl rfl kz) ?_
  obtain ⟨T5, X5, e5, st5⟩ := getF X4 hx hZ hown (host := "") (Or.inl (ow hw 151 rfl)) Via.refl e4 pm1 (g := (mkF m 29 #[.val (.ref p0), .val (.int (0 : Int32)), .unset] [(.ref p0)])) rfl rfl (hb hby d23_29)
  refine own_by st5 ?_
  show own_Go _ _ _ _ _ _ _ (T5.setTop (mkF m 32 #[.val (.ref p0), .val (.int (0 : Int32)), .unset] [(.ref a)]))
  obtain ⟨T6, X6, e6, st6⟩ := getF X5 hx hZ hown (host := "") (Or.inl (ow hw 184 rfl)) Via.refl e5 pm7 (g := (mkF m 32 #[.val (.ref p0), .val (.int (0 : Int32)), .unset] [(.ref a)])) rfl rfl (hb hby d23_32)
  refine own_by st6 ?_
  show own_Go _ _ _ _ _ _ _ (T6.setTop (mkF m 35 #[.val (.ref p0), .val (.int (0 : Int32)), .unset] [(.ref ea)]))
  refine own_by (fun _ kz => XS.astoreN X6.here hx rfl (hb hby d23_35) rfl rfl (l' := #[.val (.ref p0), .val (.int (0 : Int32)), .val (.ref ea)]) rfl kz) ?_
  show own_Go _ _ _ _ _ _ _ (T6.setTop (mkF m 36 #[.val (.ref p0), .val (.int (0 : Int32)), .val (.ref ea)] []))
  refine own_by (fun _ kz => XS.iloadN X6.here hx rfl (hb hby d23_36) rfl kz) ?_
  refine own_by (fun _ kz => XS.aloadN X6.here hx rfl (hb hby d23_37) rfl rfl kz) ?_
  show own_Go _ _ _ _ _ _ _ (T6.setTop (mkF m 38 #[.val (.ref p0), .val (.int (0 : Int32)), .val (.ref ea)] [(.ref ea), (.int (0 : Int32))]))
  refine own_by (fun _ kz => own_len X6 hx hZ e6 pm8 (g := (mkF m 38 #[.val (.ref p0), .val (.int (0 : Int32)), .val (.ref ea)] [(.ref ea), (.int (0 : Int32))])) rfl rfl (hb hby d23_38) _ kz) ?_
  show own_Go _ _ _ _ _ _ _ (T6.setTop (mkF m 39 #[.val (.ref p0), .val (.int (0 : Int32)), .val (.ref ea)] [(.int (10 : Int32)), (.int (0 : Int32))]))
  refine own_by (fun _ kz => XS.icmpYes X6.here hx rfl (pc0 := 39) (pc' := 50) rfl (hb hby d23_39) rfl (tlt (by decide : ((0 : Int32) < (10 : Int32)))).1 (by decide) (by decide) kz) ?_
  show own_Go _ _ _ _ _ _ _ (T6.setTop (mkF m 50 #[.val (.ref p0), .val (.int (0 : Int32)), .val (.ref ea)] []))
  refine own_by (fun _ kz => XS.aloadN X6.here hx rfl (hb hby d23_50) rfl rfl kz) ?_
  refine own_by (fun _ kz => XS.iloadN X6.here hx rfl (hb hby d23_51) rfl kz) ?_
  refine own_by (fun _ kz => XS.iconst X6.here hx rfl (hb hby d23_52) kz) ?_
  show own_Go _ _ _ _ _ _ _ (T6.setTop (mkF m 53 #[.val (.ref p0), .val (.int (0 : Int32)), .val (.ref ea)] [(.int (1 : Int32)), (.int (0 : Int32)), (.ref p0)]))
  refine own_by (fun _ kz => XS.iadd X6.here hx rfl (hb hby d23_53) rfl kz) ?_
  show own_Go _ _ _ _ _ _ _ (T6.setTop (mkF m 54 #[.val (.ref p0), .val (.int (0 : Int32)), .val (.ref ea)] [(.int (1 : Int32)), (.ref p0)]))
  obtain ⟨T7, h7, X7, e7, W7, st7⟩ := putF X6 hx hZ hown (host := "") (Or.inl (ow hw 168 rfl)) Via.refl e6 pm2 pm0 (Or.inl (ow hw 169 rfl)) (ow hw 145 rfl) (ty := .int) (by decide) rfl rfl (g := (mkF m 54 #[.val (.ref p0), .val (.int (0 : Int32)), .val (.ref ea)] [(.int (1 : Int32)), (.ref p0)])) rfl rfl (hb hby d23_54)
  have N7 := Fr.snoc X7 N1 pm11
  have Z7 : n0 ≤ h7.size := by rw [W7.size]; exact Z0
  have K7 := K0.wr W7 (Or.inl (List.mem_of_getElem? (i := 0) rfl))
  have pm0_h7 := pm0.wr W7
  have pm1_h7 := pm1.other W7 (Or.inr (slot_ne (Or.inr (ow hw 152 rfl)) (Or.inl (ow hw 169 rfl)) (by decide) (by decide : parseFieldDescriptor "Ljava/util/ArrayList;" = some (.object "java/util/ArrayList")) (by decide : parseFieldDescriptor "I" = some .int)))
  have pm2_h7 := pm2.same W7
  have pm3_h7 := pm3.other W7 (Or.inr (slot_ne (Or.inl (ow hw 155 rfl)) (Or.inl (ow hw 169 rfl)) (by decide) (by decide : parseFieldDescriptor "I" = some .int) (by decide : parseFieldDescriptor "I" = some .int)))
  have pm4_h7 := pm4.other W7 (Or.inr (slot_ne (Or.inl (ow hw 158 rfl)) (Or.inl (ow hw 169 rfl)) (by decide) (by decide : parseFieldDescriptor "I" = some .int) (by decide : parseFieldDescriptor "I" = some .int)))
  have pm5_h7 := pm5.other W7 (Or.inl pm9)
  have pm6_h7 := pm6.other W7 (Or.inl pm9)
  have pm7_h7 := pm7.other W7 (Or.inl pm9)
  have pm8_h7 := pm8.other W7 pm10
  refine own_by st7 ?_
  show own_Go _ _ _ _ _ _ _ (T7.setTop (mkF m 57 #[.val (.ref p0), .val (.int (0 : Int32)), .val (.ref ea)] []))
  refine own_by (fun _ kz => XS.aloadN X7.here hx rfl (hb hby d23_57) rfl rfl kz) ?_
  refine own_by (fun _ kz => XS.aloadN X7.here hx rfl (hb hby d23_58) rfl rfl kz) ?_
  refine own_by (fun _ kz => XS.iloadN X7.here hx rfl (hb hby d23_59) rfl kz) ?_
  show own_Go _ _ _ _ _ _ _ (T7.setTop (mkF m 60 #[.val (.ref p0), .val (.int (0 : Int32)), .val (.ref ea)] [(.int (0 : Int32)), (.ref p0), (.ref ea)]))
  refine own_by (fun _ kz => XS.dupX1 X7.here hx rfl (hb hby d23_60) rfl rfl rfl kz) ?_
  show own_Go _ _ _ _ _ _ _ (T7.setTop (mkF m 61 #[.val (.ref p0), .val (.int (0 : Int32)), .val (.ref ea)] [(.int (0 : Int32)), (.ref p0), (.int (0 : Int32)), (.ref ea)]))
  obtain ⟨T8, h8, X8, e8, W8, st8⟩ := putF X7 hx hZ hown (host := "") (Or.inl (ow hw 154 rfl)) Via.refl e7 pm3_h7 pm0_h7 (Or.inl (ow hw 155 rfl)) (ow hw 145 rfl) (ty := .int) (by decide) rfl rfl (g := (mkF m 61 #[.val (.ref p0), .val (.int (0 : Int32)), .val (.ref ea)] [(.int (0 : Int32)), (.ref p0), (.int (0 : Int32)), (.ref ea)])) rfl rfl (hb hby d23_61)
  have N8 := Fr.snoc X8 N7 pm11
  have Z8 : n0 ≤ h8.size := by rw [W8.size]; exact Z7
  have K8 := K7.wr W8 (Or.inl (List.mem_of_getElem? (i := 0) rfl))
  have pm0_h8 := pm0_h7.wr W8
  have pm1_h8 := pm1_h7.other W8 (Or.inr (slot_ne (Or.inr (ow hw 152 rfl)) (Or.inl (ow hw 155 rfl)) (by decide) (by decide : parseFieldDescriptor "Ljava/util/ArrayList;" = some (.object "java/util/ArrayList")) (by decide : parseFieldDescriptor "I" = some .int)))
  have pm2_h8 := pm2_h7.other W8 (Or.inr (slot_ne (Or.inl (ow hw 169 rfl)) (Or.inl (ow hw 155 rfl)) (by decide) (by decide : parseFieldDescriptor "I" = some .int) (by decide : parseFieldDescriptor "I" = some .int)))
  have pm3_h8 := pm3_h7.same W8
  have pm4_h8 := pm4_h7.other W8 (Or.inr (slot_ne (Or.inl (ow hw 158 rfl)) (Or.inl (ow hw 155 rfl)) (by decide) (by decide : parseFieldDescriptor "I" = some .int) (by decide : parseFieldDescriptor "I" = some .int)))
  have pm5_h8 := pm5_h7.other W8 (Or.inl pm9)
  have pm6_h8 := pm6_h7.other W8 (Or.inl pm9)
  have pm7_h8 := pm7_h7.other W8 (Or.inl pm9)
  have pm8_h8 := pm8_h7.other W8 pm10
  refine own_by st8 ?_
  show own_Go _ _ _ _ _ _ _ (T8.setTop (mkF m 64 #[.val (.ref p0), .val (.int (0 : Int32)), .val (.ref ea)] [(.int (0 : Int32)), (.ref ea)]))
  refine own_by (fun _ kz => own_ldA X8 hx hZ e8 pm8_h8 rfl (j := (0 : Int32)) ⟨by decide, by decide⟩ (v := (.ref d1)) rfl (g := (mkF m 64 #[.val (.ref p0), .val (.int (0 : Int32)), .val (.ref ea)] [(.int (0 : Int32)), (.ref ea)])) rfl rfl (hb hby d23_64) _ kz) ?_
  show own_Go _ _ _ _ _ _ _ (T8.setTop (mkF m 65 #[.val (.ref p0), .val (.int (0 : Int32)), .val (.ref ea)] [(.ref d1)]))
  exact own_retA X8 hx hlk Bd.returns rfl (hb hby d23_65) (by decide) (by decide) ⟨rfl, N8, by rw [e8]; exact K8, by rw [e8]; exact pm1_h8, by rw [e8]; exact pm2_h8, by rw [e8]; exact pm3_h8, by rw [e8]; exact pm4_h8⟩
theorem ef_22_1_3 (m : MethodId) (p0 : Addr) : entryFrame m #[(.ref p0)] 1 = mkF m 0 #[.val (.ref p0)] [] := by first | (simp [entryFrame, mkF, argsToLocals, Value.category]; done) | rfl
def Q22_1_3 (Z : State) (p0 : Addr) (a : Addr) (h0 : Heap) (n0 : Nat) (v : Option Value) (h : Heap) (L : List Loc) : Prop := v = some (.int (1 : Int32)) ∧ Fr n0 L ∧ h = h0
theorem rm22_1_3 (l : Launch) (Z : State) (a0 : Array Value) (hw : ∀ d ∈ tables_1, d.before a0 Z = true) (ws : List Jvm.Cond) (p0 : Addr) (h0 : Heap) (n0 : Nat) (Z0 : n0 ≤ h0.size) (a : Addr) (pm0 : Fld Z h0 p0 "java/util/ArrayList$Itr" "cursor" "I" (.int (1 : Int32))) (pm1 : Fld Z h0 p0 "java/util/ArrayList$Itr" "this$0" "Ljava/util/ArrayList;" (.ref a)) (pm2 : Fld Z h0 a "java/util/ArrayList" "size" "I" (.int (3 : Int32))) :
    own_Met l Z (⟨"java/util/ArrayList$Itr", "hasNext", "()Z"⟩ : MethodName) jdk_49_method_2_code 1 (some .boolean) ws ({ frames := 0, cells := 0, slots := 0, locals := 0 } : Room) #[(.ref p0)] h0 (Q22_1_3 Z p0 a h0 n0) := by
  refine MetFree.of_bodySF pf_22 hisR ?_
  intro p e s m args below meth c s₁ Bd hml0 hP hK
  obtain ⟨rfl, hZ, hh⟩ := hP
  have hx := Bd.exec
  have hby := Bd.bytes
  have hlk : meth.locks = false := BodyLoose.notSynchronized Bd
  have hml : c.maxLocals = 1 := hml0
  have hown : s.vm.findClass "java/util/ArrayList$Itr" = some m.cls := findClass_of_methodNamed Bd.named
  have hnm := (name_of_methodNamed Bd.named Bd.method).1
  have X0 : Stand p l e ({ frames := 0, cells := 0, slots := 0, locals := 0 } : Room) s m #[(.ref p0)] below meth c s₁ [] 0 0 := Stand.of_body Bd
  have e0 : s₁.heap = h0 := by rw [← hh, Bd.state]; rfl
  have N0 := Fr.nil n0
  show own_Go _ _ _ _ (Q22_1_3 Z p0 a h0 n0) _ _ _
  refine own_by (fun _ k => castTop (ef_22_1_3 m p0) k) ?_
  show own_Go _ _ _ _ _ _ _ (s₁.setTop (mkF m 0 #[.val (.ref p0)] []))
  refine own_by (fun _ kz => XS.aloadN X0.here hx rfl (hb hby d22_0) rfl rfl kz) ?_
  obtain ⟨T1, X1, e1, st1⟩ := getF X0 hx hZ hown (host := "") (Or.inl (ow hw 168 rfl)) Via.refl e0 pm0 (g := (mkF m 1 #[.val (.ref p0)] [(.ref p0)])) rfl rfl (hb hby d22_1)
  refine own_by st1 ?_
  show own_Go _ _ _ _ _ _ _ (T1.setTop (mkF m 4 #[.val (.ref p0)] [(.int (1 : Int32))]))
  refine own_by (fun _ kz => XS.aloadN X1.here hx rfl (hb hby d22_4) rfl rfl kz) ?_
  obtain ⟨T2, X2, e2, st2⟩ := getF X1 hx hZ hown (host := "") (Or.inl (ow hw 151 rfl)) Via.refl e1 pm1 (g := (mkF m 5 #[.val (.ref p0)] [(.ref p0), (.int (1 : Int32))])) rfl rfl (hb hby d22_5)
  refine own_by st2 ?_
  show own_Go _ _ _ _ _ _ _ (T2.setTop (mkF m 8 #[.val (.ref p0)] [(.ref a), (.int (1 : Int32))]))
  obtain ⟨T3, X3, e3, st3⟩ := getF X2 hx hZ hown (host := "java/util/ArrayList") (Or.inr (ow hw 170 rfl)) Via.refl e2 pm2 (g := (mkF m 8 #[.val (.ref p0)] [(.ref a), (.int (1 : Int32))])) rfl rfl (hb hby d22_8)
  refine own_by st3 ?_
  show own_Go _ _ _ _ _ _ _ (T3.setTop (mkF m 11 #[.val (.ref p0)] [(.int (3 : Int32)), (.int (1 : Int32))]))
  refine own_by (fun _ kz => XS.icmpNo X3.here hx rfl (hb hby d22_11) rfl (feq (by decide : ¬ ((1 : Int32) = (3 : Int32)))).1 kz) ?_
  show own_Go _ _ _ _ _ _ _ (T3.setTop (mkF m 14 #[.val (.ref p0)] []))
  refine own_by (fun _ kz => XS.iconst X3.here hx rfl (hb hby d22_14) kz) ?_
  show own_Go _ _ _ _ _ _ _ (T3.setTop (mkF m 15 #[.val (.ref p0)] [(.int (1 : Int32))]))
  refine own_by (fun _ kz => XS.goto X3.here hx rfl (pc0 := 15) (pc' := 19) rfl (hb hby d22_15) (by decide) (by decide) kz) ?_
  show own_Go _ _ _ _ _ _ _ (T3.setTop (mkF m 19 #[.val (.ref p0)] [(.int (1 : Int32))]))
  exact own_retZ X3 hx hlk Bd.returns (hb hby d22_19) (by decide) (by decide) ⟨rfl, N0, e3⟩
theorem ef_23_1_3 (m : MethodId) (p0 : Addr) : entryFrame m #[(.ref p0)] 3 = mkF m 0 #[.val (.ref p0), .unset, .unset] [] := by first | (simp [entryFrame, mkF, argsToLocals, Value.category]; done) | rfl
def Q23_1_3 (Z : State) (p0 : Addr) (a : Addr) (mc : Int32) (ea : Addr) (kA : ClassId) (d1 : Addr) (d2 : Addr) (d3 : Addr) (h0 : Heap) (n0 : Nat) (v : Option Value) (h : Heap) (L : List Loc) : Prop := v = some (.ref d2) ∧ Fr n0 L ∧ Keep h0 h [p0] ∧ Fld Z h p0 "java/util/ArrayList$Itr" "this$0" "Ljava/util/ArrayList;" (.ref a) ∧ Fld Z h p0 "java/util/ArrayList$Itr" "cursor" "I" (.int (2 : Int32)) ∧ Fld Z h p0 "java/util/ArrayList$Itr" "lastRet" "I" (.int (1 : Int32)) ∧ Fld Z h p0 "java/util/ArrayList$Itr" "expectedModCount" "I" (.int mc)
theorem rm23_1_3 (l : Launch) (Z : State) (a0 : Array Value) (hw : ∀ d ∈ tables_1, d.before a0 Z = true) (ws : List Jvm.Cond) (p0 : Addr) (h0 : Heap) (n0 : Nat) (Z0 : n0 ≤ h0.size) (a : Addr) (mc : Int32) (ea : Addr) (kA : ClassId) (d1 : Addr) (d2 : Addr) (d3 : Addr) (pm0 : Exa Z h0 p0 "java/util/ArrayList$Itr") (pm1 : Fld Z h0 p0 "java/util/ArrayList$Itr" "this$0" "Ljava/util/ArrayList;" (.ref a)) (pm2 : Fld Z h0 p0 "java/util/ArrayList$Itr" "cursor" "I" (.int (1 : Int32))) (pm3 : Fld Z h0 p0 "java/util/ArrayList$Itr" "lastRet" "I" (.int (0 : Int32))) (pm4 : Fld Z h0 p0 "java/util/ArrayList$Itr" "expectedModCount" "I" (.int mc)) (pm5 : Fld Z h0 a "java/util/AbstractList" "modCount" "I" (.int mc)) (pm6 : Fld Z h0 a "java/util/ArrayList" "size" "I" (.int (3 : Int32))) (pm7 : Fld Z h0 a "java/util/ArrayList" "elementData" "[Ljava/lang/Object;" (.ref ea)) (pm8 : Arv Z h0 ea kA (.object "java/lang/Object") (10 : Int32) [(.ref d1), (.ref d2), (.ref d3), .null, .null, .null, .null, .null, .null, .null] .null) (pm9 : a ≠ p0) (pm10 : ea ≠ p0) (pm11 : n0 ≤ p0) :
    own_Met l Z (⟨"java/util/ArrayList$Itr", "next", "()Ljava/lang/Object;"⟩ : MethodName) jdk_49_method_3_code 3 (some (.object "java/lang/Object")) ws ({ frames := 1, cells := 0, slots := 0, locals := 12 } : Room) #[(.ref p0)] h0 (Q23_1_3 Z p0 a mc ea kA d1 d2 d3 h0 n0) := by
  refine MetFree.of_bodySF pf_23 hisR ?_
  intro p e s m args below meth c s₁ Bd hml0 hP hK
  obtain ⟨rfl, hZ, hh⟩ := hP
  have hx := Bd.exec
  have hby := Bd.bytes
  have hlk : meth.locks = false := BodyLoose.notSynchronized Bd
  have hml : c.maxLocals = 3 := hml0
  have hown : s.vm.findClass "java/util/ArrayList$Itr" = some m.cls := findClass_of_methodNamed Bd.named
  have hnm := (name_of_methodNamed Bd.named Bd.method).1
  have X0 : Stand p l e ({ frames := 1, cells := 0, slots := 0, locals := 12 } : Room) s m #[(.ref p0)] below meth c s₁ [] 0 0 := Stand.of_body Bd
  have e0 : s₁.heap = h0 := by rw [← hh, Bd.state]; rfl
  have N0 := Fr.nil n0
  have K0 := Keep.refl h0 [p0]
  show own_Go _ _ _ _ (Q23_1_3 Z p0 a mc ea kA d1 d2 d3 h0 n0) _ _ _
  refine own_by (fun _ k => castTop (ef_23_1_3 m p0) k) ?_
  show own_Go _ _ _ _ _ _ _ (s₁.setTop (mkF m 0 #[.val (.ref p0), .unset, .unset] []))
  refine own_by (fun _ kz => XS.aloadN X0.here hx rfl (hb hby d23_0) rfl rfl kz) ?_
  show own_Go _ _ _ _ _ _ _ (s₁.setTop (mkF m 1 #[.val (.ref p0), .unset, .unset] [(.ref p0)]))
  obtain ⟨v1, T1, L1, X1, q1, st1⟩ := own_callV X0 hx hZ hown (ow hw 179 rfl) (ow hw 180 rfl) (ow hw 182 rfl) (ow hw 181 rfl) (ow hw 146 rfl) (ow hw 183 rfl) (by decide) (rm24 l Z a0 hw [] p0 h0 n0 Z0 a mc pm1 pm5 pm4) (W := 0) (by decide) (by decide) e0 pm0 (g := (mkF m 1 #[.val (.ref p0), .unset, .unset] [(.ref p0)])) rfl (by rw [hml]; rfl) (argsL := []) (rest := []) (lenOf pd_24 rfl) rfl rfl (by show 2 * 0 + _ ≤ _; exact Nat.le_of_eq rfl) (hb hby d23_1) (by decide) (by decide)
  obtain ⟨rfl, Nq1, hh1⟩ := q1
  have N1 := Fr.app N0 Nq1
  refine own_by st1 ?_
  show own_Go _ _ _ _ _ _ _ (T1.setTop (mkF m 4 #[.val (.ref p0), .unset, .unset] []))
  refine own_by (fun _ kz => XS.aloadN X1.here hx rfl (hb hby d23_4) rfl rfl kz) ?_
  obtain ⟨T2, X2, e2, st2⟩ := getF X1 hx hZ hown (host := "") (Or.inl (ow hw 168 rfl)) Via.refl hh1 pm2 (g := (mkF m 5 #[.val (.ref p0), .unset, .unset] [(.ref p0)])) rfl rfl (hb hby d23_5)
  refine own_by st2 ?_
  show own_Go _ _ _ _ _ _ _ (T2.setTop (mkF m 8 #[.val (.ref p0), .unset, .unset] [(.int (1 : Int32))]))
  refine own_by (fun _ kz => XS.istoreN X2.here hx rfl (hb hby d23_8) rfl (l' := #[.val (.ref p0), .val (.int (1 : Int32)), .unset]) rfl kz) ?_
  show own_Go _ _ _ _ _ _ _ (T2.setTop (mkF m 9 #[.val (.ref p0), .val (.int (1 : Int32)), .unset] []))
  refine own_by (fun _ kz => XS.iloadN X2.here hx rfl (hb hby d23_9) rfl kz) ?_
  refine own_by (fun _ kz => XS.aloadN X2.here hx rfl (hb hby d23_10) rfl rfl kz) ?_
  obtain ⟨T3, X3, e3, st3⟩ := getF X2 hx hZ hown (host := "") (Or.inl (ow hw 151 rfl)) Via.refl e2 pm1 (g := (mkF m 11 #[.val (.ref p0), .val (.int (1 : Int32)), .unset] [(.ref p0), (.int (1 : Int32))])) rfl rfl (hb hby d23_11)
  refine own_by st3 ?_
  show own_Go _ _ _ _ _ _ _ (T3.setTop (mkF m 14 #[.val (.ref p0), .val (.int (1 : Int32)), .unset] [(.ref a), (.int (1 : Int32))]))
  obtain ⟨T4, X4, e4, st4⟩ := getF X3 hx hZ hown (host := "java/util/ArrayList") (Or.inr (ow hw 170 rfl)) Via.refl e3 pm6 (g := (mkF m 14 #[.val (.ref p0), .val (.int (1 : Int32)), .unset] [(.ref a), (.int (1 : Int32))])) rfl rfl (hb hby d23_14)
  refine own_by st4 ?_
  show own_Go _ _ _ _ _ _ _ (T4.setTop (mkF m 17 #[.val (.ref p0), .val (.int (1 : Int32)), .unset] [(.int (3 : Int32)), (.int (1 : Int32))]))
  refine own_by (fun _ kz => XS.icmpYes X4.here hx rfl (pc0 := 17) (pc' := 28) rfl (hb hby d23_17) rfl (tlt (by decide : ((1 : Int32) < (3 : Int32)))).1 (by decide) (by decide) kz) ?_
  show own_Go _ _ _ _ _ _ _ (T4.setTop (mkF m 28 #[.val (.ref p0), .val (.int (1 : Int32)), .unset] []))
  refine own_by (fun _ kz => XS.aloadN X4.here hx rfl (hb hby d23_28) rfl rfl kz) ?_
  obtain ⟨T5, X5, e5, st5⟩ := getF X4 hx hZ hown (host := "") (Or.inl (ow hw 151 rfl)) Via.refl e4 pm1 (g := (mkF m 29 #[.val (.ref p0), .val (.int (1 : Int32)), .unset] [(.ref p0)])) rfl rfl (hb hby d23_29)
  refine own_by st5 ?_
  show own_Go _ _ _ _ _ _ _ (T5.setTop (mkF m 32 #[.val (.ref p0), .val (.int (1 : Int32)), .unset] [(.ref a)]))
  obtain ⟨T6, X6, e6, st6⟩ := getF X5 hx hZ hown (host := "") (Or.inl (ow hw 184 rfl)) Via.refl e5 pm7 (g := (mkF m 32 #[.val (.ref p0), .val (.int (1 : Int32)), .unset] [(.ref a)])) rfl rfl (hb hby d23_32)
  refine own_by st6 ?_
  show own_Go _ _ _ _ _ _ _ (T6.setTop (mkF m 35 #[.val (.ref p0), .val (.int (1 : Int32)), .unset] [(.ref ea)]))
  refine own_by (fun _ kz => XS.astoreN X6.here hx rfl (hb hby d23_35) rfl rfl (l' := #[.val (.ref p0), .val (.int (1 : Int32)), .val (.ref ea)]) rfl kz) ?_
  show own_Go _ _ _ _ _ _ _ (T6.setTop (mkF m 36 #[.val (.ref p0), .val (.int (1 : Int32)), .val (.ref ea)] []))
  refine own_by (fun _ kz => XS.iloadN X6.here hx rfl (hb hby d23_36) rfl kz) ?_
  refine own_by (fun _ kz => XS.aloadN X6.here hx rfl (hb hby d23_37) rfl rfl kz) ?_
  show own_Go _ _ _ _ _ _ _ (T6.setTop (mkF m 38 #[.val (.ref p0), .val (.int (1 : Int32)), .val (.ref ea)] [(.ref ea), (.int (1 : Int32))]))
  refine own_by (fun _ kz => own_len X6 hx hZ e6 pm8 (g := (mkF m 38 #[.val (.ref p0), .val (.int (1 : Int32)), .val (.ref ea)] [(.ref ea), (.int (1 : Int32))])) rfl rfl (hb hby d23_38) _ kz) ?_
  show own_Go _ _ _ _ _ _ _ (T6.setTop (mkF m 39 #[.val (.ref p0), .val (.int (1 : Int32)), .val (.ref ea)] [(.int (10 : Int32)), (.int (1 : Int32))]))
  refine own_by (fun _ kz => XS.icmpYes X6.here hx rfl (pc0 := 39) (pc' := 50) rfl (hb hby d23_39) rfl (tlt (by decide : ((1 : Int32) < (10 : Int32)))).1 (by decide) (by decide) kz) ?_
  show own_Go _ _ _ _ _ _ _ (T6.setTop (mkF m 50 #[.val (.ref p0), .val (.int (1 : Int32)), .val (.ref ea)] []))
  refine own_by (fun _ kz => XS.aloadN X6.here hx rfl (hb hby d23_50) rfl rfl kz) ?_
  refine own_by (fun _ kz => XS.iloadN X6.here hx rfl (hb hby d23_51) rfl kz) ?_
  refine own_by (fun _ kz => XS.iconst X6.here hx rfl (hb hby d23_52) kz) ?_
  show own_Go _ _ _ _ _ _ _ (T6.setTop (mkF m 53 #[.val (.ref p0), .val (.int (1 : Int32)), .val (.ref ea)] [(.int (1 : Int32)), (.int (1 : Int32)), (.ref p0)]))
  refine own_by (fun _ kz => XS.iadd X6.here hx rfl (hb hby d23_53) rfl kz) ?_
  show own_Go _ _ _ _ _ _ _ (T6.setTop (mkF m 54 #[.val (.ref p0), .val (.int (1 : Int32)), .val (.ref ea)] [(.int (2 : Int32)), (.ref p0)]))
  obtain ⟨T7, h7, X7, e7, W7, st7⟩ := putF X6 hx hZ hown (host := "") (Or.inl (ow hw 168 rfl)) Via.refl e6 pm2 pm0 (Or.inl (ow hw 169 rfl)) (ow hw 145 rfl) (ty := .int) (by decide) rfl rfl (g := (mkF m 54 #[.val (.ref p0), .val (.int (1 : Int32)), .val (.ref ea)] [(.int (2 : Int32)), (.ref p0)])) rfl rfl (hb hby d23_54)
  have N7 := Fr.snoc X7 N1 pm11
  have Z7 : n0 ≤ h7.size := by rw [W7.size]; exact Z0
  have K7 := K0.wr W7 (Or.inl (List.mem_of_getElem? (i := 0) rfl))
  have pm0_h7 := pm0.wr W7
  have pm1_h7 := pm1.other W7 (Or.inr (slot_ne (Or.inr (ow hw 152 rfl)) (Or.inl (ow hw 169 rfl)) (by decide) (by decide : parseFieldDescriptor "Ljava/util/ArrayList;" = some (.object "java/util/ArrayList")) (by decide : parseFieldDescriptor "I" = some .int)))
  have pm2_h7 := pm2.same W7
  have pm3_h7 := pm3.other W7 (Or.inr (slot_ne (Or.inl (ow hw 155 rfl)) (Or.inl (ow hw 169 rfl)) (by decide) (by decide : parseFieldDescriptor "I" = some .int) (by decide : parseFieldDescriptor "I" = some .int)))
  have pm4_h7 := pm4.other W7 (Or.inr (slot_ne (Or.inl (ow hw 158 rfl)) (Or.inl (ow hw 169 rfl)) (by decide) (by decide : parseFieldDescriptor "I" = some .int) (by decide : parseFieldDescriptor "I" = some .int)))
  have pm5_h7 := pm5.other W7 (Or.inl pm9)
  have pm6_h7 := pm6.other W7 (Or.inl pm9)
  have pm7_h7 := pm7.other W7 (Or.inl pm9)
  have pm8_h7 := pm8.other W7 pm10
  refine own_by st7 ?_
  show own_Go _ _ _ _ _ _ _ (T7.setTop (mkF m 57 #[.val (.ref p0), .val (.int (1 : Int32)), .val (.ref ea)] []))
  refine own_by (fun _ kz => XS.aloadN X7.here hx rfl (hb hby d23_57) rfl rfl kz) ?_
  refine own_by (fun _ kz => XS.aloadN X7.here hx rfl (hb hby d23_58) rfl rfl kz) ?_
  refine own_by (fun _ kz => XS.iloadN X7.here hx rfl (hb hby d23_59) rfl kz) ?_
  show own_Go _ _ _ _ _ _ _ (T7.setTop (mkF m 60 #[.val (.ref p0), .val (.int (1 : Int32)), .val (.ref ea)] [(.int (1 : Int32)), (.ref p0), (.ref ea)]))
  refine own_by (fun _ kz => XS.dupX1 X7.here hx rfl (hb hby d23_60) rfl rfl rfl kz) ?_
  show own_Go _ _ _ _ _ _ _ (T7.setTop (mkF m 61 #[.val (.ref p0), .val (.int (1 : Int32)), .val (.ref ea)] [(.int (1 : Int32)), (.ref p0), (.int (1 : Int32)), (.ref ea)]))
  obtain ⟨T8, h8, X8, e8, W8, st8⟩ := putF X7 hx hZ hown (host := "") (Or.inl (ow hw 154 rfl)) Via.refl e7 pm3_h7 pm0_h7 (Or.inl (ow hw 155 rfl)) (ow hw 145 rfl) (ty := .int) (by decide) rfl rfl (g := (mkF m 61 #[.val (.ref p0), .val (.int (1 : Int32)), .val (.ref ea)] [(.int (1 : Int32)), (.ref p0), (.int (1 : Int32)), (.ref ea)])) rfl rfl (hb hby d23_61)
  have N8 := Fr.snoc X8 N7 pm11
  have Z8 : n0 ≤ h8.size := by rw [W8.size]; exact Z7
  have K8 := K7.wr W8 (Or.inl (List.mem_of_getElem? (i := 0) rfl))
  have pm0_h8 := pm0_h7.wr W8
  have pm1_h8 := pm1_h7.other W8 (Or.inr (slot_ne (Or.inr (ow hw 152 rfl)) (Or.inl (ow hw 155 rfl)) (by decide) (by decide : parseFieldDescriptor "Ljava/util/ArrayList;" = some (.object "java/util/ArrayList")) (by decide : parseFieldDescriptor "I" = some .int)))
  have pm2_h8 := pm2_h7.other W8 (Or.inr (slot_ne (Or.inl (ow hw 169 rfl)) (Or.inl (ow hw 155 rfl)) (by decide) (by decide : parseFieldDescriptor "I" = some .int) (by decide : parseFieldDescriptor "I" = some .int)))
  have pm3_h8 := pm3_h7.same W8
  have pm4_h8 := pm4_h7.other W8 (Or.inr (slot_ne (Or.inl (ow hw 158 rfl)) (Or.inl (ow hw 155 rfl)) (by decide) (by decide : parseFieldDescriptor "I" = some .int) (by decide : parseFieldDescriptor "I" = some .int)))
  have pm5_h8 := pm5_h7.other W8 (Or.inl pm9)
  have pm6_h8 := pm6_h7.other W8 (Or.inl pm9)
  have pm7_h8 := pm7_h7.other W8 (Or.inl pm9)
  have pm8_h8 := pm8_h7.other W8 pm10
  refine own_by st8 ?_
  show own_Go _ _ _ _ _ _ _ (T8.setTop (mkF m 64 #[.val (.ref p0), .val (.int (1 : Int32)), .val (.ref ea)] [(.int (1 : Int32)), (.ref ea)]))
  refine own_by (fun _ kz => own_ldA X8 hx hZ e8 pm8_h8 rfl (j := (1 : Int32)) ⟨by decide, by decide⟩ (v := (.ref d2)) rfl (g := (mkF m 64 #[.val (.ref p0), .val (.int (1 : Int32)), .val (.ref ea)] [(.int (1 : Int32)), (.ref ea)])) rfl rfl (hb hby d23_64) _ kz) ?_
  show own_Go _ _ _ _ _ _ _ (T8.setTop (mkF m 65 #[.val (.ref p0), .val (.int (1 : Int32)), .val (.ref ea)] [(.ref d2)]))
  exact own_retA X8 hx hlk Bd.returns rfl (hb hby d23_65) (by decide) (by decide) ⟨rfl, N8, by rw [e8]; exact K8, by rw [e8]; exact pm1_h8, by rw [e8]; exact pm2_h8, by rw [e8]; exact pm3_h8, by rw [e8]; exact pm4_h8⟩
theorem ef_22_2_3 (m : MethodId) (p0 : Addr) : entryFrame m #[(.ref p0)] 1 = mkF m 0 #[.val (.ref p0)] [] := by first | (simp [entryFrame, mkF, argsToLocals, Value.category]; done) | rfl
def Q22_2_3 (Z : State) (p0 : Addr) (a : Addr) (h0 : Heap) (n0 : Nat) (v : Option Value) (h : Heap) (L : List Loc) : Prop := v = some (.int (1 : Int32)) ∧ Fr n0 L ∧ h = h0
theorem rm22_2_3 (l : Launch) (Z : State) (a0 : Array Value) (hw : ∀ d ∈ tables_1, d.before a0 Z = true) (ws : List Jvm.Cond) (p0 : Addr) (h0 : Heap) (n0 : Nat) (Z0 : n0 ≤ h0.size) (a : Addr) (pm0 : Fld Z h0 p0 "java/util/ArrayList$Itr" "cursor" "I" (.int (2 : Int32))) (pm1 : Fld Z h0 p0 "java/util/ArrayList$Itr" "this$0" "Ljava/util/ArrayList;" (.ref a)) (pm2 : Fld Z h0 a "java/util/ArrayList" "size" "I" (.int (3 : Int32))) :
    own_Met l Z (⟨"java/util/ArrayList$Itr", "hasNext", "()Z"⟩ : MethodName) jdk_49_method_2_code 1 (some .boolean) ws ({ frames := 0, cells := 0, slots := 0, locals := 0 } : Room) #[(.ref p0)] h0 (Q22_2_3 Z p0 a h0 n0) := by
  refine MetFree.of_bodySF pf_22 hisR ?_
  intro p e s m args below meth c s₁ Bd hml0 hP hK
  obtain ⟨rfl, hZ, hh⟩ := hP
  have hx := Bd.exec
  have hby := Bd.bytes
  have hlk : meth.locks = false := BodyLoose.notSynchronized Bd
  have hml : c.maxLocals = 1 := hml0
  have hown : s.vm.findClass "java/util/ArrayList$Itr" = some m.cls := findClass_of_methodNamed Bd.named
  have hnm := (name_of_methodNamed Bd.named Bd.method).1
  have X0 : Stand p l e ({ frames := 0, cells := 0, slots := 0, locals := 0 } : Room) s m #[(.ref p0)] below meth c s₁ [] 0 0 := Stand.of_body Bd
  have e0 : s₁.heap = h0 := by rw [← hh, Bd.state]; rfl
  have N0 := Fr.nil n0
  show own_Go _ _ _ _ (Q22_2_3 Z p0 a h0 n0) _ _ _
  refine own_by (fun _ k => castTop (ef_22_2_3 m p0) k) ?_
  show own_Go _ _ _ _ _ _ _ (s₁.setTop (mkF m 0 #[.val (.ref p0)] []))
  refine own_by (fun _ kz => XS.aloadN X0.here hx rfl (hb hby d22_0) rfl rfl kz) ?_
  obtain ⟨T1, X1, e1, st1⟩ := getF X0 hx hZ hown (host := "") (Or.inl (ow hw 168 rfl)) Via.refl e0 pm0 (g := (mkF m 1 #[.val (.ref p0)] [(.ref p0)])) rfl rfl (hb hby d22_1)
  refine own_by st1 ?_
  show own_Go _ _ _ _ _ _ _ (T1.setTop (mkF m 4 #[.val (.ref p0)] [(.int (2 : Int32))]))
  refine own_by (fun _ kz => XS.aloadN X1.here hx rfl (hb hby d22_4) rfl rfl kz) ?_
  obtain ⟨T2, X2, e2, st2⟩ := getF X1 hx hZ hown (host := "") (Or.inl (ow hw 151 rfl)) Via.refl e1 pm1 (g := (mkF m 5 #[.val (.ref p0)] [(.ref p0), (.int (2 : Int32))])) rfl rfl (hb hby d22_5)
  refine own_by st2 ?_
  show own_Go _ _ _ _ _ _ _ (T2.setTop (mkF m 8 #[.val (.ref p0)] [(.ref a), (.int (2 : Int32))]))
  obtain ⟨T3, X3, e3, st3⟩ := getF X2 hx hZ hown (host := "java/util/ArrayList") (Or.inr (ow hw 170 rfl)) Via.refl e2 pm2 (g := (mkF m 8 #[.val (.ref p0)] [(.ref a), (.int (2 : Int32))])) rfl rfl (hb hby d22_8)
  refine own_by st3 ?_
  show own_Go _ _ _ _ _ _ _ (T3.setTop (mkF m 11 #[.val (.ref p0)] [(.int (3 : Int32)), (.int (2 : Int32))]))
  refine own_by (fun _ kz => XS.icmpNo X3.here hx rfl (hb hby d22_11) rfl (feq (by decide : ¬ ((2 : Int32) = (3 : Int32)))).1 kz) ?_
  show own_Go _ _ _ _ _ _ _ (T3.setTop (mkF m 14 #[.val (.ref p0)] []))
  refine own_by (fun _ kz => XS.iconst X3.here hx rfl (hb hby d22_14) kz) ?_
  show own_Go _ _ _ _ _ _ _ (T3.setTop (mkF m 15 #[.val (.ref p0)] [(.int (1 : Int32))]))
  refine own_by (fun _ kz => XS.goto X3.here hx rfl (pc0 := 15) (pc' := 19) rfl (hb hby d22_15) (by decide) (by decide) kz) ?_
  show own_Go _ _ _ _ _ _ _ (T3.setTop (mkF m 19 #[.val (.ref p0)] [(.int (1 : Int32))]))
  exact own_retZ X3 hx hlk Bd.returns (hb hby d22_19) (by decide) (by decide) ⟨rfl, N0, e3⟩
theorem ef_23_2_3 (m : MethodId) (p0 : Addr) : entryFrame m #[(.ref p0)] 3 = mkF m 0 #[.val (.ref p0), .unset, .unset] [] := by first | (simp [entryFrame, mkF, argsToLocals, Value.category]; done) | rfl
def Q23_2_3 (Z : State) (p0 : Addr) (a : Addr) (mc : Int32) (ea : Addr) (kA : ClassId) (d1 : Addr) (d2 : Addr) (d3 : Addr) (h0 : Heap) (n0 : Nat) (v : Option Value) (h : Heap) (L : List Loc) : Prop := v = some (.ref d3) ∧ Fr n0 L ∧ Keep h0 h [p0] ∧ Fld Z h p0 "java/util/ArrayList$Itr" "this$0" "Ljava/util/ArrayList;" (.ref a) ∧ Fld Z h p0 "java/util/ArrayList$Itr" "cursor" "I" (.int (3 : Int32)) ∧ Fld Z h p0 "java/util/ArrayList$Itr" "lastRet" "I" (.int (2 : Int32)) ∧ Fld Z h p0 "java/util/ArrayList$Itr" "expectedModCount" "I" (.int mc)
theorem rm23_2_3 (l : Launch) (Z : State) (a0 : Array Value) (hw : ∀ d ∈ tables_1, d.before a0 Z = true) (ws : List Jvm.Cond) (p0 : Addr) (h0 : Heap) (n0 : Nat) (Z0 : n0 ≤ h0.size) (a : Addr) (mc : Int32) (ea : Addr) (kA : ClassId) (d1 : Addr) (d2 : Addr) (d3 : Addr) (pm0 : Exa Z h0 p0 "java/util/ArrayList$Itr") (pm1 : Fld Z h0 p0 "java/util/ArrayList$Itr" "this$0" "Ljava/util/ArrayList;" (.ref a)) (pm2 : Fld Z h0 p0 "java/util/ArrayList$Itr" "cursor" "I" (.int (2 : Int32))) (pm3 : Fld Z h0 p0 "java/util/ArrayList$Itr" "lastRet" "I" (.int (1 : Int32))) (pm4 : Fld Z h0 p0 "java/util/ArrayList$Itr" "expectedModCount" "I" (.int mc)) (pm5 : Fld Z h0 a "java/util/AbstractList" "modCount" "I" (.int mc)) (pm6 : Fld Z h0 a "java/util/ArrayList" "size" "I" (.int (3 : Int32))) (pm7 : Fld Z h0 a "java/util/ArrayList" "elementData" "[Ljava/lang/Object;" (.ref ea)) (pm8 : Arv Z h0 ea kA (.object "java/lang/Object") (10 : Int32) [(.ref d1), (.ref d2), (.ref d3), .null, .null, .null, .null, .null, .null, .null] .null) (pm9 : a ≠ p0) (pm10 : ea ≠ p0) (pm11 : n0 ≤ p0) :
    own_Met l Z (⟨"java/util/ArrayList$Itr", "next", "()Ljava/lang/Object;"⟩ : MethodName) jdk_49_method_3_code 3 (some (.object "java/lang/Object")) ws ({ frames := 1, cells := 0, slots := 0, locals := 12 } : Room) #[(.ref p0)] h0 (Q23_2_3 Z p0 a mc ea kA d1 d2 d3 h0 n0) := by
  refine MetFree.of_bodySF pf_23 hisR ?_
  intro p e s m args below meth c s₁ Bd hml0 hP hK
  obtain ⟨rfl, hZ, hh⟩ := hP
  have hx := Bd.exec
  have hby := Bd.bytes
  have hlk : meth.locks = false := BodyLoose.notSynchronized Bd
  have hml : c.maxLocals = 3 := hml0
  have hown : s.vm.findClass "java/util/ArrayList$Itr" = some m.cls := findClass_of_methodNamed Bd.named
  have hnm := (name_of_methodNamed Bd.named Bd.method).1
  have X0 : Stand p l e ({ frames := 1, cells := 0, slots := 0, locals := 12 } : Room) s m #[(.ref p0)] below meth c s₁ [] 0 0 := Stand.of_body Bd
  have e0 : s₁.heap = h0 := by rw [← hh, Bd.state]; rfl
  have N0 := Fr.nil n0
  have K0 := Keep.refl h0 [p0]
  show own_Go _ _ _ _ (Q23_2_3 Z p0 a mc ea kA d1 d2 d3 h0 n0) _ _ _
  refine own_by (fun _ k => castTop (ef_23_2_3 m p0) k) ?_
  show own_Go _ _ _ _ _ _ _ (s₁.setTop (mkF m 0 #[.val (.ref p0), .unset, .unset] []))
  refine own_by (fun _ kz => XS.aloadN X0.here hx rfl (hb hby d23_0) rfl rfl kz) ?_
  show own_Go _ _ _ _ _ _ _ (s₁.setTop (mkF m 1 #[.val (.ref p0), .unset, .unset] [(.ref p0)]))
  obtain ⟨v1, T1, L1, X1, q1, st1⟩ := own_callV X0 hx hZ hown (ow hw 179 rfl) (ow hw 180 rfl) (ow hw 182 rfl) (ow hw 181 rfl) (ow hw 146 rfl) (ow hw 183 rfl) (by decide) (rm24 l Z a0 hw [] p0 h0 n0 Z0 a mc pm1 pm5 pm4) (W := 0) (by decide) (by decide) e0 pm0 (g := (mkF m 1 #[.val (.ref p0), .unset, .unset] [(.ref p0)])) rfl (by rw [hml]; rfl) (argsL := []) (rest := []) (lenOf pd_24 rfl) rfl rfl (by show 2 * 0 + _ ≤ _; exact Nat.le_of_eq rfl) (hb hby d23_1) (by decide) (by decide)
  obtain ⟨rfl, Nq1, hh1⟩ := q1
  have N1 := Fr.app N0 Nq1
  refine own_by st1 ?_
  show own_Go _ _ _ _ _ _ _ (T1.setTop (mkF m 4 #[.val (.ref p0), .unset, .unset] []))
  refine own_by (fun _ kz => XS.aloadN X1.here hx rfl (hb hby d23_4) rfl rfl kz) ?_
  obtain ⟨T2, X2, e2, st2⟩ := getF X1 hx hZ hown (host := "") (Or.inl (ow hw 168 rfl)) Via.refl hh1 pm2 (g := (mkF m 5 #[.val (.ref p0), .unset, .unset] [(.ref p0)])) rfl rfl (hb hby d23_5)
  refine own_by st2 ?_
  show own_Go _ _ _ _ _ _ _ (T2.setTop (mkF m 8 #[.val (.ref p0), .unset, .unset] [(.int (2 : Int32))]))
  refine own_by (fun _ kz => XS.istoreN X2.here hx rfl (hb hby d23_8) rfl (l' := #[.val (.ref p0), .val (.int (2 : Int32)), .unset]) rfl kz) ?_
  show own_Go _ _ _ _ _ _ _ (T2.setTop (mkF m 9 #[.val (.ref p0), .val (.int (2 : Int32)), .unset] []))
  refine own_by (fun _ kz => XS.iloadN X2.here hx rfl (hb hby d23_9) rfl kz) ?_
  refine own_by (fun _ kz => XS.aloadN X2.here hx rfl (hb hby d23_10) rfl rfl kz) ?_
  obtain ⟨T3, X3, e3, st3⟩ := getF X2 hx hZ hown (host := "") (Or.inl (ow hw 151 rfl)) Via.refl e2 pm1 (g := (mkF m 11 #[.val (.ref p0), .val (.int (2 : Int32)), .unset] [(.ref p0), (.int (2 : Int32))])) rfl rfl (hb hby d23_11)
  refine own_by st3 ?_
  show own_Go _ _ _ _ _ _ _ (T3.setTop (mkF m 14 #[.val (.ref p0), .val (.int (2 : Int32)), .unset] [(.ref a), (.int (2 : Int32))]))
  obtain ⟨T4, X4, e4, st4⟩ := getF X3 hx hZ hown (host := "java/util/ArrayList") (Or.inr (ow hw 170 rfl)) Via.refl e3 pm6 (g := (mkF m 14 #[.val (.ref p0), .val (.int (2 : Int32)), .unset] [(.ref a), (.int (2 : Int32))])) rfl rfl (hb hby d23_14)
  refine own_by st4 ?_
  show own_Go _ _ _ _ _ _ _ (T4.setTop (mkF m 17 #[.val (.ref p0), .val (.int (2 : Int32)), .unset] [(.int (3 : Int32)), (.int (2 : Int32))]))
  refine own_by (fun _ kz => XS.icmpYes X4.here hx rfl (pc0 := 17) (pc' := 28) rfl (hb hby d23_17) rfl (tlt (by decide : ((2 : Int32) < (3 : Int32)))).1 (by decide) (by decide) kz) ?_
  show own_Go _ _ _ _ _ _ _ (T4.setTop (mkF m 28 #[.val (.ref p0), .val (.int (2 : Int32)), .unset] []))
  refine own_by (fun _ kz => XS.aloadN X4.here hx rfl (hb hby d23_28) rfl rfl kz) ?_
  obtain ⟨T5, X5, e5, st5⟩ := getF X4 hx hZ hown (host := "") (Or.inl (ow hw 151 rfl)) Via.refl e4 pm1 (g := (mkF m 29 #[.val (.ref p0), .val (.int (2 : Int32)), .unset] [(.ref p0)])) rfl rfl (hb hby d23_29)
  refine own_by st5 ?_
  show own_Go _ _ _ _ _ _ _ (T5.setTop (mkF m 32 #[.val (.ref p0), .val (.int (2 : Int32)), .unset] [(.ref a)]))
  obtain ⟨T6, X6, e6, st6⟩ := getF X5 hx hZ hown (host := "") (Or.inl (ow hw 184 rfl)) Via.refl e5 pm7 (g := (mkF m 32 #[.val (.ref p0), .val (.int (2 : Int32)), .unset] [(.ref a)])) rfl rfl (hb hby d23_32)
  refine own_by st6 ?_
  show own_Go _ _ _ _ _ _ _ (T6.setTop (mkF m 35 #[.val (.ref p0), .val (.int (2 : Int32)), .unset] [(.ref ea)]))
  refine own_by (fun _ kz => XS.astoreN X6.here hx rfl (hb hby d23_35) rfl rfl (l' := #[.val (.ref p0), .val (.int (2 : Int32)), .val (.ref ea)]) rfl kz) ?_
  show own_Go _ _ _ _ _ _ _ (T6.setTop (mkF m 36 #[.val (.ref p0), .val (.int (2 : Int32)), .val (.ref ea)] []))
  refine own_by (fun _ kz => XS.iloadN X6.here hx rfl (hb hby d23_36) rfl kz) ?_
  refine own_by (fun _ kz => XS.aloadN X6.here hx rfl (hb hby d23_37) rfl rfl kz) ?_
  show own_Go _ _ _ _ _ _ _ (T6.setTop (mkF m 38 #[.val (.ref p0), .val (.int (2 : Int32)), .val (.ref ea)] [(.ref ea), (.int (2 : Int32))]))
  refine own_by (fun _ kz => own_len X6 hx hZ e6 pm8 (g := (mkF m 38 #[.val (.ref p0), .val (.int (2 : Int32)), .val (.ref ea)] [(.ref ea), (.int (2 : Int32))])) rfl rfl (hb hby d23_38) _ kz) ?_
  show own_Go _ _ _ _ _ _ _ (T6.setTop (mkF m 39 #[.val (.ref p0), .val (.int (2 : Int32)), .val (.ref ea)] [(.int (10 : Int32)), (.int (2 : Int32))]))
  refine own_by (fun _ kz => XS.icmpYes X6.here hx rfl (pc0 := 39) (pc' := 50) rfl (hb hby d23_39) rfl (tlt (by decide : ((2 : Int32) < (10 : Int32)))).1 (by decide) (by decide) kz) ?_
  show own_Go _ _ _ _ _ _ _ (T6.setTop (mkF m 50 #[.val (.ref p0), .val (.int (2 : Int32)), .val (.ref ea)] []))
  refine own_by (fun _ kz => XS.aloadN X6.here hx rfl (hb hby d23_50) rfl rfl kz) ?_
  refine own_by (fun _ kz => XS.iloadN X6.here hx rfl (hb hby d23_51) rfl kz) ?_
  refine own_by (fun _ kz => XS.iconst X6.here hx rfl (hb hby d23_52) kz) ?_
  show own_Go _ _ _ _ _ _ _ (T6.setTop (mkF m 53 #[.val (.ref p0), .val (.int (2 : Int32)), .val (.ref ea)] [(.int (1 : Int32)), (.int (2 : Int32)), (.ref p0)]))
  refine own_by (fun _ kz => XS.iadd X6.here hx rfl (hb hby d23_53) rfl kz) ?_
  show own_Go _ _ _ _ _ _ _ (T6.setTop (mkF m 54 #[.val (.ref p0), .val (.int (2 : Int32)), .val (.ref ea)] [(.int (3 : Int32)), (.ref p0)]))
  obtain ⟨T7, h7, X7, e7, W7, st7⟩ := putF X6 hx hZ hown (host := "") (Or.inl (ow hw 168 rfl)) Via.refl e6 pm2 pm0 (Or.inl (ow hw 169 rfl)) (ow hw 145 rfl) (ty := .int) (by decide) rfl rfl (g := (mkF m 54 #[.val (.ref p0), .val (.int (2 : Int32)), .val (.ref ea)] [(.int (3 : Int32)), (.ref p0)])) rfl rfl (hb hby d23_54)
  have N7 := Fr.snoc X7 N1 pm11
  have Z7 : n0 ≤ h7.size := by rw [W7.size]; exact Z0
  have K7 := K0.wr W7 (Or.inl (List.mem_of_getElem? (i := 0) rfl))
  have pm0_h7 := pm0.wr W7
  have pm1_h7 := pm1.other W7 (Or.inr (slot_ne (Or.inr (ow hw 152 rfl)) (Or.inl (ow hw 169 rfl)) (by decide) (by decide : parseFieldDescriptor "Ljava/util/ArrayList;" = some (.object "java/util/ArrayList")) (by decide : parseFieldDescriptor "I" = some .int)))
  have pm2_h7 := pm2.same W7
  have pm3_h7 := pm3.other W7 (Or.inr (slot_ne (Or.inl (ow hw 155 rfl)) (Or.inl (ow hw 169 rfl)) (by decide) (by decide : parseFieldDescriptor "I" = some .int) (by decide : parseFieldDescriptor "I" = some .int)))
  have pm4_h7 := pm4.other W7 (Or.inr (slot_ne (Or.inl (ow hw 158 rfl)) (Or.inl (ow hw 169 rfl)) (by decide) (by decide : parseFieldDescriptor "I" = some .int) (by decide : parseFieldDescriptor "I" = some .int)))
  have pm5_h7 := pm5.other W7 (Or.inl pm9)
  have pm6_h7 := pm6.other W7 (Or.inl pm9)
  have pm7_h7 := pm7.other W7 (Or.inl pm9)
  have pm8_h7 := pm8.other W7 pm10
  refine own_by st7 ?_
  show own_Go _ _ _ _ _ _ _ (T7.setTop (mkF m 57 #[.val (.ref p0), .val (.int (2 : Int32)), .val (.ref ea)] []))
  refine own_by (fun _ kz => XS.aloadN X7.here hx rfl (hb hby d23_57) rfl rfl kz) ?_
  refine own_by (fun _ kz => XS.aloadN X7.here hx rfl (hb hby d23_58) rfl rfl kz) ?_
  refine own_by (fun _ kz => XS.iloadN X7.here hx rfl (hb hby d23_59) rfl kz) ?_
  show own_Go _ _ _ _ _ _ _ (T7.setTop (mkF m 60 #[.val (.ref p0), .val (.int (2 : Int32)), .val (.ref ea)] [(.int (2 : Int32)), (.ref p0), (.ref ea)]))
  refine own_by (fun _ kz => XS.dupX1 X7.here hx rfl (hb hby d23_60) rfl rfl rfl kz) ?_
  show own_Go _ _ _ _ _ _ _ (T7.setTop (mkF m 61 #[.val (.ref p0), .val (.int (2 : Int32)), .val (.ref ea)] [(.int (2 : Int32)), (.ref p0), (.int (2 : Int32)), (.ref ea)]))
  obtain ⟨T8, h8, X8, e8, W8, st8⟩ := putF X7 hx hZ hown (host := "") (Or.inl (ow hw 154 rfl)) Via.refl e7 pm3_h7 pm0_h7 (Or.inl (ow hw 155 rfl)) (ow hw 145 rfl) (ty := .int) (by decide) rfl rfl (g := (mkF m 61 #[.val (.ref p0), .val (.int (2 : Int32)), .val (.ref ea)] [(.int (2 : Int32)), (.ref p0), (.int (2 : Int32)), (.ref ea)])) rfl rfl (hb hby d23_61)
  have N8 := Fr.snoc X8 N7 pm11
  have Z8 : n0 ≤ h8.size := by rw [W8.size]; exact Z7
  have K8 := K7.wr W8 (Or.inl (List.mem_of_getElem? (i := 0) rfl))
  have pm0_h8 := pm0_h7.wr W8
  have pm1_h8 := pm1_h7.other W8 (Or.inr (slot_ne (Or.inr (ow hw 152 rfl)) (Or.inl (ow hw 155 rfl)) (by decide) (by decide : parseFieldDescriptor "Ljava/util/ArrayList;" = some (.object "java/util/ArrayList")) (by decide : parseFieldDescriptor "I" = some .int)))
  have pm2_h8 := pm2_h7.other W8 (Or.inr (slot_ne (Or.inl (ow hw 169 rfl)) (Or.inl (ow hw 155 rfl)) (by decide) (by decide : parseFieldDescriptor "I" = some .int) (by decide : parseFieldDescriptor "I" = some .int)))
  have pm3_h8 := pm3_h7.same W8
  have pm4_h8 := pm4_h7.other W8 (Or.inr (slot_ne (Or.inl (ow hw 158 rfl)) (Or.inl (ow hw 155 rfl)) (by decide) (by decide : parseFieldDescriptor "I" = some .int) (by decide : parseFieldDescriptor "I" = some .int)))
  have pm5_h8 := pm5_h7.other W8 (Or.inl pm9)
  have pm6_h8 := pm6_h7.other W8 (Or.inl pm9)
  have pm7_h8 := pm7_h7.other W8 (Or.inl pm9)
  have pm8_h8 := pm8_h7.other W8 pm10
  refine own_by st8 ?_
  show own_Go _ _ _ _ _ _ _ (T8.setTop (mkF m 64 #[.val (.ref p0), .val (.int (2 : Int32)), .val (.ref ea)] [(.int (2 : Int32)), (.ref ea)]))
  refine own_by (fun _ kz => own_ldA X8 hx hZ e8 pm8_h8 rfl (j := (2 : Int32)) ⟨by decide, by decide⟩ (v := (.ref d3)) rfl (g := (mkF m 64 #[.val (.ref p0), .val (.int (2 : Int32)), .val (.ref ea)] [(.int (2 : Int32)), (.ref ea)])) rfl rfl (hb hby d23_64) _ kz) ?_
  show own_Go _ _ _ _ _ _ _ (T8.setTop (mkF m 65 #[.val (.ref p0), .val (.int (2 : Int32)), .val (.ref ea)] [(.ref d3)]))
  exact own_retA X8 hx hlk Bd.returns rfl (hb hby d23_65) (by decide) (by decide) ⟨rfl, N8, by rw [e8]; exact K8, by rw [e8]; exact pm1_h8, by rw [e8]; exact pm2_h8, by rw [e8]; exact pm3_h8, by rw [e8]; exact pm4_h8⟩
theorem ef_22_3_3 (m : MethodId) (p0 : Addr) : entryFrame m #[(.ref p0)] 1 = mkF m 0 #[.val (.ref p0)] [] := by first | (simp [entryFrame, mkF, argsToLocals, Value.category]; done) | rfl
def Q22_3_3 (Z : State) (p0 : Addr) (a : Addr) (h0 : Heap) (n0 : Nat) (v : Option Value) (h : Heap) (L : List Loc) : Prop := v = some (.int (0 : Int32)) ∧ Fr n0 L ∧ h = h0
theorem rm22_3_3 (l : Launch) (Z : State) (a0 : Array Value) (hw : ∀ d ∈ tables_1, d.before a0 Z = true) (ws : List Jvm.Cond) (p0 : Addr) (h0 : Heap) (n0 : Nat) (Z0 : n0 ≤ h0.size) (a : Addr) (pm0 : Fld Z h0 p0 "java/util/ArrayList$Itr" "cursor" "I" (.int (3 : Int32))) (pm1 : Fld Z h0 p0 "java/util/ArrayList$Itr" "this$0" "Ljava/util/ArrayList;" (.ref a)) (pm2 : Fld Z h0 a "java/util/ArrayList" "size" "I" (.int (3 : Int32))) :
    own_Met l Z (⟨"java/util/ArrayList$Itr", "hasNext", "()Z"⟩ : MethodName) jdk_49_method_2_code 1 (some .boolean) ws ({ frames := 0, cells := 0, slots := 0, locals := 0 } : Room) #[(.ref p0)] h0 (Q22_3_3 Z p0 a h0 n0) := by
  refine MetFree.of_bodySF pf_22 hisR ?_
  intro p e s m args below meth c s₁ Bd hml0 hP hK
  obtain ⟨rfl, hZ, hh⟩ := hP
  have hx := Bd.exec
  have hby := Bd.bytes
  have hlk : meth.locks = false := BodyLoose.notSynchronized Bd
  have hml : c.maxLocals = 1 := hml0
  have hown : s.vm.findClass "java/util/ArrayList$Itr" = some m.cls := findClass_of_methodNamed Bd.named
  have hnm := (name_of_methodNamed Bd.named Bd.method).1
  have X0 : Stand p l e ({ frames := 0, cells := 0, slots := 0, locals := 0 } : Room) s m #[(.ref p0)] below meth c s₁ [] 0 0 := Stand.of_body Bd
  have e0 : s₁.heap = h0 := by rw [← hh, Bd.state]; rfl
  have N0 := Fr.nil n0
  show own_Go _ _ _ _ (Q22_3_3 Z p0 a h0 n0) _ _ _
  refine own_by (fun _ k => castTop (ef_22_3_3 m p0) k) ?_
  show own_Go _ _ _ _ _ _ _ (s₁.setTop (mkF m 0 #[.val (.ref p0)] []))
  refine own_by (fun _ kz => XS.aloadN X0.here hx rfl (hb hby d22_0) rfl rfl kz) ?_
  obtain ⟨T1, X1, e1, st1⟩ := getF X0 hx hZ hown (host := "") (Or.inl (ow hw 168 rfl)) Via.refl e0 pm0 (g := (mkF m 1 #[.val (.ref p0)] [(.ref p0)])) rfl rfl (hb hby d22_1)
  refine own_by st1 ?_
  show own_Go _ _ _ _ _ _ _ (T1.setTop (mkF m 4 #[.val (.ref p0)] [(.int (3 : Int32))]))
  refine own_by (fun _ kz => XS.aloadN X1.here hx rfl (hb hby d22_4) rfl rfl kz) ?_
  obtain ⟨T2, X2, e2, st2⟩ := getF X1 hx hZ hown (host := "") (Or.inl (ow hw 151 rfl)) Via.refl e1 pm1 (g := (mkF m 5 #[.val (.ref p0)] [(.ref p0), (.int (3 : Int32))])) rfl rfl (hb hby d22_5)
  refine own_by st2 ?_
  show own_Go _ _ _ _ _ _ _ (T2.setTop (mkF m 8 #[.val (.ref p0)] [(.ref a), (.int (3 : Int32))]))
  obtain ⟨T3, X3, e3, st3⟩ := getF X2 hx hZ hown (host := "java/util/ArrayList") (Or.inr (ow hw 170 rfl)) Via.refl e2 pm2 (g := (mkF m 8 #[.val (.ref p0)] [(.ref a), (.int (3 : Int32))])) rfl rfl (hb hby d22_8)
  refine own_by st3 ?_
  show own_Go _ _ _ _ _ _ _ (T3.setTop (mkF m 11 #[.val (.ref p0)] [(.int (3 : Int32)), (.int (3 : Int32))]))
  refine own_by (fun _ kz => XS.icmpYes X3.here hx rfl (pc0 := 11) (pc' := 18) rfl (hb hby d22_11) rfl (teq (by decide : ((3 : Int32) = (3 : Int32)))).1 (by decide) (by decide) kz) ?_
  show own_Go _ _ _ _ _ _ _ (T3.setTop (mkF m 18 #[.val (.ref p0)] []))
  refine own_by (fun _ kz => XS.iconst X3.here hx rfl (hb hby d22_18) kz) ?_
  show own_Go _ _ _ _ _ _ _ (T3.setTop (mkF m 19 #[.val (.ref p0)] [(.int (0 : Int32))]))
  exact own_retZ X3 hx hlk Bd.returns (hb hby d22_19) (by decide) (by decide) ⟨rfl, N0, e3⟩
theorem d31_0 : decode jdk_29_method_69_code 0 = .ok (.iload_n 0, 1) := by decide +kernel
theorem d31_1 : decode jdk_29_method_69_code 1 = .ok (.iload_n 1, 1) := by decide +kernel
theorem d31_2 : decode jdk_29_method_69_code 2 = .ok (.if_icmp .gt 7, 3) := by decide +kernel
theorem d31_9 : decode jdk_29_method_69_code 9 = .ok (.iload_n 1, 1) := by decide +kernel
theorem d31_10 : decode jdk_29_method_69_code 10 = .ok (.ireturn, 1) := by decide +kernel
theorem pf_31 : plainFor (⟨"java/lang/Math", "min", "(II)I"⟩ : MethodName) = true := by first | exact plainFor_of_name (by first | (simp [plainName, overriddenIn]; done) | decide +kernel) | decide +kernel
theorem pd_31 : parseMethodDescriptor "(II)I" = some ⟨[.int, .int], some .int⟩ := by decide +kernel
theorem ef_31_1 (m : MethodId)  : entryFrame m #[(.int (10 : Int32)), (.int (1 : Int32))] 2 = mkF m 0 #[.val (.int (10 : Int32)), .val (.int (1 : Int32))] [] := by first | (simp [entryFrame, mkF, argsToLocals, Value.category]; done) | rfl
def Q31_1 (Z : State)  (h0 : Heap) (n0 : Nat) (v : Option Value) (h : Heap) (L : List Loc) : Prop := v = some (.int (1 : Int32)) ∧ Fr n0 L ∧ h = h0
theorem rm31_1 (l : Launch) (Z : State) (a0 : Array Value) (hw : ∀ d ∈ tables_1, d.before a0 Z = true) (ws : List Jvm.Cond)  (h0 : Heap) (n0 : Nat) (Z0 : n0 ≤ h0.size)  :
    own_Met l Z (⟨"java/lang/Math", "min", "(II)I"⟩ : MethodName) jdk_29_method_69_code 2 (some .int) ws ({ frames := 0, cells := 0, slots := 0, locals := 0 } : Room) #[(.int (10 : Int32)), (.int (1 : Int32))] h0 (Q31_1 Z  h0 n0) := by
  refine MetFree.of_bodySF pf_31 hisR ?_
  intro p e s m args below meth c s₁ Bd hml0 hP hK
  obtain ⟨rfl, hZ, hh⟩ := hP
  have hx := Bd.exec
  have hby := Bd.bytes
  have hlk : meth.locks = false := BodyLoose.notSynchronized Bd
  have hml : c.maxLocals = 2 := hml0
  have hown : s.vm.findClass "java/lang/Math" = some m.cls := findClass_of_methodNamed Bd.named
  have hnm := (name_of_methodNamed Bd.named Bd.method).1
  have X0 : Stand p l e ({ frames := 0, cells := 0, slots := 0, locals := 0 } : Room) s m #[(.int (10 : Int32)), (.int (1 : Int32))] below meth c s₁ [] 0 0 := Stand.of_body Bd
  have e0 : s₁.heap = h0 := by rw [← hh, Bd.state]; rfl
  have N0 := Fr.nil n0
  show own_Go _ _ _ _ (Q31_1 Z  h0 n0) _ _ _
  refine own_by (fun _ k => castTop (ef_31_1 m ) k) ?_
  show own_Go _ _ _ _ _ _ _ (s₁.setTop (mkF m 0 #[.val (.int (10 : Int32)), .val (.int (1 : Int32))] []))
  refine own_by (fun _ kz => XS.iloadN X0.here hx rfl (hb hby d31_0) rfl kz) ?_
  refine own_by (fun _ kz => XS.iloadN X0.here hx rfl (hb hby d31_1) rfl kz) ?_
  show own_Go _ _ _ _ _ _ _ (s₁.setTop (mkF m 2 #[.val (.int (10 : Int32)), .val (.int (1 : Int32))] [(.int (1 : Int32)), (.int (10 : Int32))]))
  refine own_by (fun _ kz => XS.icmpYes X0.here hx rfl (pc0 := 2) (pc' := 9) rfl (hb hby d31_2) rfl (tlt (by decide : ((1 : Int32) < (10 : Int32)))).2.2.1 (by decide) (by decide) kz) ?_
  show own_Go _ _ _ _ _ _ _ (s₁.setTop (mkF m 9 #[.val (.int (10 : Int32)), .val (.int (1 : Int32))] []))
  refine own_by (fun _ kz => XS.iloadN X0.here hx rfl (hb hby d31_9) rfl kz) ?_
  show own_Go _ _ _ _ _ _ _ (s₁.setTop (mkF m 10 #[.val (.int (10 : Int32)), .val (.int (1 : Int32))] [(.int (1 : Int32))]))
  exact own_retI X0 hx hlk Bd.returns (hb hby d31_10) (by decide) (by decide) ⟨rfl, N0, e0⟩
theorem d30_0 : decode jdk_65_method_120_code 0 = .ok (.aload_n 2, 1) := by decide +kernel
theorem d30_1 : decode jdk_65_method_120_code 1 = .ok (.ldc 110, 2) := by decide +kernel
theorem d30_3 : decode jdk_65_method_120_code 3 = .ok (.if_acmp .ne 10, 3) := by decide +kernel
theorem d30_6 : decode jdk_65_method_120_code 6 = .ok (.iload_n 1, 1) := by decide +kernel
theorem d30_7 : decode jdk_65_method_120_code 7 = .ok (.anewarray 2, 3) := by decide +kernel
theorem d30_10 : decode jdk_65_method_120_code 10 = .ok (.goto 14, 3) := by decide +kernel
theorem d30_24 : decode jdk_65_method_120_code 24 = .ok (.astore_n 3, 1) := by decide +kernel
theorem d30_25 : decode jdk_65_method_120_code 25 = .ok (.aload_n 0, 1) := by decide +kernel
theorem d30_26 : decode jdk_65_method_120_code 26 = .ok (.iconst 0, 1) := by decide +kernel
theorem d30_27 : decode jdk_65_method_120_code 27 = .ok (.aload_n 3, 1) := by decide +kernel
theorem d30_28 : decode jdk_65_method_120_code 28 = .ok (.iconst 0, 1) := by decide +kernel
theorem d30_29 : decode jdk_65_method_120_code 29 = .ok (.aload_n 0, 1) := by decide +kernel
theorem d30_30 : decode jdk_65_method_120_code 30 = .ok (.arraylength, 1) := by decide +kernel
theorem d30_31 : decode jdk_65_method_120_code 31 = .ok (.iload_n 1, 1) := by decide +kernel
theorem d30_32 : decode jdk_65_method_120_code 32 = .ok (.invokestatic 304, 3) := by decide +kernel
theorem d30_35 : decode jdk_65_method_120_code 35 = .ok (.invokestatic 150, 3) := by decide +kernel
theorem d30_38 : decode jdk_65_method_120_code 38 = .ok (.aload_n 3, 1) := by decide +kernel
theorem d30_39 : decode jdk_65_method_120_code 39 = .ok (.areturn, 1) := by decide +kernel
theorem pf_30 : plainFor (⟨"java/util/Arrays", "copyOf", "([Ljava/lang/Object;ILjava/lang/Class;)[Ljava/lang/Object;"⟩ : MethodName) = true := by first | exact plainFor_of_name (by first | (simp [plainName, overriddenIn]; done) | decide +kernel) | decide +kernel
theorem pd_30 : parseMethodDescriptor "([Ljava/lang/Object;ILjava/lang/Class;)[Ljava/lang/Object;" = some ⟨[(.array (.object "java/lang/Object")), .int, (.object "java/lang/Class")], some (.array (.object "java/lang/Object"))⟩ := by decide +kernel
theorem ef_30_1 (m : MethodId) (p0 : Addr) (mr : Addr) : entryFrame m #[(.ref p0), (.int (1 : Int32)), (.ref mr)] 4 = mkF m 0 #[.val (.ref p0), .val (.int (1 : Int32)), .val (.ref mr), .unset] [] := by first | (simp [entryFrame, mkF, argsToLocals, Value.category]; done) | rfl
def Q30_1 (Z : State) (p0 : Addr) (mr : Addr) (mr : Addr) (kA : ClassId) (d1 : Addr) (h0 : Heap) (n0 : Nat) (v : Option Value) (h : Heap) (L : List Loc) : Prop := ∃ (r : Addr) (kB : ClassId), v = some (.ref r) ∧ Fr n0 L ∧ Keep h0 h [] ∧ h0.size ≤ r ∧ Exa Z h r "[Ljava/lang/Object;" ∧ Arv Z h r kB (.object "java/lang/Object") (1 : Int32) [(.ref d1)] .null ∧ Ovr Z kB "java/lang/Object"
theorem rm30_1 (l : Launch) (Z : State) (a0 : Array Value) (hw : ∀ d ∈ tables_1, d.before a0 Z = true) (ws : List Jvm.Cond) (p0 : Addr) (mr : Addr) (h0 : Heap) (n0 : Nat) (Z0 : n0 ≤ h0.size) (mr : Addr) (MI : own_Mi Z "[Ljava/lang/Object;" mr) (kA : ClassId) (d1 : Addr) (pm0 : Arv Z h0 p0 kA (.object "java/lang/Object") (10 : Int32) [(.ref d1), .null, .null, .null, .null, .null, .null, .null, .null, .null] .null) (pm1 : Exa Z h0 d1 "java/lang/Double") :
    own_Met l Z (⟨"java/util/Arrays", "copyOf", "([Ljava/lang/Object;ILjava/lang/Class;)[Ljava/lang/Object;"⟩ : MethodName) jdk_65_method_120_code 4 (some (.array (.object "java/lang/Object"))) ws ({ frames := 1, cells := 1, slots := 1, locals := 40 } : Room) #[(.ref p0), (.int (1 : Int32)), (.ref mr)] h0 (Q30_1 Z p0 mr mr kA d1 h0 n0) := by
  refine MetFree.of_bodySF pf_30 hisR ?_
  intro p e s m args below meth c s₁ Bd hml0 hP hK
  obtain ⟨rfl, hZ, hh⟩ := hP
  have hx := Bd.exec
  have hby := Bd.bytes
  have hlk : meth.locks = false := BodyLoose.notSynchronized Bd
  have hml : c.maxLocals = 4 := hml0
  have hown : s.vm.findClass "java/util/Arrays" = some m.cls := findClass_of_methodNamed Bd.named
  have hnm := (name_of_methodNamed Bd.named Bd.method).1
  have X0 : Stand p l e ({ frames := 1, cells := 1, slots := 1, locals := 40 } : Room) s m #[(.ref p0), (.int (1 : Int32)), (.ref mr)] below meth c s₁ [] 0 0 := Stand.of_body Bd
  have e0 : s₁.heap = h0 := by rw [← hh, Bd.state]; rfl
  have N0 := Fr.nil n0
  have K0 := Keep.refl h0 []
  show own_Go _ _ _ _ (Q30_1 Z p0 mr mr kA d1 h0 n0) _ _ _
  refine own_by (fun _ k => castTop (ef_30_1 m p0 mr) k) ?_
  show own_Go _ _ _ _ _ _ _ (s₁.setTop (mkF m 0 #[.val (.ref p0), .val (.int (1 : Int32)), .val (.ref mr), .unset] []))
  refine own_by (fun _ kz => XS.aloadN X0.here hx rfl (hb hby d30_0) rfl rfl kz) ?_
  show own_Go _ _ _ _ _ _ _ (s₁.setTop (mkF m 1 #[.val (.ref p0), .val (.int (1 : Int32)), .val (.ref mr), .unset] [(.ref mr)]))
  obtain ⟨T1, X1, e1, st1⟩ := own_ldcC X0 hx hZ hown (ow hw 231 rfl) e0 MI (g := (mkF m 1 #[.val (.ref p0), .val (.int (1 : Int32)), .val (.ref mr), .unset] [(.ref mr)])) rfl (hb hby d30_1)
  refine own_by st1 ?_
  show own_Go _ _ _ _ _ _ _ (T1.setTop (mkF m 3 #[.val (.ref p0), .val (.int (1 : Int32)), .val (.ref mr), .unset] [(.ref mr), (.ref mr)]))
  refine own_by (fun _ kz => Jvm.RoadKit.acmp (g := (mkF m 3 #[.val (.ref p0), .val (.int (1 : Int32)), .val (.ref mr), .unset] [(.ref mr), (.ref mr)])) X1 hx rfl rfl rfl (pc0 := 3) (pc' := 6) (same := true) rfl (hb hby d30_3) rfl (decide_eq_true rfl) (by decide) (by decide) kz) ?_
  show own_Go _ _ _ _ _ _ _ (T1.setTop (mkF m 6 #[.val (.ref p0), .val (.int (1 : Int32)), .val (.ref mr), .unset] []))
  refine own_by (fun _ kz => XS.iloadN X1.here hx rfl (hb hby d30_6) rfl kz) ?_
  show own_Go _ _ _ _ _ _ _ (T1.setTop (mkF m 7 #[.val (.ref p0), .val (.int (1 : Int32)), .val (.ref mr), .unset] [(.int (1 : Int32))]))
  obtain ⟨T2, h2, k2, X2, e2, E2, A2, Ea2, Ov2, st2⟩ := newRE X1 hx hZ hown (ow hw 232 rfl) (ow hw 80 rfl) e1 (g := (mkF m 7 #[.val (.ref p0), .val (.int (1 : Int32)), .val (.ref mr), .unset] [(.int (1 : Int32))])) rfl (hb hby d30_7) rfl (by decide) (cap := 1) (by decide) (by decide) (by decide) (by decide) (ad := "[Ljava/lang/Object;") (by decide)
  obtain ⟨b2, g2⟩ : ∃ z, z = h0.size := ⟨_, rfl⟩
  rw [← g2] at A2 Ea2 st2
  have ge_b2 : n0 ≤ b2 := Nat.le_trans Z0 (Nat.le_of_eq g2.symm)
  have sz_b2 : h0.size ≤ b2 := Nat.le_trans K0.1 (Nat.le_of_eq g2.symm)
  have ne_p0_b2 : p0 ≠ b2 := by rw [g2]; exact Nat.ne_of_lt pm0.lt
  have ne_d1_b2 : d1 ≠ b2 := by rw [g2]; exact Nat.ne_of_lt pm1.lt
  have Z2 : n0 ≤ h2.size := Nat.le_trans Z0 E2.1
  have K2 := K0.ext E2
  have pm0_h2 := pm0.ext E2
  have pm1_h2 := pm1.ext E2
  have V2 : Arv Z h2 b2 k2 (.object "java/lang/Object") (1 : Int32) [.null] .null := (Arv.new A2 (by decide)).pad (fun i => pad_rep [] _ 1 i)
  refine own_by st2 ?_
  show own_Go _ _ _ _ _ _ _ (T2.setTop (mkF m 10 #[.val (.ref p0), .val (.int (1 : Int32)), .val (.ref mr), .unset] [(.ref b2)]))
  refine own_by (fun _ kz => XS.goto X2.here hx rfl (pc0 := 10) (pc' := 24) rfl (hb hby d30_10) (by decide) (by decide) kz) ?_
  show own_Go _ _ _ _ _ _ _ (T2.setTop (mkF m 24 #[.val (.ref p0), .val (.int (1 : Int32)), .val (.ref mr), .unset] [(.ref b2)]))
  refine own_by (fun _ kz => XS.astoreN X2.here hx rfl (hb hby d30_24) rfl rfl (l' := #[.val (.ref p0), .val (.int (1 : Int32)), .val (.ref mr), .val (.ref b2)]) rfl kz) ?_
  show own_Go _ _ _ _ _ _ _ (T2.setTop (mkF m 25 #[.val (.ref p0), .val (.int (1 : Int32)), .val (.ref mr), .val (.ref b2)] []))
  refine own_by (fun _ kz => XS.aloadN X2.here hx rfl (hb hby d30_25) rfl rfl kz) ?_
  refine own_by (fun _ kz => XS.iconst X2.here hx rfl (hb hby d30_26) kz) ?_
  refine own_by (fun _ kz => XS.aloadN X2.here hx rfl (hb hby d30_27) rfl rfl kz) ?_
  refine own_by (fun _ kz => XS.iconst X2.here hx rfl (hb hby d30_28) kz) ?_
  refine own_by (fun _ kz => XS.aloadN X2.here hx rfl (hb hby d30_29) rfl rfl kz) ?_
  show own_Go _ _ _ _ _ _ _ (T2.setTop (mkF m 30 #[.val (.ref p0), .val (.int (1 : Int32)), .val (.ref mr), .val (.ref b2)] [(.ref p0), (.int (0 : Int32)), (.ref b2), (.int (0 : Int32)), (.ref p0)]))
  refine own_by (fun _ kz => own_len X2 hx hZ e2 pm0_h2 (g := (mkF m 30 #[.val (.ref p0), .val (.int (1 : Int32)), .val (.ref mr), .val (.ref b2)] [(.ref p0), (.int (0 : Int32)), (.ref b2), (.int (0 : Int32)), (.ref p0)])) rfl rfl (hb hby d30_30) _ kz) ?_
  show own_Go _ _ _ _ _ _ _ (T2.setTop (mkF m 31 #[.val (.ref p0), .val (.int (1 : Int32)), .val (.ref mr), .val (.ref b2)] [(.int (10 : Int32)), (.int (0 : Int32)), (.ref b2), (.int (0 : Int32)), (.ref p0)]))
  refine own_by (fun _ kz => XS.iloadN X2.here hx rfl (hb hby d30_31) rfl kz) ?_
  show own_Go _ _ _ _ _ _ _ (T2.setTop (mkF m 32 #[.val (.ref p0), .val (.int (1 : Int32)), .val (.ref mr), .val (.ref b2)] [(.int (1 : Int32)), (.int (10 : Int32)), (.int (0 : Int32)), (.ref b2), (.int (0 : Int32)), (.ref p0)]))
  obtain ⟨v3, T3, L3, X3, q3, st3⟩ := own_callS X2 hx hZ hown (ow hw 233 rfl) (ow hw 234 rfl) (ow hw 77 rfl) (ow hw 235 rfl) (by decide) (rm31_1 l Z a0 hw []  h2 n0 Z2 ) (W := 4) (by decide) (by decide) e2 (g := (mkF m 32 #[.val (.ref p0), .val (.int (1 : Int32)), .val (.ref mr), .val (.ref b2)] [(.int (1 : Int32)), (.int (10 : Int32)), (.int (0 : Int32)), (.ref b2), (.int (0 : Int32)), (.ref p0)])) rfl (by rw [hml]; rfl) (argsL := [(.int (10 : Int32)), (.int (1 : Int32))]) (rest := [(.int (0 : Int32)), (.ref b2), (.int (0 : Int32)), (.ref p0)]) (lenOf pd_31 rfl) rfl rfl (by show 2 * 0 + _ ≤ _; exact Nat.le_of_eq rfl) (hb hby d30_32) (by decide) (by decide)
  obtain ⟨rfl, Nq3, hh3⟩ := q3
  have N3 := Fr.app N0 Nq3
  refine own_by st3 ?_
  show own_Go _ _ _ _ _ _ _ (T3.setTop (mkF m 35 #[.val (.ref p0), .val (.int (1 : Int32)), .val (.ref mr), .val (.ref b2)] [(.int (1 : Int32)), (.int (0 : Int32)), (.ref b2), (.int (0 : Int32)), (.ref p0)]))
  obtain ⟨clz4, Arz4, qkz4, -⟩ := id V2
  obtain ⟨T4, h4, L4, X4, e4, N4, Kc4, Vc4, st4⟩ := cpA X3 hx hZ hown (ow hw 236 rfl) (ow hw 239 rfl) (ow hw 237 rfl) (ow hw 238 rfl) hh3 pm0_h2 V2 (us := [(.ref d1)]) (Or.inr ⟨rfl, rfl, ⟨Sto.ofV Arz4 qkz4 Ov2 (Ins.of_exa pm1_h2 (ow hw 81 rfl)), trivial⟩⟩) (sp := (0 : Int32)) (dp := (0 : Int32)) (nn := (1 : Int32)) (by decide) (by decide) (by decide) (by decide) (by decide) rfl (by decide) N3 ge_b2 (g := (mkF m 35 #[.val (.ref p0), .val (.int (1 : Int32)), .val (.ref mr), .val (.ref b2)] [(.int (1 : Int32)), (.int (0 : Int32)), (.ref b2), (.int (0 : Int32)), (.ref p0)])) rfl (by rw [hml]; rfl) rfl (hb hby d30_35) (by decide) (W := 0) (by show 2 * 0 + _ ≤ _; exact Nat.le_of_eq rfl) (by decide)
  have K4 := K2.trans Kc4 (allS (Or.inr sz_b2) all0)
  have Vd4 : Arv Z h4 b2 k2 (.object "java/lang/Object") (1 : Int32) [(.ref d1)] .null := Vc4
  have Ed4 := Ea2.keep Kc4
  refine own_by st4 ?_
  show own_Go _ _ _ _ _ _ _ (T4.setTop (mkF m 38 #[.val (.ref p0), .val (.int (1 : Int32)), .val (.ref mr), .val (.ref b2)] []))
  refine own_by (fun _ kz => XS.aloadN X4.here hx rfl (hb hby d30_38) rfl rfl kz) ?_
  show own_Go _ _ _ _ _ _ _ (T4.setTop (mkF m 39 #[.val (.ref p0), .val (.int (1 : Int32)), .val (.ref mr), .val (.ref b2)] [(.ref b2)]))
  exact own_retA X4 hx hlk Bd.returns rfl (hb hby d30_39) (by decide) (by decide) ⟨b2, k2, rfl, N4, by rw [e4]; exact K4, sz_b2, by rw [e4]; exact Ed4, by rw [e4]; exact Vd4, Ov2⟩
theorem d29_0 : decode jdk_65_method_119_code 0 = .ok (.aload_n 0, 1) := by decide +kernel
theorem d29_1 : decode jdk_65_method_119_code 1 = .ok (.iload_n 1, 1) := by decide +kernel
theorem d29_2 : decode jdk_65_method_119_code 2 = .ok (.aload_n 0, 1) := by decide +kernel
theorem d29_3 : decode jdk_65_method_119_code 3 = .ok (.invokevirtual 86, 3) := by decide +kernel
theorem d29_6 : decode jdk_65_method_119_code 6 = .ok (.invokestatic 300, 3) := by decide +kernel
theorem d29_9 : decode jdk_65_method_119_code 9 = .ok (.areturn, 1) := by decide +kernel
theorem pf_29 : plainFor (⟨"java/util/Arrays", "copyOf", "([Ljava/lang/Object;I)[Ljava/lang/Object;"⟩ : MethodName) = true := by first | exact plainFor_of_name (by first | (simp [plainName, overriddenIn]; done) | decide +kernel) | decide +kernel
theorem pd_29 : parseMethodDescriptor "([Ljava/lang/Object;I)[Ljava/lang/Object;" = some ⟨[(.array (.object "java/lang/Object")), .int], some (.array (.object "java/lang/Object"))⟩ := by decide +kernel
theorem ef_29_1 (m : MethodId) (p0 : Addr) : entryFrame m #[(.ref p0), (.int (1 : Int32))] 2 = mkF m 0 #[.val (.ref p0), .val (.int (1 : Int32))] [] := by first | (simp [entryFrame, mkF, argsToLocals, Value.category]; done) | rfl
def Q29_1 (Z : State) (p0 : Addr) (mr : Addr) (kA : ClassId) (d1 : Addr) (h0 : Heap) (n0 : Nat) (v : Option Value) (h : Heap) (L : List Loc) : Prop := ∃ (r : Addr) (kB : ClassId), v = some (.ref r) ∧ Fr n0 L ∧ Keep h0 h [] ∧ h0.size ≤ r ∧ Exa Z h r "[Ljava/lang/Object;" ∧ Arv Z h r kB (.object "java/lang/Object") (1 : Int32) [(.ref d1)] .null ∧ Ovr Z kB "java/lang/Object"
theorem rm29_1 (l : Launch) (Z : State) (a0 : Array Value) (hw : ∀ d ∈ tables_1, d.before a0 Z = true) (ws : List Jvm.Cond) (p0 : Addr) (h0 : Heap) (n0 : Nat) (Z0 : n0 ≤ h0.size) (mr : Addr) (MI : own_Mi Z "[Ljava/lang/Object;" mr) (kA : ClassId) (d1 : Addr) (pm0 : Exa Z h0 p0 "[Ljava/lang/Object;") (pm1 : Arv Z h0 p0 kA (.object "java/lang/Object") (10 : Int32) [(.ref d1), .null, .null, .null, .null, .null, .null, .null, .null, .null] .null) (pm2 : Exa Z h0 d1 "java/lang/Double") :
    own_Met l Z (⟨"java/util/Arrays", "copyOf", "([Ljava/lang/Object;I)[Ljava/lang/Object;"⟩ : MethodName) jdk_65_method_119_code 2 (some (.array (.object "java/lang/Object"))) ws ({ frames := 2, cells := 1, slots := 1, locals := 55 } : Room) #[(.ref p0), (.int (1 : Int32))] h0 (Q29_1 Z p0 mr kA d1 h0 n0) := by
  refine MetFree.of_bodySF pf_29 hisR ?_
  intro p e s m args below meth c s₁ Bd hml0 hP hK
  obtain ⟨rfl, hZ, hh⟩ := hP
  have hx := Bd.exec
  have hby := Bd.bytes
  have hlk : meth.locks = false := BodyLoose.notSynchronized Bd
  have hml : c.maxLocals = 2 := hml0
  have hown : s.vm.findClass "java/util/Arrays" = some m.cls := findClass_of_methodNamed Bd.named
  have hnm := (name_of_methodNamed Bd.named Bd.method).1
  have X0 : Stand p l e ({ frames := 2, cells := 1, slots := 1, locals := 55 } : Room) s m #[(.ref p0), (.int (1 : Int32))] below meth c s₁ [] 0 0 := Stand.of_body Bd
  have e0 : s₁.heap = h0 := by rw [← hh, Bd.state]; rfl
  have N0 := Fr.nil n0
  have K0 := Keep.refl h0 []
  show own_Go _ _ _ _ (Q29_1 Z p0 mr kA d1 h0 n0) _ _ _
  refine own_by (fun _ k => castTop (ef_29_1 m p0) k) ?_
  show own_Go _ _ _ _ _ _ _ (s₁.setTop (mkF m 0 #[.val (.ref p0), .val (.int (1 : Int32))] []))
  refine own_by (fun _ kz => XS.aloadN X0.here hx rfl (hb hby d29_0) rfl rfl kz) ?_
  refine own_by (fun _ kz => XS.iloadN X0.here hx rfl (hb hby d29_1) rfl kz) ?_
  refine own_by (fun _ kz => XS.aloadN X0.here hx rfl (hb hby d29_2) rfl rfl kz) ?_
  show own_Go _ _ _ _ _ _ _ (s₁.setTop (mkF m 3 #[.val (.ref p0), .val (.int (1 : Int32))] [(.ref p0), (.int (1 : Int32)), (.ref p0)]))
  obtain ⟨T1, X1, e1, st1⟩ := own_gc X0 hx hZ hown (ow hw 222 rfl) (ow hw 223 rfl) (ow hw 203 rfl) (ow hw 225 rfl) (ow hw 224 rfl) (ow hw 226 rfl) e0 pm0 MI (g := (mkF m 3 #[.val (.ref p0), .val (.int (1 : Int32))] [(.ref p0), (.int (1 : Int32)), (.ref p0)])) rfl (by rw [hml]; rfl) rfl (hb hby d29_3) (by decide) (W := 2) (by show 2 * 0 + _ ≤ _; exact Nat.le_of_eq rfl) (by decide)
  refine own_by st1 ?_
  show own_Go _ _ _ _ _ _ _ (T1.setTop (mkF m 6 #[.val (.ref p0), .val (.int (1 : Int32))] [(.ref mr), (.int (1 : Int32)), (.ref p0)]))
  obtain ⟨v2, T2, L2, X2, q2, st2⟩ := own_callS X1 hx hZ hown (ow hw 228 rfl) (ow hw 229 rfl) (ow hw 220 rfl) (ow hw 230 rfl) (by decide) (rm30_1 l Z a0 hw [] p0 mr h0 n0 Z0 mr MI kA d1 pm1 pm2) (W := 0) (by decide) (by decide) e1 (g := (mkF m 6 #[.val (.ref p0), .val (.int (1 : Int32))] [(.ref mr), (.int (1 : Int32)), (.ref p0)])) rfl (by rw [hml]; rfl) (argsL := [(.ref p0), (.int (1 : Int32)), (.ref mr)]) (rest := []) (lenOf pd_30 rfl) rfl rfl (by show 2 * 0 + _ ≤ _; exact Nat.le_of_eq rfl) (hb hby d29_6) (by decide) (by decide)
  obtain ⟨r2, kB2, rfl, Nq2, Kq2, o2_0, o2_1, o2_2, o2_3⟩ := q2
  have N2 := Fr.app N0 Nq2
  have Z2 : n0 ≤ T2.heap.size := Nat.le_trans Z0 Kq2.1
  have K2 := K0.trans Kq2 all0
  have pm0_h2 := pm0.keep Kq2
  have pm1_h2 := pm1.keep Kq2 nin0
  have pm2_h2 := pm2.keep Kq2
  have ge_r2 : n0 ≤ r2 := Nat.le_trans Z0 o2_0
  have sz_r2 : h0.size ≤ r2 := Nat.le_trans K0.1 o2_0
  have ne_p0_r2 : p0 ≠ r2 := Nat.ne_of_lt (Nat.lt_of_lt_of_le pm0.lt o2_0)
  have ne_d1_r2 : d1 ≠ r2 := Nat.ne_of_lt (Nat.lt_of_lt_of_le pm2.lt o2_0)
  refine own_by st2 ?_
  show own_Go _ _ _ _ _ _ _ (T2.setTop (mkF m 9 #[.val (.ref p0), .val (.int (1 : Int32))] [(.ref r2)]))
  exact own_retA X2 hx hlk Bd.returns rfl (hb hby d29_9) (by decide) (by decide) ⟨r2, kB2, rfl, N2, K2, sz_r2, o2_1, o2_2, o2_3⟩
theorem d28_0 : decode jdk_38_method_16_code 0 = .ok (.aload_n 0, 1) := by decide +kernel
theorem d28_1 : decode jdk_38_method_16_code 1 = .ok (.getfield 9, 3) := by decide +kernel
theorem d28_4 : decode jdk_38_method_16_code 4 = .ok (.aload_n 0, 1) := by decide +kernel
theorem d28_5 : decode jdk_38_method_16_code 5 = .ok (.getfield 48, 3) := by decide +kernel
theorem d28_8 : decode jdk_38_method_16_code 8 = .ok (.invokestatic 66, 3) := by decide +kernel
theorem d28_11 : decode jdk_38_method_16_code 11 = .ok (.areturn, 1) := by decide +kernel
theorem pf_28 : plainFor (⟨"java/util/ArrayList", "toArray", "()[Ljava/lang/Object;"⟩ : MethodName) = true := by first | exact plainFor_of_name (by first | (simp [plainName, overriddenIn]; done) | decide +kernel) | decide +kernel
theorem pd_28 : parseMethodDescriptor "()[Ljava/lang/Object;" = some ⟨[], some (.array (.object "java/lang/Object"))⟩ := by decide +kernel
theorem ef_28_1 (m : MethodId) (p0 : Addr) : entryFrame m #[(.ref p0)] 1 = mkF m 0 #[.val (.ref p0)] [] := by first | (simp [entryFrame, mkF, argsToLocals, Value.category]; done) | rfl
def Q28_1 (Z : State) (p0 : Addr) (mr : Addr) (ea : Addr) (kA : ClassId) (d1 : Addr) (h0 : Heap) (n0 : Nat) (v : Option Value) (h : Heap) (L : List Loc) : Prop := ∃ (r : Addr) (kB : ClassId), v = some (.ref r) ∧ Fr n0 L ∧ Keep h0 h [] ∧ h0.size ≤ r ∧ Exa Z h r "[Ljava/lang/Object;" ∧ Arv Z h r kB (.object "java/lang/Object") (1 : Int32) [(.ref d1)] .null ∧ Ovr Z kB "java/lang/Object"
theorem rm28_1 (l : Launch) (Z : State) (a0 : Array Value) (hw : ∀ d ∈ tables_1, d.before a0 Z = true) (ws : List Jvm.Cond) (p0 : Addr) (h0 : Heap) (n0 : Nat) (Z0 : n0 ≤ h0.size) (mr : Addr) (MI : own_Mi Z "[Ljava/lang/Object;" mr) (ea : Addr) (kA : ClassId) (d1 : Addr) (pm0 : Fld Z h0 p0 "java/util/ArrayList" "elementData" "[Ljava/lang/Object;" (.ref ea)) (pm1 : Fld Z h0 p0 "java/util/ArrayList" "size" "I" (.int (1 : Int32))) (pm2 : Exa Z h0 ea "[Ljava/lang/Object;") (pm3 : Arv Z h0 ea kA (.object "java/lang/Object") (10 : Int32) [(.ref d1), .null, .null, .null, .null, .null, .null, .null, .null, .null] .null) (pm4 : Exa Z h0 d1 "java/lang/Double") :
    own_Met l Z (⟨"java/util/ArrayList", "toArray", "()[Ljava/lang/Object;"⟩ : MethodName) jdk_38_method_16_code 1 (some (.array (.object "java/lang/Object"))) ws ({ frames := 3, cells := 1, slots := 1, locals := 68 } : Room) #[(.ref p0)] h0 (Q28_1 Z p0 mr ea kA d1 h0 n0) := by
  refine MetFree.of_bodySF pf_28 hisR ?_
  intro p e s m args below meth c s₁ Bd hml0 hP hK
  obtain ⟨rfl, hZ, hh⟩ := hP
  have hx := Bd.exec
  have hby := Bd.bytes
  have hlk : meth.locks = false := BodyLoose.notSynchronized Bd
  have hml : c.maxLocals = 1 := hml0
  have hown : s.vm.findClass "java/util/ArrayList" = some m.cls := findClass_of_methodNamed Bd.named
  have hnm := (name_of_methodNamed Bd.named Bd.method).1
  have X0 : Stand p l e ({ frames := 3, cells := 1, slots := 1, locals := 68 } : Room) s m #[(.ref p0)] below meth c s₁ [] 0 0 := Stand.of_body Bd
  have e0 : s₁.heap = h0 := by rw [← hh, Bd.state]; rfl
  have N0 := Fr.nil n0
  have K0 := Keep.refl h0 []
  show own_Go _ _ _ _ (Q28_1 Z p0 mr ea kA d1 h0 n0) _ _ _
  refine own_by (fun _ k => castTop (ef_28_1 m p0) k) ?_
  show own_Go _ _ _ _ _ _ _ (s₁.setTop (mkF m 0 #[.val (.ref p0)] []))
  refine own_by (fun _ kz => XS.aloadN X0.here hx rfl (hb hby d28_0) rfl rfl kz) ?_
  obtain ⟨T1, X1, e1, st1⟩ := getF X0 hx hZ hown (host := "") (Or.inl (ow hw 30 rfl)) Via.refl e0 pm0 (g := (mkF m 1 #[.val (.ref p0)] [(.ref p0)])) rfl rfl (hb hby d28_1)
  refine own_by st1 ?_
  show own_Go _ _ _ _ _ _ _ (T1.setTop (mkF m 4 #[.val (.ref p0)] [(.ref ea)]))
  refine own_by (fun _ kz => XS.aloadN X1.here hx rfl (hb hby d28_4) rfl rfl kz) ?_
  obtain ⟨T2, X2, e2, st2⟩ := getF X1 hx hZ hown (host := "") (Or.inl (ow hw 58 rfl)) Via.refl e1 pm1 (g := (mkF m 5 #[.val (.ref p0)] [(.ref p0), (.ref ea)])) rfl rfl (hb hby d28_5)
  refine own_by st2 ?_
  show own_Go _ _ _ _ _ _ _ (T2.setTop (mkF m 8 #[.val (.ref p0)] [(.int (1 : Int32)), (.ref ea)]))
  obtain ⟨v3, T3, L3, X3, q3, st3⟩ := own_callS X2 hx hZ hown (ow hw 218 rfl) (ow hw 219 rfl) (ow hw 220 rfl) (ow hw 221 rfl) (by decide) (rm29_1 l Z a0 hw [] ea h0 n0 Z0 mr MI kA d1 pm2 pm3 pm4) (W := 0) (by decide) (by decide) e2 (g := (mkF m 8 #[.val (.ref p0)] [(.int (1 : Int32)), (.ref ea)])) rfl (by rw [hml]; rfl) (argsL := [(.ref ea), (.int (1 : Int32))]) (rest := []) (lenOf pd_29 rfl) rfl rfl (by show 2 * 0 + _ ≤ _; exact Nat.le_of_eq rfl) (hb hby d28_8) (by decide) (by decide)
  obtain ⟨r3, kB3, rfl, Nq3, Kq3, o3_0, o3_1, o3_2, o3_3⟩ := q3
  have N3 := Fr.app N0 Nq3
  have Z3 : n0 ≤ T3.heap.size := Nat.le_trans Z0 Kq3.1
  have K3 := K0.trans Kq3 all0
  have pm0_h3 := pm0.keep Kq3 nin0
  have pm1_h3 := pm1.keep Kq3 nin0
  have pm2_h3 := pm2.keep Kq3
  have pm3_h3 := pm3.keep Kq3 nin0
  have pm4_h3 := pm4.keep Kq3
  have ge_r3 : n0 ≤ r3 := Nat.le_trans Z0 o3_0
  have sz_r3 : h0.size ≤ r3 := Nat.le_trans K0.1 o3_0
  have ne_p0_r3 : p0 ≠ r3 := Nat.ne_of_lt (Nat.lt_of_lt_of_le pm0.lt o3_0)
  have ne_ea_r3 : ea ≠ r3 := Nat.ne_of_lt (Nat.lt_of_lt_of_le pm2.lt o3_0)
  have ne_d1_r3 : d1 ≠ r3 := Nat.ne_of_lt (Nat.lt_of_lt_of_le pm4.lt o3_0)
  refine own_by st3 ?_
  show own_Go _ _ _ _ _ _ _ (T3.setTop (mkF m 11 #[.val (.ref p0)] [(.ref r3)]))
  exact own_retA X3 hx hlk Bd.returns rfl (hb hby d28_11) (by decide) (by decide) ⟨r3, kB3, rfl, N3, K3, sz_r3, o3_1, o3_2, o3_3⟩
theorem ef_31_2 (m : MethodId)  : entryFrame m #[(.int (10 : Int32)), (.int (2 : Int32))] 2 = mkF m 0 #[.val (.int (10 : Int32)), .val (.int (2 : Int32))] [] := by first | (simp [entryFrame, mkF, argsToLocals, Value.category]; done) | rfl
def Q31_2 (Z : State)  (h0 : Heap) (n0 : Nat) (v : Option Value) (h : Heap) (L : List Loc) : Prop := v = some (.int (2 : Int32)) ∧ Fr n0 L ∧ h = h0
theorem rm31_2 (l : Launch) (Z : State) (a0 : Array Value) (hw : ∀ d ∈ tables_1, d.before a0 Z = true) (ws : List Jvm.Cond)  (h0 : Heap) (n0 : Nat) (Z0 : n0 ≤ h0.size)  :
    own_Met l Z (⟨"java/lang/Math", "min", "(II)I"⟩ : MethodName) jdk_29_method_69_code 2 (some .int) ws ({ frames := 0, cells := 0, slots := 0, locals := 0 } : Room) #[(.int (10 : Int32)), (.int (2 : Int32))] h0 (Q31_2 Z  h0 n0) := by
  refine MetFree.of_bodySF pf_31 hisR ?_
  intro p e s m args below meth c s₁ Bd hml0 hP hK
  obtain ⟨rfl, hZ, hh⟩ := hP
  have hx := Bd.exec
  have hby := Bd.bytes
  have hlk : meth.locks = false := BodyLoose.notSynchronized Bd
  have hml : c.maxLocals = 2 := hml0
  have hown : s.vm.findClass "java/lang/Math" = some m.cls := findClass_of_methodNamed Bd.named
  have hnm := (name_of_methodNamed Bd.named Bd.method).1
  have X0 : Stand p l e ({ frames := 0, cells := 0, slots := 0, locals := 0 } : Room) s m #[(.int (10 : Int32)), (.int (2 : Int32))] below meth c s₁ [] 0 0 := Stand.of_body Bd
  have e0 : s₁.heap = h0 := by rw [← hh, Bd.state]; rfl
  have N0 := Fr.nil n0
  show own_Go _ _ _ _ (Q31_2 Z  h0 n0) _ _ _
  refine own_by (fun _ k => castTop (ef_31_2 m ) k) ?_
  show own_Go _ _ _ _ _ _ _ (s₁.setTop (mkF m 0 #[.val (.int (10 : Int32)), .val (.int (2 : Int32))] []))
  refine own_by (fun _ kz => XS.iloadN X0.here hx rfl (hb hby d31_0) rfl kz) ?_
  refine own_by (fun _ kz => XS.iloadN X0.here hx rfl (hb hby d31_1) rfl kz) ?_
  show own_Go _ _ _ _ _ _ _ (s₁.setTop (mkF m 2 #[.val (.int (10 : Int32)), .val (.int (2 : Int32))] [(.int (2 : Int32)), (.int (10 : Int32))]))
  refine own_by (fun _ kz => XS.icmpYes X0.here hx rfl (pc0 := 2) (pc' := 9) rfl (hb hby d31_2) rfl (tlt (by decide : ((2 : Int32) < (10 : Int32)))).2.2.1 (by decide) (by decide) kz) ?_
  show own_Go _ _ _ _ _ _ _ (s₁.setTop (mkF m 9 #[.val (.int (10 : Int32)), .val (.int (2 : Int32))] []))
  refine own_by (fun _ kz => XS.iloadN X0.here hx rfl (hb hby d31_9) rfl kz) ?_
  show own_Go _ _ _ _ _ _ _ (s₁.setTop (mkF m 10 #[.val (.int (10 : Int32)), .val (.int (2 : Int32))] [(.int (2 : Int32))]))
  exact own_retI X0 hx hlk Bd.returns (hb hby d31_10) (by decide) (by decide) ⟨rfl, N0, e0⟩
theorem ef_30_2 (m : MethodId) (p0 : Addr) (mr : Addr) : entryFrame m #[(.ref p0), (.int (2 : Int32)), (.ref mr)] 4 = mkF m 0 #[.val (.ref p0), .val (.int (2 : Int32)), .val (.ref mr), .unset] [] := by first | (simp [entryFrame, mkF, argsToLocals, Value.category]; done) | rfl
def Q30_2 (Z : State) (p0 : Addr) (mr : Addr) (mr : Addr) (kA : ClassId) (d1 : Addr) (d2 : Addr) (h0 : Heap) (n0 : Nat) (v : Option Value) (h : Heap) (L : List Loc) : Prop := ∃ (r : Addr) (kB : ClassId), v = some (.ref r) ∧ Fr n0 L ∧ Keep h0 h [] ∧ h0.size ≤ r ∧ Exa Z h r "[Ljava/lang/Object;" ∧ Arv Z h r kB (.object "java/lang/Object") (2 : Int32) [(.ref d1), (.ref d2)] .null ∧ Ovr Z kB "java/lang/Object"
theorem rm30_2 (l : Launch) (Z : State) (a0 : Array Value) (hw : ∀ d ∈ tables_1, d.before a0 Z = true) (ws : List Jvm.Cond) (p0 : Addr) (mr : Addr) (h0 : Heap) (n0 : Nat) (Z0 : n0 ≤ h0.size) (mr : Addr) (MI : own_Mi Z "[Ljava/lang/Object;" mr) (kA : ClassId) (d1 : Addr) (d2 : Addr) (pm0 : Arv Z h0 p0 kA (.object "java/lang/Object") (10 : Int32) [(.ref d1), (.ref d2), .null, .null, .null, .null, .null, .null, .null, .null] .null) (pm1 : Exa Z h0 d1 "java/lang/Double") (pm2 : Exa Z h0 d2 "java/lang/Double") :
    own_Met l Z (⟨"java/util/Arrays", "copyOf", "([Ljava/lang/Object;ILjava/lang/Class;)[Ljava/lang/Object;"⟩ : MethodName) jdk_65_method_120_code 4 (some (.array (.object "java/lang/Object"))) ws ({ frames := 1, cells := 1, slots := 2, locals := 40 } : Room) #[(.ref p0), (.int (2 : Int32)), (.ref mr)] h0 (Q30_2 Z p0 mr mr kA d1 d2 h0 n0) := by
  refine MetFree.of_bodySF pf_30 hisR ?_
  intro p e s m args below meth c s₁ Bd hml0 hP hK
  obtain ⟨rfl, hZ, hh⟩ := hP
  have hx := Bd.exec
  have hby := Bd.bytes
  have hlk : meth.locks = false := BodyLoose.notSynchronized Bd
  have hml : c.maxLocals = 4 := hml0
  have hown : s.vm.findClass "java/util/Arrays" = some m.cls := findClass_of_methodNamed Bd.named
  have hnm := (name_of_methodNamed Bd.named Bd.method).1
  have X0 : Stand p l e ({ frames := 1, cells := 1, slots := 2, locals := 40 } : Room) s m #[(.ref p0), (.int (2 : Int32)), (.ref mr)] below meth c s₁ [] 0 0 := Stand.of_body Bd
  have e0 : s₁.heap = h0 := by rw [← hh, Bd.state]; rfl
  have N0 := Fr.nil n0
  have K0 := Keep.refl h0 []
  show own_Go _ _ _ _ (Q30_2 Z p0 mr mr kA d1 d2 h0 n0) _ _ _
  refine own_by (fun _ k => castTop (ef_30_2 m p0 mr) k) ?_
  show own_Go _ _ _ _ _ _ _ (s₁.setTop (mkF m 0 #[.val (.ref p0), .val (.int (2 : Int32)), .val (.ref mr), .unset] []))
  refine own_by (fun _ kz => XS.aloadN X0.here hx rfl (hb hby d30_0) rfl rfl kz) ?_
  show own_Go _ _ _ _ _ _ _ (s₁.setTop (mkF m 1 #[.val (.ref p0), .val (.int (2 : Int32)), .val (.ref mr), .unset] [(.ref mr)]))
  obtain ⟨T1, X1, e1, st1⟩ := own_ldcC X0 hx hZ hown (ow hw 231 rfl) e0 MI (g := (mkF m 1 #[.val (.ref p0), .val (.int (2 : Int32)), .val (.ref mr), .unset] [(.ref mr)])) rfl (hb hby d30_1)
  refine own_by st1 ?_
  show own_Go _ _ _ _ _ _ _ (T1.setTop (mkF m 3 #[.val (.ref p0), .val (.int (2 : Int32)), .val (.ref mr), .unset] [(.ref mr), (.ref mr)]))
  refine own_by (fun _ kz => Jvm.RoadKit.acmp (g := (mkF m 3 #[.val (.ref p0), .val (.int (2 : Int32)), .val (.ref mr), .unset] [(.ref mr), (.ref mr)])) X1 hx rfl rfl rfl (pc0 := 3) (pc' := 6) (same := true) rfl (hb hby d30_3) rfl (decide_eq_true rfl) (by decide) (by decide) kz) ?_
  show own_Go _ _ _ _ _ _ _ (T1.setTop (mkF m 6 #[.val (.ref p0), .val (.int (2 : Int32)), .val (.ref mr), .unset] []))
  refine own_by (fun _ kz => XS.iloadN X1.here hx rfl (hb hby d30_6) rfl kz) ?_
  show own_Go _ _ _ _ _ _ _ (T1.setTop (mkF m 7 #[.val (.ref p0), .val (.int (2 : Int32)), .val (.ref mr), .unset] [(.int (2 : Int32))]))
  obtain ⟨T2, h2, k2, X2, e2, E2, A2, Ea2, Ov2, st2⟩ := newRE X1 hx hZ hown (ow hw 232 rfl) (ow hw 80 rfl) e1 (g := (mkF m 7 #[.val (.ref p0), .val (.int (2 : Int32)), .val (.ref mr), .unset] [(.int (2 : Int32))])) rfl (hb hby d30_7) rfl (by decide) (cap := 2) (by decide) (by decide) (by decide) (by decide) (ad := "[Ljava/lang/Object;") (by decide)
  obtain ⟨b2, g2⟩ : ∃ z, z = h0.size := ⟨_, rfl⟩
  rw [← g2] at A2 Ea2 st2
  have ge_b2 : n0 ≤ b2 := Nat.le_trans Z0 (Nat.le_of_eq g2.symm)
  have sz_b2 : h0.size ≤ b2 := Nat.le_trans K0.1 (Nat.le_of_eq g2.symm)
  have ne_p0_b2 : p0 ≠ b2 := by rw [g2]; exact Nat.ne_of_lt pm0.lt
  have ne_d1_b2 : d1 ≠ b2 := by rw [g2]; exact Nat.ne_of_lt pm1.lt
  have ne_d2_b2 : d2 ≠ b2 := by rw [g2]; exact Nat.ne_of_lt pm2.lt
  have Z2 : n0 ≤ h2.size := Nat.le_trans Z0 E2.1
  have K2 := K0.ext E2
  have pm0_h2 := pm0.ext E2
  have pm1_h2 := pm1.ext E2
  have pm2_h2 := pm2.ext E2
  have V2 : Arv Z h2 b2 k2 (.object "java/lang/Object") (2 : Int32) [.null, .null] .null := (Arv.new A2 (by decide)).pad (fun i => pad_rep [] _ 2 i)
  refine own_by st2 ?_
  show own_Go _ _ _ _ _ _ _ (T2.setTop (mkF m 10 #[.val (.ref p0), .val (.int (2 : Int32)), .val (.ref mr), .unset] [(.ref b2)]))
  refine own_by (fun _ kz => XS.goto X2.here hx rfl (pc0 := 10) (pc' := 24) rfl (hb hby d30_10) (by decide) (by decide) kz) ?_
  show own_Go _ _ _ _ _ _ _ (T2.setTop (mkF m 24 #[.val (.ref p0), .val (.int (2 : Int32)), .val (.ref mr), .unset] [(.ref b2)]))
  refine own_by (fun _ kz => XS.astoreN X2.here hx rfl (hb hby d30_24) rfl rfl (l' := #[.val (.ref p0), .val (.int (2 : Int32)), .val (.ref mr), .val (.ref b2)]) rfl kz) ?_
  show own_Go _ _ _ _ _ _ _ (T2.setTop (mkF m 25 #[.val (.ref p0), .val (.int (2 : Int32)), .val (.ref mr), .val (.ref b2)] []))
  refine own_by (fun _ kz => XS.aloadN X2.here hx rfl (hb hby d30_25) rfl rfl kz) ?_
  refine own_by (fun _ kz => XS.iconst X2.here hx rfl (hb hby d30_26) kz) ?_
  refine own_by (fun _ kz => XS.aloadN X2.here hx rfl (hb hby d30_27) rfl rfl kz) ?_
  refine own_by (fun _ kz => XS.iconst X2.here hx rfl (hb hby d30_28) kz) ?_
  refine own_by (fun _ kz => XS.aloadN X2.here hx rfl (hb hby d30_29) rfl rfl kz) ?_
  show own_Go _ _ _ _ _ _ _ (T2.setTop (mkF m 30 #[.val (.ref p0), .val (.int (2 : Int32)), .val (.ref mr), .val (.ref b2)] [(.ref p0), (.int (0 : Int32)), (.ref b2), (.int (0 : Int32)), (.ref p0)]))
  refine own_by (fun _ kz => own_len X2 hx hZ e2 pm0_h2 (g := (mkF m 30 #[.val (.ref p0), .val (.int (2 : Int32)), .val (.ref mr), .val (.ref b2)] [(.ref p0), (.int (0 : Int32)), (.ref b2), (.int (0 : Int32)), (.ref p0)])) rfl rfl (hb hby d30_30) _ kz) ?_
  show own_Go _ _ _ _ _ _ _ (T2.setTop (mkF m 31 #[.val (.ref p0), .val (.int (2 : Int32)), .val (.ref mr), .val (.ref b2)] [(.int (10 : Int32)), (.int (0 : Int32)), (.ref b2), (.int (0 : Int32)), (.ref p0)]))
  refine own_by (fun _ kz => XS.iloadN X2.here hx rfl (hb hby d30_31) rfl kz) ?_
  show own_Go _ _ _ _ _ _ _ (T2.setTop (mkF m 32 #[.val (.ref p0), .val (.int (2 : Int32)), .val (.ref mr), .val (.ref b2)] [(.int (2 : Int32)), (.int (10 : Int32)), (.int (0 : Int32)), (.ref b2), (.int (0 : Int32)), (.ref p0)]))
  obtain ⟨v3, T3, L3, X3, q3, st3⟩ := own_callS X2 hx hZ hown (ow hw 233 rfl) (ow hw 234 rfl) (ow hw 77 rfl) (ow hw 235 rfl) (by decide) (rm31_2 l Z a0 hw []  h2 n0 Z2 ) (W := 4) (by decide) (by decide) e2 (g := (mkF m 32 #[.val (.ref p0), .val (.int (2 : Int32)), .val (.ref mr), .val (.ref b2)] [(.int (2 : Int32)), (.int (10 : Int32)), (.int (0 : Int32)), (.ref b2), (.int (0 : Int32)), (.ref p0)])) rfl (by rw [hml]; rfl) (argsL := [(.int (10 : Int32)), (.int (2 : Int32))]) (rest := [(.int (0 : Int32)), (.ref b2), (.int (0 : Int32)), (.ref p0)]) (lenOf pd_31 rfl) rfl rfl (by show 2 * 0 + _ ≤ _; exact Nat.le_of_eq rfl) (hb hby d30_32) (by decide) (by decide)
  obtain ⟨rfl, Nq3, hh3⟩ := q3
  have N3 := Fr.app N0 Nq3
  refine own_by st3 ?_
  show own_Go _ _ _ _ _ _ _ (T3.setTop (mkF m 35 #[.val (.ref p0), .val (.int (2 : Int32)), .val (.ref mr), .val (.ref b2)] [(.int (2 : Int32)), (.int (0 : Int32)), (.ref b2), (.int (0 : Int32)), (.ref p0)]))
  obtain ⟨clz4, Arz4, qkz4, -⟩ := id V2
  obtain ⟨T4, h4, L4, X4, e4, N4, Kc4, Vc4, st4⟩ := cpA X3 hx hZ hown (ow hw 236 rfl) (ow hw 239 rfl) (ow hw 237 rfl) (ow hw 238 rfl) hh3 pm0_h2 V2 (us := [(.ref d1), (.ref d2)]) (Or.inr ⟨rfl, rfl, ⟨Sto.ofV Arz4 qkz4 Ov2 (Ins.of_exa pm1_h2 (ow hw 81 rfl)), ⟨Sto.ofV Arz4 qkz4 Ov2 (Ins.of_exa pm2_h2 (ow hw 81 rfl)), trivial⟩⟩⟩) (sp := (0 : Int32)) (dp := (0 : Int32)) (nn := (2 : Int32)) (by decide) (by decide) (by decide) (by decide) (by decide) rfl (by decide) N3 ge_b2 (g := (mkF m 35 #[.val (.ref p0), .val (.int (2 : Int32)), .val (.ref mr), .val (.ref b2)] [(.int (2 : Int32)), (.int (0 : Int32)), (.ref b2), (.int (0 : Int32)), (.ref p0)])) rfl (by rw [hml]; rfl) rfl (hb hby d30_35) (by decide) (W := 0) (by show 2 * 0 + _ ≤ _; exact Nat.le_of_eq rfl) (by decide)
  have K4 := K2.trans Kc4 (allS (Or.inr sz_b2) all0)
  have Vd4 : Arv Z h4 b2 k2 (.object "java/lang/Object") (2 : Int32) [(.ref d1), (.ref d2)] .null := Vc4
  have Ed4 := Ea2.keep Kc4
  refine own_by st4 ?_
  show own_Go _ _ _ _ _ _ _ (T4.setTop (mkF m 38 #[.val (.ref p0), .val (.int (2 : Int32)), .val (.ref mr), .val (.ref b2)] []))
  refine own_by (fun _ kz => XS.aloadN X4.here hx rfl (hb hby d30_38) rfl rfl kz) ?_
  show own_Go _ _ _ _ _ _ _ (T4.setTop (mkF m 39 #[.val (.ref p0), .val (.int (2 : Int32)), .val (.ref mr), .val (.ref b2)] [(.ref b2)]))
  exact own_retA X4 hx hlk Bd.returns rfl (hb hby d30_39) (by decide) (by decide) ⟨b2, k2, rfl, N4, by rw [e4]; exact K4, sz_b2, by rw [e4]; exact Ed4, by rw [e4]; exact Vd4, Ov2⟩
theorem ef_29_2 (m : MethodId) (p0 : Addr) : entryFrame m #[(.ref p0), (.int (2 : Int32))] 2 = mkF m 0 #[.val (.ref p0), .val (.int (2 : Int32))] [] := by first | (simp [entryFrame, mkF, argsToLocals, Value.category]; done) | rfl
def Q29_2 (Z : State) (p0 : Addr) (mr : Addr) (kA : ClassId) (d1 : Addr) (d2 : Addr) (h0 : Heap) (n0 : Nat) (v : Option Value) (h : Heap) (L : List Loc) : Prop := ∃ (r : Addr) (kB : ClassId), v = some (.ref r) ∧ Fr n0 L ∧ Keep h0 h [] ∧ h0.size ≤ r ∧ Exa Z h r "[Ljava/lang/Object;" ∧ Arv Z h r kB (.object "java/lang/Object") (2 : Int32) [(.ref d1), (.ref d2)] .null ∧ Ovr Z kB "java/lang/Object"
theorem rm29_2 (l : Launch) (Z : State) (a0 : Array Value) (hw : ∀ d ∈ tables_1, d.before a0 Z = true) (ws : List Jvm.Cond) (p0 : Addr) (h0 : Heap) (n0 : Nat) (Z0 : n0 ≤ h0.size) (mr : Addr) (MI : own_Mi Z "[Ljava/lang/Object;" mr) (kA : ClassId) (d1 : Addr) (d2 : Addr) (pm0 : Exa Z h0 p0 "[Ljava/lang/Object;") (pm1 : Arv Z h0 p0 kA (.object "java/lang/Object") (10 : Int32) [(.ref d1), (.ref d2), .null, .null, .null, .null, .null, .null, .null, .null] .null) (pm2 : Exa Z h0 d1 "java/lang/Double") (pm3 : Exa Z h0 d2 "java/lang/Double") :
    own_Met l Z (⟨"java/util/Arrays", "copyOf", "([Ljava/lang/Object;I)[Ljava/lang/Object;"⟩ : MethodName) jdk_65_method_119_code 2 (some (.array (.object "java/lang/Object"))) ws ({ frames := 2, cells := 1, slots := 2, locals := 55 } : Room) #[(.ref p0), (.int (2 : Int32))] h0 (Q29_2 Z p0 mr kA d1 d2 h0 n0) := by
  refine MetFree.of_bodySF pf_29 hisR ?_
  intro p e s m args below meth c s₁ Bd hml0 hP hK
  obtain ⟨rfl, hZ, hh⟩ := hP
  have hx := Bd.exec
  have hby := Bd.bytes
  have hlk : meth.locks = false := BodyLoose.notSynchronized Bd
  have hml : c.maxLocals = 2 := hml0
  have hown : s.vm.findClass "java/util/Arrays" = some m.cls := findClass_of_methodNamed Bd.named
  have hnm := (name_of_methodNamed Bd.named Bd.method).1
  have X0 : Stand p l e ({ frames := 2, cells := 1, slots := 2, locals := 55 } : Room) s m #[(.ref p0), (.int (2 : Int32))] below meth c s₁ [] 0 0 := Stand.of_body Bd
  have e0 : s₁.heap = h0 := by rw [← hh, Bd.state]; rfl
  have N0 := Fr.nil n0
  have K0 := Keep.refl h0 []
  show own_Go _ _ _ _ (Q29_2 Z p0 mr kA d1 d2 h0 n0) _ _ _
  refine own_by (fun _ k => castTop (ef_29_2 m p0) k) ?_
  show own_Go _ _ _ _ _ _ _ (s₁.setTop (mkF m 0 #[.val (.ref p0), .val (.int (2 : Int32))] []))
  refine own_by (fun _ kz => XS.aloadN X0.here hx rfl (hb hby d29_0) rfl rfl kz) ?_
  refine own_by (fun _ kz => XS.iloadN X0.here hx rfl (hb hby d29_1) rfl kz) ?_
  refine own_by (fun _ kz => XS.aloadN X0.here hx rfl (hb hby d29_2) rfl rfl kz) ?_
  show own_Go _ _ _ _ _ _ _ (s₁.setTop (mkF m 3 #[.val (.ref p0), .val (.int (2 : Int32))] [(.ref p0), (.int (2 : Int32)), (.ref p0)]))
  obtain ⟨T1, X1, e1, st1⟩ := own_gc X0 hx hZ hown (ow hw 222 rfl) (ow hw 223 rfl) (ow hw 203 rfl) (ow hw 225 rfl) (ow hw 224 rfl) (ow hw 226 rfl) e0 pm0 MI (g := (mkF m 3 #[.val (.ref p0), .val (.int (2 : Int32))] [(.ref p0), (.int (2 : Int32)), (.ref p0)])) rfl (by rw [hml]; rfl) rfl (hb hby d29_3) (by decide) (W := 2) (by show 2 * 0 + _ ≤ _; exact Nat.le_of_eq rfl) (by decide)
  refine own_by st1 ?_
  show own_Go _ _ _ _ _ _ _ (T1.setTop (mkF m 6 #[.val (.ref p0), .val (.int (2 : Int32))] [(.ref mr), (.int (2 : Int32)), (.ref p0)]))
  obtain ⟨v2, T2, L2, X2, q2, st2⟩ := own_callS X1 hx hZ hown (ow hw 228 rfl) (ow hw 229 rfl) (ow hw 220 rfl) (ow hw 230 rfl) (by decide) (rm30_2 l Z a0 hw [] p0 mr h0 n0 Z0 mr MI kA d1 d2 pm1 pm2 pm3) (W := 0) (by decide) (by decide) e1 (g := (mkF m 6 #[.val (.ref p0), .val (.int (2 : Int32))] [(.ref mr), (.int (2 : Int32)), (.ref p0)])) rfl (by rw [hml]; rfl) (argsL := [(.ref p0), (.int (2 : Int32)), (.ref mr)]) (rest := []) (lenOf pd_30 rfl) rfl rfl (by show 2 * 0 + _ ≤ _; exact Nat.le_of_eq rfl) (hb hby d29_6) (by decide) (by decide)
  obtain ⟨r2, kB2, rfl, Nq2, Kq2, o2_0, o2_1, o2_2, o2_3⟩ := q2
  have N2 := Fr.app N0 Nq2
  have Z2 : n0 ≤ T2.heap.size := Nat.le_trans Z0 Kq2.1
  have K2 := K0.trans Kq2 all0
  have pm0_h2 := pm0.keep Kq2
  have pm1_h2 := pm1.keep Kq2 nin0
  have pm2_h2 := pm2.keep Kq2
  have pm3_h2 := pm3.keep Kq2
  have ge_r2 : n0 ≤ r2 := Nat.le_trans Z0 o2_0
  have sz_r2 : h0.size ≤ r2 := Nat.le_trans K0.1 o2_0
  have ne_p0_r2 : p0 ≠ r2 := Nat.ne_of_lt (Nat.lt_of_lt_of_le pm0.lt o2_0)
  have ne_d1_r2 : d1 ≠ r2 := Nat.ne_of_lt (Nat.lt_of_lt_of_le pm2.lt o2_0)
  have ne_d2_r2 : d2 ≠ r2 := Nat.ne_of_lt (Nat.lt_of_lt_of_le pm3.lt o2_0)
  refine own_by st2 ?_
  show own_Go _ _ _ _ _ _ _ (T2.setTop (mkF m 9 #[.val (.ref p0), .val (.int (2 : Int32))] [(.ref r2)]))
  exact own_retA X2 hx hlk Bd.returns rfl (hb hby d29_9) (by decide) (by decide) ⟨r2, kB2, rfl, N2, K2, sz_r2, o2_1, o2_2, o2_3⟩
theorem ef_28_2 (m : MethodId) (p0 : Addr) : entryFrame m #[(.ref p0)] 1 = mkF m 0 #[.val (.ref p0)] [] := by first | (simp [entryFrame, mkF, argsToLocals, Value.category]; done) | rfl
def Q28_2 (Z : State) (p0 : Addr) (mr : Addr) (ea : Addr) (kA : ClassId) (d1 : Addr) (d2 : Addr) (h0 : Heap) (n0 : Nat) (v : Option Value) (h : Heap) (L : List Loc) : Prop := ∃ (r : Addr) (kB : ClassId), v = some (.ref r) ∧ Fr n0 L ∧ Keep h0 h [] ∧ h0.size ≤ r ∧ Exa Z h r "[Ljava/lang/Object;" ∧ Arv Z h r kB (.object "java/lang/Object") (2 : Int32) [(.ref d1), (.ref d2)] .null ∧ Ovr Z kB "java/lang/Object"
theorem rm28_2 (l : Launch) (Z : State) (a0 : Array Value) (hw : ∀ d ∈ tables_1, d.before a0 Z = true) (ws : List Jvm.Cond) (p0 : Addr) (h0 : Heap) (n0 : Nat) (Z0 : n0 ≤ h0.size) (mr : Addr) (MI : own_Mi Z "[Ljava/lang/Object;" mr) (ea : Addr) (kA : ClassId) (d1 : Addr) (d2 : Addr) (pm0 : Fld Z h0 p0 "java/util/ArrayList" "elementData" "[Ljava/lang/Object;" (.ref ea)) (pm1 : Fld Z h0 p0 "java/util/ArrayList" "size" "I" (.int (2 : Int32))) (pm2 : Exa Z h0 ea "[Ljava/lang/Object;") (pm3 : Arv Z h0 ea kA (.object "java/lang/Object") (10 : Int32) [(.ref d1), (.ref d2), .null, .null, .null, .null, .null, .null, .null, .null] .null) (pm4 : Exa Z h0 d1 "java/lang/Double") (pm5 : Exa Z h0 d2 "java/lang/Double") :
    own_Met l Z (⟨"java/util/ArrayList", "toArray", "()[Ljava/lang/Object;"⟩ : MethodName) jdk_38_method_16_code 1 (some (.array (.object "java/lang/Object"))) ws ({ frames := 3, cells := 1, slots := 2, locals := 68 } : Room) #[(.ref p0)] h0 (Q28_2 Z p0 mr ea kA d1 d2 h0 n0) := by
  refine MetFree.of_bodySF pf_28 hisR ?_
  intro p e s m args below meth c s₁ Bd hml0 hP hK
  obtain ⟨rfl, hZ, hh⟩ := hP
  have hx := Bd.exec
  have hby := Bd.bytes
  have hlk : meth.locks = false := BodyLoose.notSynchronized Bd
  have hml : c.maxLocals = 1 := hml0
  have hown : s.vm.findClass "java/util/ArrayList" = some m.cls := findClass_of_methodNamed Bd.named
  have hnm := (name_of_methodNamed Bd.named Bd.method).1
  have X0 : Stand p l e ({ frames := 3, cells := 1, slots := 2, locals := 68 } : Room) s m #[(.ref p0)] below meth c s₁ [] 0 0 := Stand.of_body Bd
  have e0 : s₁.heap = h0 := by rw [← hh, Bd.state]; rfl
  have N0 := Fr.nil n0
  have K0 := Keep.refl h0 []
  show own_Go _ _ _ _ (Q28_2 Z p0 mr ea kA d1 d2 h0 n0) _ _ _
  refine own_by (fun _ k => castTop (ef_28_2 m p0) k) ?_
  show own_Go _ _ _ _ _ _ _ (s₁.setTop (mkF m 0 #[.val (.ref p0)] []))
  refine own_by (fun _ kz => XS.aloadN X0.here hx rfl (hb hby d28_0) rfl rfl kz) ?_
  obtain ⟨T1, X1, e1, st1⟩ := getF X0 hx hZ hown (host := "") (Or.inl (ow hw 30 rfl)) Via.refl e0 pm0 (g := (mkF m 1 #[.val (.ref p0)] [(.ref p0)])) rfl rfl (hb hby d28_1)
  refine own_by st1 ?_
  show own_Go _ _ _ _ _ _ _ (T1.setTop (mkF m 4 #[.val (.ref p0)] [(.ref ea)]))
  refine own_by (fun _ kz => XS.aloadN X1.here hx rfl (hb hby d28_4) rfl rfl kz) ?_
  obtain ⟨T2, X2, e2, st2⟩ := getF X1 hx hZ hown (host := "") (Or.inl (ow hw 58 rfl)) Via.refl e1 pm1 (g := (mkF m 5 #[.val (.ref p0)] [(.ref p0), (.ref ea)])) rfl rfl (hb hby d28_5)
  refine own_by st2 ?_
  show own_Go _ _ _ _ _ _ _ (T2.setTop (mkF m 8 #[.val (.ref p0)] [(.int (2 : Int32)), (.ref ea)]))
  obtain ⟨v3, T3, L3, X3, q3, st3⟩ := own_callS X2 hx hZ hown (ow hw 218 rfl) (ow hw 219 rfl) (ow hw 220 rfl) (ow hw 221 rfl) (by decide) (rm29_2 l Z a0 hw [] ea h0 n0 Z0 mr MI kA d1 d2 pm2 pm3 pm4 pm5) (W := 0) (by decide) (by decide) e2 (g := (mkF m 8 #[.val (.ref p0)] [(.int (2 : Int32)), (.ref ea)])) rfl (by rw [hml]; rfl) (argsL := [(.ref ea), (.int (2 : Int32))]) (rest := []) (lenOf pd_29 rfl) rfl rfl (by show 2 * 0 + _ ≤ _; exact Nat.le_of_eq rfl) (hb hby d28_8) (by decide) (by decide)
  obtain ⟨r3, kB3, rfl, Nq3, Kq3, o3_0, o3_1, o3_2, o3_3⟩ := q3
  have N3 := Fr.app N0 Nq3
  have Z3 : n0 ≤ T3.heap.size := Nat.le_trans Z0 Kq3.1
  have K3 := K0.trans Kq3 all0
  have pm0_h3 := pm0.keep Kq3 nin0
  have pm1_h3 := pm1.keep Kq3 nin0
  have pm2_h3 := pm2.keep Kq3
  have pm3_h3 := pm3.keep Kq3 nin0
  have pm4_h3 := pm4.keep Kq3
  have pm5_h3 := pm5.keep Kq3
  have ge_r3 : n0 ≤ r3 := Nat.le_trans Z0 o3_0
  have sz_r3 : h0.size ≤ r3 := Nat.le_trans K0.1 o3_0
  have ne_p0_r3 : p0 ≠ r3 := Nat.ne_of_lt (Nat.lt_of_lt_of_le pm0.lt o3_0)
  have ne_ea_r3 : ea ≠ r3 := Nat.ne_of_lt (Nat.lt_of_lt_of_le pm2.lt o3_0)
  have ne_d1_r3 : d1 ≠ r3 := Nat.ne_of_lt (Nat.lt_of_lt_of_le pm4.lt o3_0)
  have ne_d2_r3 : d2 ≠ r3 := Nat.ne_of_lt (Nat.lt_of_lt_of_le pm5.lt o3_0)
  refine own_by st3 ?_
  show own_Go _ _ _ _ _ _ _ (T3.setTop (mkF m 11 #[.val (.ref p0)] [(.ref r3)]))
  exact own_retA X3 hx hlk Bd.returns rfl (hb hby d28_11) (by decide) (by decide) ⟨r3, kB3, rfl, N3, K3, sz_r3, o3_1, o3_2, o3_3⟩
theorem ef_31_3 (m : MethodId)  : entryFrame m #[(.int (10 : Int32)), (.int (3 : Int32))] 2 = mkF m 0 #[.val (.int (10 : Int32)), .val (.int (3 : Int32))] [] := by first | (simp [entryFrame, mkF, argsToLocals, Value.category]; done) | rfl
def Q31_3 (Z : State)  (h0 : Heap) (n0 : Nat) (v : Option Value) (h : Heap) (L : List Loc) : Prop := v = some (.int (3 : Int32)) ∧ Fr n0 L ∧ h = h0
theorem rm31_3 (l : Launch) (Z : State) (a0 : Array Value) (hw : ∀ d ∈ tables_1, d.before a0 Z = true) (ws : List Jvm.Cond)  (h0 : Heap) (n0 : Nat) (Z0 : n0 ≤ h0.size)  :
    own_Met l Z (⟨"java/lang/Math", "min", "(II)I"⟩ : MethodName) jdk_29_method_69_code 2 (some .int) ws ({ frames := 0, cells := 0, slots := 0, locals := 0 } : Room) #[(.int (10 : Int32)), (.int (3 : Int32))] h0 (Q31_3 Z  h0 n0) := by
  refine MetFree.of_bodySF pf_31 hisR ?_
  intro p e s m args below meth c s₁ Bd hml0 hP hK
  obtain ⟨rfl, hZ, hh⟩ := hP
  have hx := Bd.exec
  have hby := Bd.bytes
  have hlk : meth.locks = false := BodyLoose.notSynchronized Bd
  have hml : c.maxLocals = 2 := hml0
  have hown : s.vm.findClass "java/lang/Math" = some m.cls := findClass_of_methodNamed Bd.named
  have hnm := (name_of_methodNamed Bd.named Bd.method).1
  have X0 : Stand p l e ({ frames := 0, cells := 0, slots := 0, locals := 0 } : Room) s m #[(.int (10 : Int32)), (.int (3 : Int32))] below meth c s₁ [] 0 0 := Stand.of_body Bd
  have e0 : s₁.heap = h0 := by rw [← hh, Bd.state]; rfl
  have N0 := Fr.nil n0
  show own_Go _ _ _ _ (Q31_3 Z  h0 n0) _ _ _
  refine own_by (fun _ k => castTop (ef_31_3 m ) k) ?_
  show own_Go _ _ _ _ _ _ _ (s₁.setTop (mkF m 0 #[.val (.int (10 : Int32)), .val (.int (3 : Int32))] []))
  refine own_by (fun _ kz => XS.iloadN X0.here hx rfl (hb hby d31_0) rfl kz) ?_
  refine own_by (fun _ kz => XS.iloadN X0.here hx rfl (hb hby d31_1) rfl kz) ?_
  show own_Go _ _ _ _ _ _ _ (s₁.setTop (mkF m 2 #[.val (.int (10 : Int32)), .val (.int (3 : Int32))] [(.int (3 : Int32)), (.int (10 : Int32))]))
  refine own_by (fun _ kz => XS.icmpYes X0.here hx rfl (pc0 := 2) (pc' := 9) rfl (hb hby d31_2) rfl (tlt (by decide : ((3 : Int32) < (10 : Int32)))).2.2.1 (by decide) (by decide) kz) ?_
  show own_Go _ _ _ _ _ _ _ (s₁.setTop (mkF m 9 #[.val (.int (10 : Int32)), .val (.int (3 : Int32))] []))
  refine own_by (fun _ kz => XS.iloadN X0.here hx rfl (hb hby d31_9) rfl kz) ?_
  show own_Go _ _ _ _ _ _ _ (s₁.setTop (mkF m 10 #[.val (.int (10 : Int32)), .val (.int (3 : Int32))] [(.int (3 : Int32))]))
  exact own_retI X0 hx hlk Bd.returns (hb hby d31_10) (by decide) (by decide) ⟨rfl, N0, e0⟩
theorem ef_30_3 (m : MethodId) (p0 : Addr) (mr : Addr) : entryFrame m #[(.ref p0), (.int (3 : Int32)), (.ref mr)] 4 = mkF m 0 #[.val (.ref p0), .val (.int (3 : Int32)), .val (.ref mr), .unset] [] := by first | (simp [entryFrame, mkF, argsToLocals, Value.category]; done) | rfl
def Q30_3 (Z : State) (p0 : Addr) (mr : Addr) (mr : Addr) (kA : ClassId) (d1 : Addr) (d2 : Addr) (d3 : Addr) (h0 : Heap) (n0 : Nat) (v : Option Value) (h : Heap) (L : List Loc) : Prop := ∃ (r : Addr) (kB : ClassId), v = some (.ref r) ∧ Fr n0 L ∧ Keep h0 h [] ∧ h0.size ≤ r ∧ Exa Z h r "[Ljava/lang/Object;" ∧ Arv Z h r kB (.object "java/lang/Object") (3 : Int32) [(.ref d1), (.ref d2), (.ref d3)] .null ∧ Ovr Z kB "java/lang/Object"
theorem rm30_3 (l : Launch) (Z : State) (a0 : Array Value) (hw : ∀ d ∈ tables_1, d.before a0 Z = true) (ws : List Jvm.Cond) (p0 : Addr) (mr : Addr) (h0 : Heap) (n0 : Nat) (Z0 : n0 ≤ h0.size) (mr : Addr) (MI : own_Mi Z "[Ljava/lang/Object;" mr) (kA : ClassId) (d1 : Addr) (d2 : Addr) (d3 : Addr) (pm0 : Arv Z h0 p0 kA (.object "java/lang/Object") (10 : Int32) [(.ref d1), (.ref d2), (.ref d3), .null, .null, .null, .null, .null, .null, .null] .null) (pm1 : Exa Z h0 d1 "java/lang/Double") (pm2 : Exa Z h0 d2 "java/lang/Double") (pm3 : Exa Z h0 d3 "java/lang/Double") :
    own_Met l Z (⟨"java/util/Arrays", "copyOf", "([Ljava/lang/Object;ILjava/lang/Class;)[Ljava/lang/Object;"⟩ : MethodName) jdk_65_method_120_code 4 (some (.array (.object "java/lang/Object"))) ws ({ frames := 1, cells := 1, slots := 3, locals := 40 } : Room) #[(.ref p0), (.int (3 : Int32)), (.ref mr)] h0 (Q30_3 Z p0 mr mr kA d1 d2 d3 h0 n0) := by
  refine MetFree.of_bodySF pf_30 hisR ?_
  intro p e s m args below meth c s₁ Bd hml0 hP hK
  obtain ⟨rfl, hZ, hh⟩ := hP
  have hx := Bd.exec
  have hby := Bd.bytes
  have hlk : meth.locks = false := BodyLoose.notSynchronized Bd
  have hml : c.maxLocals = 4 := hml0
  have hown : s.vm.findClass "java/util/Arrays" = some m.cls := findClass_of_methodNamed Bd.named
  have hnm := (name_of_methodNamed Bd.named Bd.method).1
  have X0 : Stand p l e ({ frames := 1, cells := 1, slots := 3, locals := 40 } : Room) s m #[(.ref p0), (.int (3 : Int32)), (.ref mr)] below meth c s₁ [] 0 0 := Stand.of_body Bd
  have e0 : s₁.heap = h0 := by rw [← hh, Bd.state]; rfl
  have N0 := Fr.nil n0
  have K0 := Keep.refl h0 []
  show own_Go _ _ _ _ (Q30_3 Z p0 mr mr kA d1 d2 d3 h0 n0) _ _ _
  refine own_by (fun _ k => castTop (ef_30_3 m p0 mr) k) ?_
  show own_Go _ _ _ _ _ _ _ (s₁.setTop (mkF m 0 #[.val (.ref p0), .val (.int (3 : Int32)), .val (.ref mr), .unset] []))
  refine own_by (fun _ kz => XS.aloadN X0.here hx rfl (hb hby d30_0) rfl rfl kz) ?_
  show own_Go _ _ _ _ _ _ _ (s₁.setTop (mkF m 1 #[.val (.ref p0), .val (.int (3 : Int32)), .val (.ref mr), .unset] [(.ref mr)]))
  obtain ⟨T1, X1, e1, st1⟩ := own_ldcC X0 hx hZ hown (ow hw 231 rfl) e0 MI (g := (mkF m 1 #[.val (.ref p0), .val (.int (3 : Int32)), .val (.ref mr), .unset] [(.ref mr)])) rfl (hb hby d30_1)
  refine own_by st1 ?_
  show own_Go _ _ _ _ _ _ _ (T1.setTop (mkF m 3 #[.val (.ref p0), .val (.int (3 : Int32)), .val (.ref mr), .unset] [(.ref mr), (.ref mr)]))
  refine own_by (fun _ kz => Jvm.RoadKit.acmp (g := (mkF m 3 #[.val (.ref p0), .val (.int (3 : Int32)), .val (.ref mr), .unset] [(.ref mr), (.ref mr)])) X1 hx rfl rfl rfl (pc0 := 3) (pc' := 6) (same := true) rfl (hb hby d30_3) rfl (decide_eq_true rfl) (by decide) (by decide) kz) ?_
  show own_Go _ _ _ _ _ _ _ (T1.setTop (mkF m 6 #[.val (.ref p0), .val (.int (3 : Int32)), .val (.ref mr), .unset] []))
  refine own_by (fun _ kz => XS.iloadN X1.here hx rfl (hb hby d30_6) rfl kz) ?_
  show own_Go _ _ _ _ _ _ _ (T1.setTop (mkF m 7 #[.val (.ref p0), .val (.int (3 : Int32)), .val (.ref mr), .unset] [(.int (3 : Int32))]))
  obtain ⟨T2, h2, k2, X2, e2, E2, A2, Ea2, Ov2, st2⟩ := newRE X1 hx hZ hown (ow hw 232 rfl) (ow hw 80 rfl) e1 (g := (mkF m 7 #[.val (.ref p0), .val (.int (3 : Int32)), .val (.ref mr), .unset] [(.int (3 : Int32))])) rfl (hb hby d30_7) rfl (by decide) (cap := 3) (by decide) (by decide) (by decide) (by decide) (ad := "[Ljava/lang/Object;") (by decide)
  obtain ⟨b2, g2⟩ : ∃ z, z = h0.size := ⟨_, rfl⟩
  rw [← g2] at A2 Ea2 st2
  have ge_b2 : n0 ≤ b2 := Nat.le_trans Z0 (Nat.le_of_eq g2.symm)
  have sz_b2 : h0.size ≤ b2 := Nat.le_trans K0.1 (Nat.le_of_eq g2.symm)
  have ne_p0_b2 : p0 ≠ b2 := by rw [g2]; exact Nat.ne_of_lt pm0.lt
  have ne_d1_b2 : d1 ≠ b2 := by rw [g2]; exact Nat.ne_of_lt pm1.lt
  have ne_d2_b2 : d2 ≠ b2 := by rw [g2]; exact Nat.ne_of_lt pm2.lt
  have ne_d3_b2 : d3 ≠ b2 := by rw [g2]; exact Nat.ne_of_lt pm3.lt
  have Z2 : n0 ≤ h2.size := Nat.le_trans Z0 E2.1
  have K2 := K0.ext E2
  have pm0_h2 := pm0.ext E2
  have pm1_h2 := pm1.ext E2
  have pm2_h2 := pm2.ext E2
  have pm3_h2 := pm3.ext E2
  have V2 : Arv Z h2 b2 k2 (.object "java/lang/Object") (3 : Int32) [.null, .null, .null] .null := (Arv.new A2 (by decide)).pad (fun i => pad_rep [] _ 3 i)
  refine own_by st2 ?_
  show own_Go _ _ _ _ _ _ _ (T2.setTop (mkF m 10 #[.val (.ref p0), .val (.int (3 : Int32)), .val (.ref mr), .unset] [(.ref b2)]))
  refine own_by (fun _ kz => XS.goto X2.here hx rfl (pc0 := 10) (pc' := 24) rfl (hb hby d30_10) (by decide) (by decide) kz) ?_
  show own_Go _ _ _ _ _ _ _ (T2.setTop (mkF m 24 #[.val (.ref p0), .val (.int (3 : Int32)), .val (.ref mr), .unset] [(.ref b2)]))
  refine own_by (fun _ kz => XS.astoreN X2.here hx rfl (hb hby d30_24) rfl rfl (l' := #[.val (.ref p0), .val (.int (3 : Int32)), .val (.ref mr), .val (.ref b2)]) rfl kz) ?_
  show own_Go _ _ _ _ _ _ _ (T2.setTop (mkF m 25 #[.val (.ref p0), .val (.int (3 : Int32)), .val (.ref mr), .val (.ref b2)] []))
  refine own_by (fun _ kz => XS.aloadN X2.here hx rfl (hb hby d30_25) rfl rfl kz) ?_
  refine own_by (fun _ kz => XS.iconst X2.here hx rfl (hb hby d30_26) kz) ?_
  refine own_by (fun _ kz => XS.aloadN X2.here hx rfl (hb hby d30_27) rfl rfl kz) ?_
  refine own_by (fun _ kz => XS.iconst X2.here hx rfl (hb hby d30_28) kz) ?_
  refine own_by (fun _ kz => XS.aloadN X2.here hx rfl (hb hby d30_29) rfl rfl kz) ?_
  show own_Go _ _ _ _ _ _ _ (T2.setTop (mkF m 30 #[.val (.ref p0), .val (.int (3 : Int32)), .val (.ref mr), .val (.ref b2)] [(.ref p0), (.int (0 : Int32)), (.ref b2), (.int (0 : Int32)), (.ref p0)]))
  refine own_by (fun _ kz => own_len X2 hx hZ e2 pm0_h2 (g := (mkF m 30 #[.val (.ref p0), .val (.int (3 : Int32)), .val (.ref mr), .val (.ref b2)] [(.ref p0), (.int (0 : Int32)), (.ref b2), (.int (0 : Int32)), (.ref p0)])) rfl rfl (hb hby d30_30) _ kz) ?_
  show own_Go _ _ _ _ _ _ _ (T2.setTop (mkF m 31 #[.val (.ref p0), .val (.int (3 : Int32)), .val (.ref mr), .val (.ref b2)] [(.int (10 : Int32)), (.int (0 : Int32)), (.ref b2), (.int (0 : Int32)), (.ref p0)]))
  refine own_by (fun _ kz => XS.iloadN X2.here hx rfl (hb hby d30_31) rfl kz) ?_
  show own_Go _ _ _ _ _ _ _ (T2.setTop (mkF m 32 #[.val (.ref p0), .val (.int (3 : Int32)), .val (.ref mr), .val (.ref b2)] [(.int (3 : Int32)), (.int (10 : Int32)), (.int (0 : Int32)), (.ref b2), (.int (0 : Int32)), (.ref p0)]))
  obtain ⟨v3, T3, L3, X3, q3, st3⟩ := own_callS X2 hx hZ hown (ow hw 233 rfl) (ow hw 234 rfl) (ow hw 77 rfl) (ow hw 235 rfl) (by decide) (rm31_3 l Z a0 hw []  h2 n0 Z2 ) (W := 4) (by decide) (by decide) e2 (g := (mkF m 32 #[.val (.ref p0), .val (.int (3 : Int32)), .val (.ref mr), .val (.ref b2)] [(.int (3 : Int32)), (.int (10 : Int32)), (.int (0 : Int32)), (.ref b2), (.int (0 : Int32)), (.ref p0)])) rfl (by rw [hml]; rfl) (argsL := [(.int (10 : Int32)), (.int (3 : Int32))]) (rest := [(.int (0 : Int32)), (.ref b2), (.int (0 : Int32)), (.ref p0)]) (lenOf pd_31 rfl) rfl rfl (by show 2 * 0 + _ ≤ _; exact Nat.le_of_eq rfl) (hb hby d30_32) (by decide) (by decide)
  obtain ⟨rfl, Nq3, hh3⟩ := q3
  have N3 := Fr.app N0 Nq3
  refine own_by st3 ?_
  show own_Go _ _ _ _ _ _ _ (T3.setTop (mkF m 35 #[.val (.ref p0), .val (.int (3 : Int32)), .val (.ref mr), .val (.ref b2)] [(.int (3 : Int32)), (.int (0 : Int32)), (.ref b2), (.int (0 : Int32)), (.ref p0)]))
  obtain ⟨clz4, Arz4, qkz4, -⟩ := id V2
  obtain ⟨T4, h4, L4, X4, e4, N4, Kc4, Vc4, st4⟩ := cpA X3 hx hZ hown (ow hw 236 rfl) (ow hw 239 rfl) (ow hw 237 rfl) (ow hw 238 rfl) hh3 pm0_h2 V2 (us := [(.ref d1), (.ref d2), (.ref d3)]) (Or.inr ⟨rfl, rfl, ⟨Sto.ofV Arz4 qkz4 Ov2 (Ins.of_exa pm1_h2 (ow hw 81 rfl)), ⟨Sto.ofV Arz4 qkz4 Ov2 (Ins.of_exa pm2_h2 (ow hw 81 rfl)), ⟨Sto.ofV Arz4 qkz4 Ov2 (Ins.of_exa pm3_h2 (ow hw 81 rfl)), trivial⟩⟩⟩⟩) (sp := (0 : Int32)) (dp := (0 : Int32)) (nn := (3 : Int32)) (by decide) (by decide) (by decide) (by decide) (by decide) rfl (by decide) N3 ge_b2 (g := (mkF m 35 #[.val (.ref p0), .val (.int (3 : Int32)), .val (.ref mr), .val (.ref b2)] [(.int (3 : Int32)), (.int (0 : Int32)), (.ref b2), (.int (0 : Int32)), (.ref p0)])) rfl (by rw [hml]; rfl) rfl (hb hby d30_35) (by decide) (W := 0) (by show 2 * 0 + _ ≤ _; exact Nat.le_of_eq rfl) (by decide)
  have K4 := K2.trans Kc4 (allS (Or.inr sz_b2) all0)
  have Vd4 : Arv Z h4 b2 k2 (.object "java/lang/Object") (3 : Int32) [(.ref d1), (.ref d2), (.ref d3)] .null := Vc4
  have Ed4 := Ea2.keep Kc4
  refine own_by st4 ?_
  show own_Go _ _ _ _ _ _ _ (T4.setTop (mkF m 38 #[.val (.ref p0), .val (.int (3 : Int32)), .val (.ref mr), .val (.ref b2)] []))
  refine own_by (fun _ kz => XS.aloadN X4.here hx rfl (hb hby d30_38) rfl rfl kz) ?_
  show own_Go _ _ _ _ _ _ _ (T4.setTop (mkF m 39 #[.val (.ref p0), .val (.int (3 : Int32)), .val (.ref mr), .val (.ref b2)] [(.ref b2)]))
  exact own_retA X4 hx hlk Bd.returns rfl (hb hby d30_39) (by decide) (by decide) ⟨b2, k2, rfl, N4, by rw [e4]; exact K4, sz_b2, by rw [e4]; exact Ed4, by rw [e4]; exact Vd4, Ov2⟩
theorem ef_29_3 (m : MethodId) (p0 : Addr) : entryFrame m #[(.ref p0), (.int (3 : Int32))] 2 = mkF m 0 #[.val (.ref p0), .val (.int (3 : Int32))] [] := by first | (simp [entryFrame, mkF, argsToLocals, Value.category]; done) | rfl
def Q29_3 (Z : State) (p0 : Addr) (mr : Addr) (kA : ClassId) (d1 : Addr) (d2 : Addr) (d3 : Addr) (h0 : Heap) (n0 : Nat) (v : Option Value) (h : Heap) (L : List Loc) : Prop := ∃ (r : Addr) (kB : ClassId), v = some (.ref r) ∧ Fr n0 L ∧ Keep h0 h [] ∧ h0.size ≤ r ∧ Exa Z h r "[Ljava/lang/Object;" ∧ Arv Z h r kB (.object "java/lang/Object") (3 : Int32) [(.ref d1), (.ref d2), (.ref d3)] .null ∧ Ovr Z kB "java/lang/Object"
theorem rm29_3 (l : Launch) (Z : State) (a0 : Array Value) (hw : ∀ d ∈ tables_1, d.before a0 Z = true) (ws : List Jvm.Cond) (p0 : Addr) (h0 : Heap) (n0 : Nat) (Z0 : n0 ≤ h0.size) (mr : Addr) (MI : own_Mi Z "[Ljava/lang/Object;" mr) (kA : ClassId) (d1 : Addr) (d2 : Addr) (d3 : Addr) (pm0 : Exa Z h0 p0 "[Ljava/lang/Object;") (pm1 : Arv Z h0 p0 kA (.object "java/lang/Object") (10 : Int32) [(.ref d1), (.ref d2), (.ref d3), .null, .null, .null, .null, .null, .null, .null] .null) (pm2 : Exa Z h0 d1 "java/lang/Double") (pm3 : Exa Z h0 d2 "java/lang/Double") (pm4 : Exa Z h0 d3 "java/lang/Double") :
    own_Met l Z (⟨"java/util/Arrays", "copyOf", "([Ljava/lang/Object;I)[Ljava/lang/Object;"⟩ : MethodName) jdk_65_method_119_code 2 (some (.array (.object "java/lang/Object"))) ws ({ frames := 2, cells := 1, slots := 3, locals := 55 } : Room) #[(.ref p0), (.int (3 : Int32))] h0 (Q29_3 Z p0 mr kA d1 d2 d3 h0 n0) := by
  refine MetFree.of_bodySF pf_29 hisR ?_
  intro p e s m args below meth c s₁ Bd hml0 hP hK
  obtain ⟨rfl, hZ, hh⟩ := hP
  have hx := Bd.exec
  have hby := Bd.bytes
  have hlk : meth.locks = false := BodyLoose.notSynchronized Bd
  have hml : c.maxLocals = 2 := hml0
  have hown : s.vm.findClass "java/util/Arrays" = some m.cls := findClass_of_methodNamed Bd.named
  have hnm := (name_of_methodNamed Bd.named Bd.method).1
  have X0 : Stand p l e ({ frames := 2, cells := 1, slots := 3, locals := 55 } : Room) s m #[(.ref p0), (.int (3 : Int32))] below meth c s₁ [] 0 0 := Stand.of_body Bd
  have e0 : s₁.heap = h0 := by rw [← hh, Bd.state]; rfl
  have N0 := Fr.nil n0
  have K0 := Keep.refl h0 []
  show own_Go _ _ _ _ (Q29_3 Z p0 mr kA d1 d2 d3 h0 n0) _ _ _
  refine own_by (fun _ k => castTop (ef_29_3 m p0) k) ?_
  show own_Go _ _ _ _ _ _ _ (s₁.setTop (mkF m 0 #[.val (.ref p0), .val (.int (3 : Int32))] []))
  refine own_by (fun _ kz => XS.aloadN X0.here hx rfl (hb hby d29_0) rfl rfl kz) ?_
  refine own_by (fun _ kz => XS.iloadN X0.here hx rfl (hb hby d29_1) rfl kz) ?_
  refine own_by (fun _ kz => XS.aloadN X0.here hx rfl (hb hby d29_2) rfl rfl kz) ?_
  show own_Go _ _ _ _ _ _ _ (s₁.setTop (mkF m 3 #[.val (.ref p0), .val (.int (3 : Int32))] [(.ref p0), (.int (3 : Int32)), (.ref p0)]))
  obtain ⟨T1, X1, e1, st1⟩ := own_gc X0 hx hZ hown (ow hw 222 rfl) (ow hw 223 rfl) (ow hw 203 rfl) (ow hw 225 rfl) (ow hw 224 rfl) (ow hw 226 rfl) e0 pm0 MI (g := (mkF m 3 #[.val (.ref p0), .val (.int (3 : Int32))] [(.ref p0), (.int (3 : Int32)), (.ref p0)])) rfl (by rw [hml]; rfl) rfl (hb hby d29_3) (by decide) (W := 2) (by show 2 * 0 + _ ≤ _; exact Nat.le_of_eq rfl) (by decide)
  refine own_by st1 ?_
  show own_Go _ _ _ _ _ _ _ (T1.setTop (mkF m 6 #[.val (.ref p0), .val (.int (3 : Int32))] [(.ref mr), (.int (3 : Int32)), (.ref p0)]))
  obtain ⟨v2, T2, L2, X2, q2, st2⟩ := own_callS X1 hx hZ hown (ow hw 228 rfl) (ow hw 229 rfl) (ow hw 220 rfl) (ow hw 230 rfl) (by decide) (rm30_3 l Z a0 hw [] p0 mr h0 n0 Z0 mr MI kA d1 d2 d3 pm1 pm2 pm3 pm4) (W := 0) (by decide) (by decide) e1 (g := (mkF m 6 #[.val (.ref p0), .val (.int (3 : Int32))] [(.ref mr), (.int (3 : Int32)), (.ref p0)])) rfl (by rw [hml]; rfl) (argsL := [(.ref p0), (.int (3 : Int32)), (.ref mr)]) (rest := []) (lenOf pd_30 rfl) rfl rfl (by show 2 * 0 + _ ≤ _; exact Nat.le_of_eq rfl) (hb hby d29_6) (by decide) (by decide)
  obtain ⟨r2, kB2, rfl, Nq2, Kq2, o2_0, o2_1, o2_2, o2_3⟩ := q2
  have N2 := Fr.app N0 Nq2
  have Z2 : n0 ≤ T2.heap.size := Nat.le_trans Z0 Kq2.1
  have K2 := K0.trans Kq2 all0
  have pm0_h2 := pm0.keep Kq2
  have pm1_h2 := pm1.keep Kq2 nin0
  have pm2_h2 := pm2.keep Kq2
  have pm3_h2 := pm3.keep Kq2
  have pm4_h2 := pm4.keep Kq2
  have ge_r2 : n0 ≤ r2 := Nat.le_trans Z0 o2_0
  have sz_r2 : h0.size ≤ r2 := Nat.le_trans K0.1 o2_0
  have ne_p0_r2 : p0 ≠ r2 := Nat.ne_of_lt (Nat.lt_of_lt_of_le pm0.lt o2_0)
  have ne_d1_r2 : d1 ≠ r2 := Nat.ne_of_lt (Nat.lt_of_lt_of_le pm2.lt o2_0)
  have ne_d2_r2 : d2 ≠ r2 := Nat.ne_of_lt (Nat.lt_of_lt_of_le pm3.lt o2_0)
  have ne_d3_r2 : d3 ≠ r2 := Nat.ne_of_lt (Nat.lt_of_lt_of_le pm4.lt o2_0)
  refine own_by st2 ?_
  show own_Go _ _ _ _ _ _ _ (T2.setTop (mkF m 9 #[.val (.ref p0), .val (.int (3 : Int32))] [(.ref r2)]))
  exact own_retA X2 hx hlk Bd.returns rfl (hb hby d29_9) (by decide) (by decide) ⟨r2, kB2, rfl, N2, K2, sz_r2, o2_1, o2_2, o2_3⟩
theorem ef_28_3 (m : MethodId) (p0 : Addr) : entryFrame m #[(.ref p0)] 1 = mkF m 0 #[.val (.ref p0)] [] := by first | (simp [entryFrame, mkF, argsToLocals, Value.category]; done) | rfl
def Q28_3 (Z : State) (p0 : Addr) (mr : Addr) (ea : Addr) (kA : ClassId) (d1 : Addr) (d2 : Addr) (d3 : Addr) (h0 : Heap) (n0 : Nat) (v : Option Value) (h : Heap) (L : List Loc) : Prop := ∃ (r : Addr) (kB : ClassId), v = some (.ref r) ∧ Fr n0 L ∧ Keep h0 h [] ∧ h0.size ≤ r ∧ Exa Z h r "[Ljava/lang/Object;" ∧ Arv Z h r kB (.object "java/lang/Object") (3 : Int32) [(.ref d1), (.ref d2), (.ref d3)] .null ∧ Ovr Z kB "java/lang/Object"
theorem rm28_3 (l : Launch) (Z : State) (a0 : Array Value) (hw : ∀ d ∈ tables_1, d.before a0 Z = true) (ws : List Jvm.Cond) (p0 : Addr) (h0 : Heap) (n0 : Nat) (Z0 : n0 ≤ h0.size) (mr : Addr) (MI : own_Mi Z "[Ljava/lang/Object;" mr) (ea : Addr) (kA : ClassId) (d1 : Addr) (d2 : Addr) (d3 : Addr) (pm0 : Fld Z h0 p0 "java/util/ArrayList" "elementData" "[Ljava/lang/Object;" (.ref ea)) (pm1 : Fld Z h0 p0 "java/util/ArrayList" "size" "I" (.int (3 : Int32))) (pm2 : Exa Z h0 ea "[Ljava/lang/Object;") (pm3 : Arv Z h0 ea kA (.object "java/lang/Object") (10 : Int32) [(.ref d1), (.ref d2), (.ref d3), .null, .null, .null, .null, .null, .null, .null] .null) (pm4 : Exa Z h0 d1 "java/lang/Double") (pm5 : Exa Z h0 d2 "java/lang/Double") (pm6 : Exa Z h0 d3 "java/lang/Double") :
    own_Met l Z (⟨"java/util/ArrayList", "toArray", "()[Ljava/lang/Object;"⟩ : MethodName) jdk_38_method_16_code 1 (some (.array (.object "java/lang/Object"))) ws ({ frames := 3, cells := 1, slots := 3, locals := 68 } : Room) #[(.ref p0)] h0 (Q28_3 Z p0 mr ea kA d1 d2 d3 h0 n0) := by
  refine MetFree.of_bodySF pf_28 hisR ?_
  intro p e s m args below meth c s₁ Bd hml0 hP hK
  obtain ⟨rfl, hZ, hh⟩ := hP
  have hx := Bd.exec
  have hby := Bd.bytes
  have hlk : meth.locks = false := BodyLoose.notSynchronized Bd
  have hml : c.maxLocals = 1 := hml0
  have hown : s.vm.findClass "java/util/ArrayList" = some m.cls := findClass_of_methodNamed Bd.named
  have hnm := (name_of_methodNamed Bd.named Bd.method).1
  have X0 : Stand p l e ({ frames := 3, cells := 1, slots := 3, locals := 68 } : Room) s m #[(.ref p0)] below meth c s₁ [] 0 0 := Stand.of_body Bd
  have e0 : s₁.heap = h0 := by rw [← hh, Bd.state]; rfl
  have N0 := Fr.nil n0
  have K0 := Keep.refl h0 []
  show own_Go _ _ _ _ (Q28_3 Z p0 mr ea kA d1 d2 d3 h0 n0) _ _ _
  refine own_by (fun _ k => castTop (ef_28_3 m p0) k) ?_
  show own_Go _ _ _ _ _ _ _ (s₁.setTop (mkF m 0 #[.val (.ref p0)] []))
  refine own_by (fun _ kz => XS.aloadN X0.here hx rfl (hb hby d28_0) rfl rfl kz) ?_
  obtain ⟨T1, X1, e1, st1⟩ := getF X0 hx hZ hown (host := "") (Or.inl (ow hw 30 rfl)) Via.refl e0 pm0 (g := (mkF m 1 #[.val (.ref p0)] [(.ref p0)])) rfl rfl (hb hby d28_1)
  refine own_by st1 ?_
  show own_Go _ _ _ _ _ _ _ (T1.setTop (mkF m 4 #[.val (.ref p0)] [(.ref ea)]))
  refine own_by (fun _ kz => XS.aloadN X1.here hx rfl (hb hby d28_4) rfl rfl kz) ?_
  obtain ⟨T2, X2, e2, st2⟩ := getF X1 hx hZ hown (host := "") (Or.inl (ow hw 58 rfl)) Via.refl e1 pm1 (g := (mkF m 5 #[.val (.ref p0)] [(.ref p0), (.ref ea)])) rfl rfl (hb hby d28_5)
  refine own_by st2 ?_
  show own_Go _ _ _ _ _ _ _ (T2.setTop (mkF m 8 #[.val (.ref p0)] [(.int (3 : Int32)), (.ref ea)]))
  obtain ⟨v3, T3, L3, X3, q3, st3⟩ := own_callS X2 hx hZ hown (ow hw 218 rfl) (ow hw 219 rfl) (ow hw 220 rfl) (ow hw 221 rfl) (by decide) (rm29_3 l Z a0 hw [] ea h0 n0 Z0 mr MI kA d1 d2 d3 pm2 pm3 pm4 pm5 pm6) (W := 0) (by decide) (by decide) e2 (g := (mkF m 8 #[.val (.ref p0)] [(.int (3 : Int32)), (.ref ea)])) rfl (by rw [hml]; rfl) (argsL := [(.ref ea), (.int (3 : Int32))]) (rest := []) (lenOf pd_29 rfl) rfl rfl (by show 2 * 0 + _ ≤ _; exact Nat.le_of_eq rfl) (hb hby d28_8) (by decide) (by decide)
  obtain ⟨r3, kB3, rfl, Nq3, Kq3, o3_0, o3_1, o3_2, o3_3⟩ := q3
  have N3 := Fr.app N0 Nq3
  have Z3 : n0 ≤ T3.heap.size := Nat.le_trans Z0 Kq3.1
  have K3 := K0.trans Kq3 all0
  have pm0_h3 := pm0.keep Kq3 nin0
  have pm1_h3 := pm1.keep Kq3 nin0
  have pm2_h3 := pm2.keep Kq3
  have pm3_h3 := pm3.keep Kq3 nin0
  have pm4_h3 := pm4.keep Kq3
  have pm5_h3 := pm5.keep Kq3
  have pm6_h3 := pm6.keep Kq3
  have ge_r3 : n0 ≤ r3 := Nat.le_trans Z0 o3_0
  have sz_r3 : h0.size ≤ r3 := Nat.le_trans K0.1 o3_0
  have ne_p0_r3 : p0 ≠ r3 := Nat.ne_of_lt (Nat.lt_of_lt_of_le pm0.lt o3_0)
  have ne_ea_r3 : ea ≠ r3 := Nat.ne_of_lt (Nat.lt_of_lt_of_le pm2.lt o3_0)
  have ne_d1_r3 : d1 ≠ r3 := Nat.ne_of_lt (Nat.lt_of_lt_of_le pm4.lt o3_0)
  have ne_d2_r3 : d2 ≠ r3 := Nat.ne_of_lt (Nat.lt_of_lt_of_le pm5.lt o3_0)
  have ne_d3_r3 : d3 ≠ r3 := Nat.ne_of_lt (Nat.lt_of_lt_of_le pm6.lt o3_0)
  refine own_by st3 ?_
  show own_Go _ _ _ _ _ _ _ (T3.setTop (mkF m 11 #[.val (.ref p0)] [(.ref r3)]))
  exact own_retA X3 hx hlk Bd.returns rfl (hb hby d28_11) (by decide) (by decide) ⟨r3, kB3, rfl, N3, K3, sz_r3, o3_1, o3_2, o3_3⟩
theorem d36_0 : decode jdk_31_method_10_code 0 = .ok (.aload_n 0, 1) := by decide +kernel
theorem d36_1 : decode jdk_31_method_10_code 1 = .ok (.ifnonnull 11, 3) := by decide +kernel
theorem d36_12 : decode jdk_31_method_10_code 12 = .ok (.aload_n 0, 1) := by decide +kernel
theorem d36_13 : decode jdk_31_method_10_code 13 = .ok (.areturn, 1) := by decide +kernel
theorem pf_36 : plainFor (⟨"java/util/Objects", "requireNonNull", "(Ljava/lang/Object;)Ljava/lang/Object;"⟩ : MethodName) = true := by first | exact plainFor_of_name (by first | (simp [plainName, overriddenIn]; done) | decide +kernel) | decide +kernel
theorem pd_36 : parseMethodDescriptor "(Ljava/lang/Object;)Ljava/lang/Object;" = some ⟨[(.object "java/lang/Object")], some (.object "java/lang/Object")⟩ := by decide +kernel
theorem ef_36 (m : MethodId) (p0 : Addr) : entryFrame m #[(.ref p0)] 1 = mkF m 0 #[.val (.ref p0)] [] := by first | (simp [entryFrame, mkF, argsToLocals, Value.category]; done) | rfl
def Q36 (Z : State) (p0 : Addr) (h0 : Heap) (n0 : Nat) (v : Option Value) (h : Heap) (L : List Loc) : Prop := v = some (.ref p0) ∧ Fr n0 L ∧ h = h0
theorem rm36 (l : Launch) (Z : State) (a0 : Array Value) (hw : ∀ d ∈ tables_1, d.before a0 Z = true) (ws : List Jvm.Cond) (p0 : Addr) (h0 : Heap) (n0 : Nat) (Z0 : n0 ≤ h0.size)  :
    own_Met l Z (⟨"java/util/Objects", "requireNonNull", "(Ljava/lang/Object;)Ljava/lang/Object;"⟩ : MethodName) jdk_31_method_10_code 1 (some (.object "java/lang/Object")) ws ({ frames := 0, cells := 0, slots := 0, locals := 0 } : Room) #[(.ref p0)] h0 (Q36 Z p0 h0 n0) := by
  refine MetFree.of_bodySF pf_36 hisR ?_
  intro p e s m args below meth c s₁ Bd hml0 hP hK
  obtain ⟨rfl, hZ, hh⟩ := hP
  have hx := Bd.exec
  have hby := Bd.bytes
  have hlk : meth.locks = false := BodyLoose.notSynchronized Bd
  have hml : c.maxLocals = 1 := hml0
  have hown : s.vm.findClass "java/util/Objects" = some m.cls := findClass_of_methodNamed Bd.named
  have hnm := (name_of_methodNamed Bd.named Bd.method).1
  have X0 : Stand p l e ({ frames := 0, cells := 0, slots := 0, locals := 0 } : Room) s m #[(.ref p0)] below meth c s₁ [] 0 0 := Stand.of_body Bd
  have e0 : s₁.heap = h0 := by rw [← hh, Bd.state]; rfl
  have N0 := Fr.nil n0
  show own_Go _ _ _ _ (Q36 Z p0 h0 n0) _ _ _
  refine own_by (fun _ k => castTop (ef_36 m p0) k) ?_
  show own_Go _ _ _ _ _ _ _ (s₁.setTop (mkF m 0 #[.val (.ref p0)] []))
  refine own_by (fun _ kz => XS.aloadN X0.here hx rfl (hb hby d36_0) rfl rfl kz) ?_
  show own_Go _ _ _ _ _ _ _ (s₁.setTop (mkF m 1 #[.val (.ref p0)] [(.ref p0)]))
  refine own_by (fun _ kz => XS.ifnonnullYes X0.here hx rfl (pc0 := 1) (pc' := 12) rfl (hb hby d36_1) rfl (by decide) (by decide) kz) ?_
  show own_Go _ _ _ _ _ _ _ (s₁.setTop (mkF m 12 #[.val (.ref p0)] []))
  refine own_by (fun _ kz => XS.aloadN X0.here hx rfl (hb hby d36_12) rfl rfl kz) ?_
  show own_Go _ _ _ _ _ _ _ (s₁.setTop (mkF m 13 #[.val (.ref p0)] [(.ref p0)]))
  exact own_retA X0 hx hlk Bd.returns rfl (hb hby d36_13) (by decide) (by decide) ⟨rfl, N0, e0⟩
theorem d33_0 : decode jdk_44_method_2_code 0 = .ok (.aload_n 0, 1) := by decide +kernel
theorem d33_1 : decode jdk_44_method_2_code 1 = .ok (.invokespecial 1, 3) := by decide +kernel
theorem d33_4 : decode jdk_44_method_2_code 4 = .ok (.aload_n 0, 1) := by decide +kernel
theorem d33_5 : decode jdk_44_method_2_code 5 = .ok (.aload_n 1, 1) := by decide +kernel
theorem d33_6 : decode jdk_44_method_2_code 6 = .ok (.invokestatic 7, 3) := by decide +kernel
theorem d33_9 : decode jdk_44_method_2_code 9 = .ok (.putfield 13, 3) := by decide +kernel
theorem d33_12 : decode jdk_44_method_2_code 12 = .ok (.aload_n 0, 1) := by decide +kernel
theorem d33_13 : decode jdk_44_method_2_code 13 = .ok (.aload_n 2, 1) := by decide +kernel
theorem d33_14 : decode jdk_44_method_2_code 14 = .ok (.invokestatic 7, 3) := by decide +kernel
theorem d33_17 : decode jdk_44_method_2_code 17 = .ok (.putfield 24, 3) := by decide +kernel
theorem d33_20 : decode jdk_44_method_2_code 20 = .ok (.return_, 1) := by decide +kernel
theorem pf_33 : plainFor (⟨"java/util/ImmutableCollections$List12", "<init>", "(Ljava/lang/Object;Ljava/lang/Object;)V"⟩ : MethodName) = true := by first | exact plainFor_of_name (by first | (simp [plainName, overriddenIn]; done) | decide +kernel) | decide +kernel
theorem pd_33 : parseMethodDescriptor "(Ljava/lang/Object;Ljava/lang/Object;)V" = some ⟨[(.object "java/lang/Object"), (.object "java/lang/Object")], none⟩ := by decide +kernel
theorem ef_33 (m : MethodId) (p0 : Addr) (p1 : Addr) (p2 : Addr) : entryFrame m #[(.ref p0), (.ref p1), (.ref p2)] 3 = mkF m 0 #[.val (.ref p0), .val (.ref p1), .val (.ref p2)] [] := by first | (simp [entryFrame, mkF, argsToLocals, Value.category]; done) | rfl
def Q33 (Z : State) (p0 : Addr) (p1 : Addr) (p2 : Addr) (h0 : Heap) (n0 : Nat) (v : Option Value) (h : Heap) (L : List Loc) : Prop := v = none ∧ Fr n0 L ∧ Keep h0 h [p0] ∧ Fld Z h p0 "java/util/ImmutableCollections$List12" "e0" "Ljava/lang/Object;" (.ref p1) ∧ Fld Z h p0 "java/util/ImmutableCollections$List12" "e1" "Ljava/lang/Object;" (.ref p2)
theorem rm33 (l : Launch) (Z : State) (a0 : Array Value) (hw : ∀ d ∈ tables_1, d.before a0 Z = true) (ws : List Jvm.Cond) (p0 : Addr) (p1 : Addr) (p2 : Addr) (h0 : Heap) (n0 : Nat) (Z0 : n0 ≤ h0.size) (pm0 : Exa Z h0 p0 "java/util/ImmutableCollections$List12") (pm1 : Fld Z h0 p0 "java/util/ImmutableCollections$List12" "e0" "Ljava/lang/Object;" .null) (pm2 : Fld Z h0 p0 "java/util/ImmutableCollections$List12" "e1" "Ljava/lang/Object;" .null) (pm3 : n0 ≤ p0) :
    own_Met l Z (⟨"java/util/ImmutableCollections$List12", "<init>", "(Ljava/lang/Object;Ljava/lang/Object;)V"⟩ : MethodName) jdk_44_method_2_code 3 none ws ({ frames := 4, cells := 0, slots := 0, locals := 49 } : Room) #[(.ref p0), (.ref p1), (.ref p2)] h0 (Q33 Z p0 p1 p2 h0 n0) := by
  refine MetFree.of_bodySF pf_33 hisR ?_
  intro p e s m args below meth c s₁ Bd hml0 hP hK
  obtain ⟨rfl, hZ, hh⟩ := hP
  have hx := Bd.exec
  have hby := Bd.bytes
  have hlk : meth.locks = false := BodyLoose.notSynchronized Bd
  have hml : c.maxLocals = 3 := hml0
  have hown : s.vm.findClass "java/util/ImmutableCollections$List12" = some m.cls := findClass_of_methodNamed Bd.named
  have hnm := (name_of_methodNamed Bd.named Bd.method).1
  have X0 : Stand p l e ({ frames := 4, cells := 0, slots := 0, locals := 49 } : Room) s m #[(.ref p0), (.ref p1), (.ref p2)] below meth c s₁ [] 0 0 := Stand.of_body Bd
  have e0 : s₁.heap = h0 := by rw [← hh, Bd.state]; rfl
  have N0 := Fr.nil n0
  have K0 := Keep.refl h0 [p0]
  show own_Go _ _ _ _ (Q33 Z p0 p1 p2 h0 n0) _ _ _
  refine own_by (fun _ k => castTop (ef_33 m p0 p1 p2) k) ?_
  show own_Go _ _ _ _ _ _ _ (s₁.setTop (mkF m 0 #[.val (.ref p0), .val (.ref p1), .val (.ref p2)] []))
  refine own_by (fun _ kz => XS.aloadN X0.here hx rfl (hb hby d33_0) rfl rfl kz) ?_
  show own_Go _ _ _ _ _ _ _ (s₁.setTop (mkF m 1 #[.val (.ref p0), .val (.ref p1), .val (.ref p2)] [(.ref p0)]))
  obtain ⟨v1, T1, L1, X1, q1, st1⟩ := own_callI X0 hx hZ rfl hown (ow hw 250 rfl) (ow hw 251 rfl) (ow hw 254 rfl) (ow hw 255 rfl) (by decide) (rm34 l Z a0 hw [] p0 h0 n0 Z0 ) (W := 0) (by decide) (by decide) e0 (g := (mkF m 1 #[.val (.ref p0), .val (.ref p1), .val (.ref p2)] [(.ref p0)])) rfl (by rw [hml]; rfl) (a := p0) (argsL := []) (rest := []) (lenOf pd_34 rfl) rfl rfl (by show 2 * 0 + _ ≤ _; exact Nat.le_of_eq rfl) (hb hby d33_1) (by decide) (by decide)
  obtain ⟨rfl, Nq1, hh1⟩ := q1
  have N1 := Fr.app N0 Nq1
  refine own_by st1 ?_
  show own_Go _ _ _ _ _ _ _ (T1.setTop (mkF m 4 #[.val (.ref p0), .val (.ref p1), .val (.ref p2)] []))
  refine own_by (fun _ kz => XS.aloadN X1.here hx rfl (hb hby d33_4) rfl rfl kz) ?_
  refine own_by (fun _ kz => XS.aloadN X1.here hx rfl (hb hby d33_5) rfl rfl kz) ?_
  show own_Go _ _ _ _ _ _ _ (T1.setTop (mkF m 6 #[.val (.ref p0), .val (.ref p1), .val (.ref p2)] [(.ref p1), (.ref p0)]))
  obtain ⟨v2, T2, L2, X2, q2, st2⟩ := own_callS X1 hx hZ hown (ow hw 264 rfl) (ow hw 265 rfl) (ow hw 266 rfl) (ow hw 267 rfl) (by decide) (rm36 l Z a0 hw [] p1 h0 n0 Z0 ) (W := 1) (by decide) (by decide) hh1 (g := (mkF m 6 #[.val (.ref p0), .val (.ref p1), .val (.ref p2)] [(.ref p1), (.ref p0)])) rfl (by rw [hml]; rfl) (argsL := [(.ref p1)]) (rest := [(.ref p0)]) (lenOf pd_36 rfl) rfl rfl (by show 2 * 0 + _ ≤ _; exact Nat.le_of_eq rfl) (hb hby d33_6) (by decide) (by decide)
  obtain ⟨rfl, Nq2, hh2⟩ := q2
  have N2 := Fr.app N1 Nq2
  refine own_by st2 ?_
  show own_Go _ _ _ _ _ _ _ (T2.setTop (mkF m 9 #[.val (.ref p0), .val (.ref p1), .val (.ref p2)] [(.ref p1), (.ref p0)]))
  obtain ⟨T3, h3, X3, e3, W3, st3⟩ := putF X2 hx hZ hown (host := "") (Or.inl (ow hw 268 rfl)) Via.refl hh2 pm1 pm0 (Or.inr ⟨ (ow hw 269 rfl), rfl, hnm⟩) (ow hw 244 rfl) (ty := (.object "java/lang/Object")) (by decide) rfl rfl (g := (mkF m 9 #[.val (.ref p0), .val (.ref p1), .val (.ref p2)] [(.ref p1), (.ref p0)])) rfl rfl (hb hby d33_9)
  have N3 := Fr.snoc X3 N2 pm3
  have Z3 : n0 ≤ h3.size := by rw [W3.size]; exact Z0
  have K3 := K0.wr W3 (Or.inl (List.mem_of_getElem? (i := 0) rfl))
  have pm0_h3 := pm0.wr W3
  have pm1_h3 := pm1.same W3
  have pm2_h3 := pm2.other W3 (Or.inr (slot_ne (Or.inr (ow hw 271 rfl)) (Or.inr (ow hw 269 rfl)) (by decide) (by decide : parseFieldDescriptor "Ljava/lang/Object;" = some (.object "java/lang/Object")) (by decide : parseFieldDescriptor "Ljava/lang/Object;" = some (.object "java/lang/Object"))))
  refine own_by st3 ?_
  show own_Go _ _ _ _ _ _ _ (T3.setTop (mkF m 12 #[.val (.ref p0), .val (.ref p1), .val (.ref p2)] []))
  refine own_by (fun _ kz => XS.aloadN X3.here hx rfl (hb hby d33_12) rfl rfl kz) ?_
  refine own_by (fun _ kz => XS.aloadN X3.here hx rfl (hb hby d33_13) rfl rfl kz) ?_
  show own_Go _ _ _ _ _ _ _ (T3.setTop (mkF m 14 #[.val (.ref p0), .val (.ref p1), .val (.ref p2)] [(.ref p2), (.ref p0)]))
  obtain ⟨v4, T4, L4, X4, q4, st4⟩ := own_callS X3 hx hZ hown (ow hw 264 rfl) (ow hw 265 rfl) (ow hw 266 rfl) (ow hw 267 rfl) (by decide) (rm36 l Z a0 hw [] p2 h3 n0 Z3 ) (W := 1) (by decide) (by decide) e3 (g := (mkF m 14 #[.val (.ref p0), .val (.ref p1), .val (.ref p2)] [(.ref p2), (.ref p0)])) rfl (by rw [hml]; rfl) (argsL := [(.ref p2)]) (rest := [(.ref p0)]) (lenOf pd_36 rfl) rfl rfl (by show 2 * 0 + _ ≤ _; exact Nat.le_of_eq rfl) (hb hby d33_14) (by decide) (by decide)
  obtain ⟨rfl, Nq4, hh4⟩ := q4
  have N4 := Fr.app N3 Nq4
  refine own_by st4 ?_
  show own_Go _ _ _ _ _ _ _ (T4.setTop (mkF m 17 #[.val (.ref p0), .val (.ref p1), .val (.ref p2)] [(.ref p2), (.ref p0)]))
  obtain ⟨T5, h5, X5, e5, W5, st5⟩ := putF X4 hx hZ hown (host := "") (Or.inl (ow hw 270 rfl)) Via.refl hh4 pm2_h3 pm0_h3 (Or.inr ⟨ (ow hw 271 rfl), rfl, hnm⟩) (ow hw 244 rfl) (ty := (.object "java/lang/Object")) (by decide) rfl rfl (g := (mkF m 17 #[.val (.ref p0), .val (.ref p1), .val (.ref p2)] [(.ref p2), (.ref p0)])) rfl rfl (hb hby d33_17)
  have N5 := Fr.snoc X5 N4 pm3
  have Z5 : n0 ≤ h5.size := by rw [W5.size]; exact Z3
  have K5 := K3.wr W5 (Or.inl (List.mem_of_getElem? (i := 0) rfl))
  have pm0_h5 := pm0_h3.wr W5
  have pm1_h5 := pm1_h3.other W5 (Or.inr (slot_ne (Or.inr (ow hw 269 rfl)) (Or.inr (ow hw 271 rfl)) (by decide) (by decide : parseFieldDescriptor "Ljava/lang/Object;" = some (.object "java/lang/Object")) (by decide : parseFieldDescriptor "Ljava/lang/Object;" = some (.object "java/lang/Object"))))
  have pm2_h5 := pm2_h3.same W5
  refine own_by st5 ?_
  show own_Go _ _ _ _ _ _ _ (T5.setTop (mkF m 20 #[.val (.ref p0), .val (.ref p1), .val (.ref p2)] []))
  exact own_retV X5 hx hlk Bd.returns (hb hby d33_20) (by decide) (by decide) ⟨rfl, N5, by rw [e5]; exact K5, by rw [e5]; exact pm1_h5, by rw [e5]; exact pm2_h5⟩
theorem d41_0 : decode jdk_44_method_1_code 0 = .ok (.aload_n 0, 1) := by decide +kernel
theorem d41_1 : decode jdk_44_method_1_code 1 = .ok (.invokespecial 1, 3) := by decide +kernel
theorem d41_4 : decode jdk_44_method_1_code 4 = .ok (.aload_n 0, 1) := by decide +kernel
theorem d41_5 : decode jdk_44_method_1_code 5 = .ok (.aload_n 1, 1) := by decide +kernel
theorem d41_6 : decode jdk_44_method_1_code 6 = .ok (.invokestatic 7, 3) := by decide +kernel
theorem d41_9 : decode jdk_44_method_1_code 9 = .ok (.putfield 13, 3) := by decide +kernel
theorem d41_12 : decode jdk_44_method_1_code 12 = .ok (.aload_n 0, 1) := by decide +kernel
theorem d41_13 : decode jdk_44_method_1_code 13 = .ok (.getstatic 19, 3) := by decide +kernel
theorem d41_16 : decode jdk_44_method_1_code 16 = .ok (.putfield 24, 3) := by decide +kernel
theorem d41_19 : decode jdk_44_method_1_code 19 = .ok (.return_, 1) := by decide +kernel
theorem pf_41 : plainFor (⟨"java/util/ImmutableCollections$List12", "<init>", "(Ljava/lang/Object;)V"⟩ : MethodName) = true := by first | exact plainFor_of_name (by first | (simp [plainName, overriddenIn]; done) | decide +kernel) | decide +kernel
theorem pd_41 : parseMethodDescriptor "(Ljava/lang/Object;)V" = some ⟨[(.object "java/lang/Object")], none⟩ := by decide +kernel
theorem ef_41 (m : MethodId) (p0 : Addr) (p1 : Addr) : entryFrame m #[(.ref p0), (.ref p1)] 2 = mkF m 0 #[.val (.ref p0), .val (.ref p1)] [] := by first | (simp [entryFrame, mkF, argsToLocals, Value.category]; done) | rfl
def Q41 (Z : State) (p0 : Addr) (p1 : Addr) (em : Addr) (h0 : Heap) (n0 : Nat) (v : Option Value) (h : Heap) (L : List Loc) : Prop := v = none ∧ Fr n0 L ∧ Keep h0 h [p0] ∧ Fld Z h p0 "java/util/ImmutableCollections$List12" "e0" "Ljava/lang/Object;" (.ref p1) ∧ Fld Z h p0 "java/util/ImmutableCollections$List12" "e1" "Ljava/lang/Object;" (.ref em)
theorem rm41 (l : Launch) (Z : State) (a0 : Array Value) (hw : ∀ d ∈ tables_1, d.before a0 Z = true) (ws : List Jvm.Cond) (p0 : Addr) (p1 : Addr) (h0 : Heap) (n0 : Nat) (Z0 : n0 ≤ h0.size) (em : Addr) (SE : Sta Z Z.heap "java/util/ImmutableCollections" "EMPTY" "Ljava/lang/Object;" (.ref em)) (pm0 : Exa Z h0 p0 "java/util/ImmutableCollections$List12") (pm1 : Fld Z h0 p0 "java/util/ImmutableCollections$List12" "e0" "Ljava/lang/Object;" .null) (pm2 : Fld Z h0 p0 "java/util/ImmutableCollections$List12" "e1" "Ljava/lang/Object;" .null) (pm3 : n0 ≤ p0) (pm4 : Old Z n0 h0) :
    own_Met l Z (⟨"java/util/ImmutableCollections$List12", "<init>", "(Ljava/lang/Object;)V"⟩ : MethodName) jdk_44_method_1_code 2 none ws ({ frames := 4, cells := 0, slots := 0, locals := 49 } : Room) #[(.ref p0), (.ref p1)] h0 (Q41 Z p0 p1 em h0 n0) := by
  refine MetFree.of_bodySF pf_41 hisR ?_
  intro p e s m args below meth c s₁ Bd hml0 hP hK
  obtain ⟨rfl, hZ, hh⟩ := hP
  have hx := Bd.exec
  have hby := Bd.bytes
  have hlk : meth.locks = false := BodyLoose.notSynchronized Bd
  have hml : c.maxLocals = 2 := hml0
  have hown : s.vm.findClass "java/util/ImmutableCollections$List12" = some m.cls := findClass_of_methodNamed Bd.named
  have hnm := (name_of_methodNamed Bd.named Bd.method).1
  have X0 : Stand p l e ({ frames := 4, cells := 0, slots := 0, locals := 49 } : Room) s m #[(.ref p0), (.ref p1)] below meth c s₁ [] 0 0 := Stand.of_body Bd
  have e0 : s₁.heap = h0 := by rw [← hh, Bd.state]; rfl
  have N0 := Fr.nil n0
  have K0 := Keep.refl h0 [p0]
  show own_Go _ _ _ _ (Q41 Z p0 p1 em h0 n0) _ _ _
  refine own_by (fun _ k => castTop (ef_41 m p0 p1) k) ?_
  show own_Go _ _ _ _ _ _ _ (s₁.setTop (mkF m 0 #[.val (.ref p0), .val (.ref p1)] []))
  refine own_by (fun _ kz => XS.aloadN X0.here hx rfl (hb hby d41_0) rfl rfl kz) ?_
  show own_Go _ _ _ _ _ _ _ (s₁.setTop (mkF m 1 #[.val (.ref p0), .val (.ref p1)] [(.ref p0)]))
  obtain ⟨v1, T1, L1, X1, q1, st1⟩ := own_callI X0 hx hZ rfl hown (ow hw 250 rfl) (ow hw 251 rfl) (ow hw 254 rfl) (ow hw 255 rfl) (by decide) (rm34 l Z a0 hw [] p0 h0 n0 Z0 ) (W := 0) (by decide) (by decide) e0 (g := (mkF m 1 #[.val (.ref p0), .val (.ref p1)] [(.ref p0)])) rfl (by rw [hml]; rfl) (a := p0) (argsL := []) (rest := []) (lenOf pd_34 rfl) rfl rfl (by show 2 * 0 + _ ≤ _; exact Nat.le_of_eq rfl) (hb hby d41_1) (by decide) (by decide)
  obtain ⟨rfl, Nq1, hh1⟩ := q1
  have N1 := Fr.app N0 Nq1
  refine own_by st1 ?_
  show own_Go _ _ _ _ _ _ _ (T1.setTop (mkF m 4 #[.val (.ref p0), .val (.ref p1)] []))
  refine own_by (fun _ kz => XS.aloadN X1.here hx rfl (hb hby d41_4) rfl rfl kz) ?_
  refine own_by (fun _ kz => XS.aloadN X1.here hx rfl (hb hby d41_5) rfl rfl kz) ?_
  show own_Go _ _ _ _ _ _ _ (T1.setTop (mkF m 6 #[.val (.ref p0), .val (.ref p1)] [(.ref p1), (.ref p0)]))
  obtain ⟨v2, T2, L2, X2, q2, st2⟩ := own_callS X1 hx hZ hown (ow hw 264 rfl) (ow hw 265 rfl) (ow hw 266 rfl) (ow hw 267 rfl) (by decide) (rm36 l Z a0 hw [] p1 h0 n0 Z0 ) (W := 1) (by decide) (by decide) hh1 (g := (mkF m 6 #[.val (.ref p0), .val (.ref p1)] [(.ref p1), (.ref p0)])) rfl (by rw [hml]; rfl) (argsL := [(.ref p1)]) (rest := [(.ref p0)]) (lenOf pd_36 rfl) rfl rfl (by show 2 * 0 + _ ≤ _; exact Nat.le_of_eq rfl) (hb hby d41_6) (by decide) (by decide)
  obtain ⟨rfl, Nq2, hh2⟩ := q2
  have N2 := Fr.app N1 Nq2
  refine own_by st2 ?_
  show own_Go _ _ _ _ _ _ _ (T2.setTop (mkF m 9 #[.val (.ref p0), .val (.ref p1)] [(.ref p1), (.ref p0)]))
  obtain ⟨T3, h3, X3, e3, W3, st3⟩ := putF X2 hx hZ hown (host := "") (Or.inl (ow hw 268 rfl)) Via.refl hh2 pm1 pm0 (Or.inr ⟨ (ow hw 269 rfl), rfl, hnm⟩) (ow hw 244 rfl) (ty := (.object "java/lang/Object")) (by decide) rfl rfl (g := (mkF m 9 #[.val (.ref p0), .val (.ref p1)] [(.ref p1), (.ref p0)])) rfl rfl (hb hby d41_9)
  have N3 := Fr.snoc X3 N2 pm3
  have Z3 : n0 ≤ h3.size := by rw [W3.size]; exact Z0
  have K3 := K0.wr W3 (Or.inl (List.mem_of_getElem? (i := 0) rfl))
  have O3 := pm4.wr W3 pm3
  have pm0_h3 := pm0.wr W3
  have pm1_h3 := pm1.same W3
  have pm2_h3 := pm2.other W3 (Or.inr (slot_ne (Or.inr (ow hw 271 rfl)) (Or.inr (ow hw 269 rfl)) (by decide) (by decide : parseFieldDescriptor "Ljava/lang/Object;" = some (.object "java/lang/Object")) (by decide : parseFieldDescriptor "Ljava/lang/Object;" = some (.object "java/lang/Object"))))
  refine own_by st3 ?_
  show own_Go _ _ _ _ _ _ _ (T3.setTop (mkF m 12 #[.val (.ref p0), .val (.ref p1)] []))
  refine own_by (fun _ kz => XS.aloadN X3.here hx rfl (hb hby d41_12) rfl rfl kz) ?_
  show own_Go _ _ _ _ _ _ _ (T3.setTop (mkF m 13 #[.val (.ref p0), .val (.ref p1)] [(.ref p0)]))
  obtain ⟨T4, X4, e4, st4⟩ := getS2 X3 hx hZ hown (host := "java/util/ImmutableCollections") (Or.inr (ow hw 297 rfl)) Via.refl e3 (SE.ext O3.2) (g := (mkF m 13 #[.val (.ref p0), .val (.ref p1)] [(.ref p0)])) rfl (hb hby d41_13)
  refine own_by st4 ?_
  show own_Go _ _ _ _ _ _ _ (T4.setTop (mkF m 16 #[.val (.ref p0), .val (.ref p1)] [(.ref em), (.ref p0)]))
  obtain ⟨T5, h5, X5, e5, W5, st5⟩ := putF X4 hx hZ hown (host := "") (Or.inl (ow hw 270 rfl)) Via.refl e4 pm2_h3 pm0_h3 (Or.inr ⟨ (ow hw 271 rfl), rfl, hnm⟩) (ow hw 244 rfl) (ty := (.object "java/lang/Object")) (by decide) rfl rfl (g := (mkF m 16 #[.val (.ref p0), .val (.ref p1)] [(.ref em), (.ref p0)])) rfl rfl (hb hby d41_16)
  have N5 := Fr.snoc X5 N3 pm3
  have Z5 : n0 ≤ h5.size := by rw [W5.size]; exact Z3
  have K5 := K3.wr W5 (Or.inl (List.mem_of_getElem? (i := 0) rfl))
  have O5 := O3.wr W5 pm3
  have pm0_h5 := pm0_h3.wr W5
  have pm1_h5 := pm1_h3.other W5 (Or.inr (slot_ne (Or.inr (ow hw 269 rfl)) (Or.inr (ow hw 271 rfl)) (by decide) (by decide : parseFieldDescriptor "Ljava/lang/Object;" = some (.object "java/lang/Object")) (by decide : parseFieldDescriptor "Ljava/lang/Object;" = some (.object "java/lang/Object"))))
  have pm2_h5 := pm2_h3.same W5
  refine own_by st5 ?_
  show own_Go _ _ _ _ _ _ _ (T5.setTop (mkF m 19 #[.val (.ref p0), .val (.ref p1)] []))
  exact own_retV X5 hx hlk Bd.returns (hb hby d41_19) (by decide) (by decide) ⟨rfl, N5, by rw [e5]; exact K5, by rw [e5]; exact pm1_h5, by rw [e5]; exact pm2_h5⟩
theorem d43_0 : decode jdk_45_method_1_code 0 = .ok (.aload_n 0, 1) := by decide +kernel
theorem d43_1 : decode jdk_45_method_1_code 1 = .ok (.invokespecial 1, 3) := by decide +kernel
theorem d43_4 : decode jdk_45_method_1_code 4 = .ok (.aload_n 0, 1) := by decide +kernel
theorem d43_5 : decode jdk_45_method_1_code 5 = .ok (.aload_n 1, 1) := by decide +kernel
theorem d43_6 : decode jdk_45_method_1_code 6 = .ok (.putfield 7, 3) := by decide +kernel
theorem d43_9 : decode jdk_45_method_1_code 9 = .ok (.aload_n 0, 1) := by decide +kernel
theorem d43_10 : decode jdk_45_method_1_code 10 = .ok (.iload_n 2, 1) := by decide +kernel
theorem d43_11 : decode jdk_45_method_1_code 11 = .ok (.putfield 13, 3) := by decide +kernel
theorem d43_14 : decode jdk_45_method_1_code 14 = .ok (.return_, 1) := by decide +kernel
theorem pf_43 : plainFor (⟨"java/util/ImmutableCollections$ListN", "<init>", "([Ljava/lang/Object;Z)V"⟩ : MethodName) = true := by first | exact plainFor_of_name (by first | (simp [plainName, overriddenIn]; done) | decide +kernel) | decide +kernel
theorem pd_43 : parseMethodDescriptor "([Ljava/lang/Object;Z)V" = some ⟨[(.array (.object "java/lang/Object")), .boolean], none⟩ := by decide +kernel
theorem ef_43 (m : MethodId) (p0 : Addr) (p1 : Addr) : entryFrame m #[(.ref p0), (.ref p1), (.int (0 : Int32))] 3 = mkF m 0 #[.val (.ref p0), .val (.ref p1), .val (.int (0 : Int32))] [] := by first | (simp [entryFrame, mkF, argsToLocals, Value.category]; done) | rfl
def Q43 (Z : State) (p0 : Addr) (p1 : Addr) (h0 : Heap) (n0 : Nat) (v : Option Value) (h : Heap) (L : List Loc) : Prop := v = none ∧ Fr n0 L ∧ Keep h0 h [p0] ∧ Fld Z h p0 "java/util/ImmutableCollections$ListN" "elements" "[Ljava/lang/Object;" (.ref p1)
theorem rm43 (l : Launch) (Z : State) (a0 : Array Value) (hw : ∀ d ∈ tables_1, d.before a0 Z = true) (ws : List Jvm.Cond) (p0 : Addr) (p1 : Addr) (h0 : Heap) (n0 : Nat) (Z0 : n0 ≤ h0.size) (pm0 : Exa Z h0 p0 "java/util/ImmutableCollections$ListN") (pm1 : Fld Z h0 p0 "java/util/ImmutableCollections$ListN" "elements" "[Ljava/lang/Object;" .null) (pm2 : Fld Z h0 p0 "java/util/ImmutableCollections$ListN" "allowNulls" "Z" (.int (0 : Int32))) (pm3 : n0 ≤ p0) :
    own_Met l Z (⟨"java/util/ImmutableCollections$ListN", "<init>", "([Ljava/lang/Object;Z)V"⟩ : MethodName) jdk_45_method_1_code 3 none ws ({ frames := 4, cells := 0, slots := 0, locals := 49 } : Room) #[(.ref p0), (.ref p1), (.int (0 : Int32))] h0 (Q43 Z p0 p1 h0 n0) := by
  refine MetFree.of_bodySF pf_43 hisR ?_
  intro p e s m args below meth c s₁ Bd hml0 hP hK
  obtain ⟨rfl, hZ, hh⟩ := hP
  have hx := Bd.exec
  have hby := Bd.bytes
  have hlk : meth.locks = false := BodyLoose.notSynchronized Bd
  have hml : c.maxLocals = 3 := hml0
  have hown : s.vm.findClass "java/util/ImmutableCollections$ListN" = some m.cls := findClass_of_methodNamed Bd.named
  have hnm := (name_of_methodNamed Bd.named Bd.method).1
  have X0 : Stand p l e ({ frames := 4, cells := 0, slots := 0, locals := 49 } : Room) s m #[(.ref p0), (.ref p1), (.int (0 : Int32))] below meth c s₁ [] 0 0 := Stand.of_body Bd
  have e0 : s₁.heap = h0 := by rw [← hh, Bd.state]; rfl
  have N0 := Fr.nil n0
  have K0 := Keep.refl h0 [p0]
  show own_Go _ _ _ _ (Q43 Z p0 p1 h0 n0) _ _ _
  refine own_by (fun _ k => castTop (ef_43 m p0 p1) k) ?_
  show own_Go _ _ _ _ _ _ _ (s₁.setTop (mkF m 0 #[.val (.ref p0), .val (.ref p1), .val (.int (0 : Int32))] []))
  refine own_by (fun _ kz => XS.aloadN X0.here hx rfl (hb hby d43_0) rfl rfl kz) ?_
  show own_Go _ _ _ _ _ _ _ (s₁.setTop (mkF m 1 #[.val (.ref p0), .val (.ref p1), .val (.int (0 : Int32))] [(.ref p0)]))
  obtain ⟨v1, T1, L1, X1, q1, st1⟩ := own_callI X0 hx hZ rfl hown (ow hw 322 rfl) (ow hw 251 rfl) (ow hw 254 rfl) (ow hw 255 rfl) (by decide) (rm34 l Z a0 hw [] p0 h0 n0 Z0 ) (W := 0) (by decide) (by decide) e0 (g := (mkF m 1 #[.val (.ref p0), .val (.ref p1), .val (.int (0 : Int32))] [(.ref p0)])) rfl (by rw [hml]; rfl) (a := p0) (argsL := []) (rest := []) (lenOf pd_34 rfl) rfl rfl (by show 2 * 0 + _ ≤ _; exact Nat.le_of_eq rfl) (hb hby d43_1) (by decide) (by decide)
  obtain ⟨rfl, Nq1, hh1⟩ := q1
  have N1 := Fr.app N0 Nq1
  refine own_by st1 ?_
  show own_Go _ _ _ _ _ _ _ (T1.setTop (mkF m 4 #[.val (.ref p0), .val (.ref p1), .val (.int (0 : Int32))] []))
  refine own_by (fun _ kz => XS.aloadN X1.here hx rfl (hb hby d43_4) rfl rfl kz) ?_
  refine own_by (fun _ kz => XS.aloadN X1.here hx rfl (hb hby d43_5) rfl rfl kz) ?_
  obtain ⟨T2, h2, X2, e2, W2, st2⟩ := putF X1 hx hZ hown (host := "") (Or.inl (ow hw 326 rfl)) Via.refl hh1 pm1 pm0 (Or.inr ⟨ (ow hw 327 rfl), rfl, hnm⟩) (ow hw 316 rfl) (ty := (.array (.object "java/lang/Object"))) (by decide) rfl rfl (g := (mkF m 6 #[.val (.ref p0), .val (.ref p1), .val (.int (0 : Int32))] [(.ref p1), (.ref p0)])) rfl rfl (hb hby d43_6)
  have N2 := Fr.snoc X2 N1 pm3
  have Z2 : n0 ≤ h2.size := by rw [W2.size]; exact Z0
  have K2 := K0.wr W2 (Or.inl (List.mem_of_getElem? (i := 0) rfl))
  have pm0_h2 := pm0.wr W2
  have pm1_h2 := pm1.same W2
  have pm2_h2 := pm2.other W2 (Or.inr (slot_ne (Or.inr (ow hw 329 rfl)) (Or.inr (ow hw 327 rfl)) (by decide) (by decide : parseFieldDescriptor "Z" = some .boolean) (by decide : parseFieldDescriptor "[Ljava/lang/Object;" = some (.array (.object "java/lang/Object")))))
  refine own_by st2 ?_
  show own_Go _ _ _ _ _ _ _ (T2.setTop (mkF m 9 #[.val (.ref p0), .val (.ref p1), .val (.int (0 : Int32))] []))
  refine own_by (fun _ kz => XS.aloadN X2.here hx rfl (hb hby d43_9) rfl rfl kz) ?_
  refine own_by (fun _ kz => XS.iloadN X2.here hx rfl (hb hby d43_10) rfl kz) ?_
  obtain ⟨T3, h3, X3, e3, W3, st3⟩ := putFN X2 hx hZ hown (ow hw 328 rfl) Via.refl e2 pm2_h2 pm0_h2 (Or.inr ⟨ (ow hw 329 rfl), rfl, hnm⟩) (ow hw 316 rfl) (ty := .boolean) (v' := (.int (nar .boolean (0 : Int32)))) (by decide) rfl (fits_nar_bool _) (g := (mkF m 11 #[.val (.ref p0), .val (.ref p1), .val (.int (0 : Int32))] [(.int (0 : Int32)), (.ref p0)])) rfl rfl (hb hby d43_11)
  have N3 := Fr.snoc X3 N2 pm3
  have Z3 : n0 ≤ h3.size := by rw [W3.size]; exact Z2
  have K3 := K2.wr W3 (Or.inl (List.mem_of_getElem? (i := 0) rfl))
  have pm0_h3 := pm0_h2.wr W3
  have pm1_h3 := pm1_h2.other W3 (Or.inr (slot_ne (Or.inr (ow hw 327 rfl)) (Or.inr (ow hw 329 rfl)) (by decide) (by decide : parseFieldDescriptor "[Ljava/lang/Object;" = some (.array (.object "java/lang/Object"))) (by decide : parseFieldDescriptor "Z" = some .boolean)))
  have pm2_h3 := pm2_h2.same W3
  refine own_by st3 ?_
  show own_Go _ _ _ _ _ _ _ (T3.setTop (mkF m 14 #[.val (.ref p0), .val (.ref p1), .val (.int (0 : Int32))] []))
  exact own_retV X3 hx hlk Bd.returns (hb hby d43_14) (by decide) (by decide) ⟨rfl, N3, by rw [e3]; exact K3, by rw [e3]; exact pm1_h3⟩
theorem d42_0 : decode jdk_56_method_4_code 0 = .ok (.aload_n 0, 1) := by decide +kernel
theorem d42_1 : decode jdk_56_method_4_code 1 = .ok (.arraylength, 1) := by decide +kernel
theorem d42_2 : decode jdk_56_method_4_code 2 = .ok (.anewarray 2, 3) := by decide +kernel
theorem d42_5 : decode jdk_56_method_4_code 5 = .ok (.astore_n 1, 1) := by decide +kernel
theorem d42_6 : decode jdk_56_method_4_code 6 = .ok (.iconst 0, 1) := by decide +kernel
theorem d42_7 : decode jdk_56_method_4_code 7 = .ok (.istore_n 2, 1) := by decide +kernel
theorem d42_8 : decode jdk_56_method_4_code 8 = .ok (.iload_n 2, 1) := by decide +kernel
theorem d42_9 : decode jdk_56_method_4_code 9 = .ok (.aload_n 0, 1) := by decide +kernel
theorem d42_10 : decode jdk_56_method_4_code 10 = .ok (.arraylength, 1) := by decide +kernel
theorem d42_11 : decode jdk_56_method_4_code 11 = .ok (.if_icmp .ge 18, 3) := by decide +kernel
theorem d42_14 : decode jdk_56_method_4_code 14 = .ok (.aload_n 1, 1) := by decide +kernel
theorem d42_15 : decode jdk_56_method_4_code 15 = .ok (.iload_n 2, 1) := by decide +kernel
theorem d42_16 : decode jdk_56_method_4_code 16 = .ok (.aload_n 0, 1) := by decide +kernel
theorem d42_17 : decode jdk_56_method_4_code 17 = .ok (.iload_n 2, 1) := by decide +kernel
theorem d42_18 : decode jdk_56_method_4_code 18 = .ok (.aaload, 1) := by decide +kernel
theorem d42_19 : decode jdk_56_method_4_code 19 = .ok (.invokestatic 37, 3) := by decide +kernel
theorem d42_22 : decode jdk_56_method_4_code 22 = .ok (.aastore, 1) := by decide +kernel
theorem d42_23 : decode jdk_56_method_4_code 23 = .ok (.iinc 2 1, 3) := by decide +kernel
theorem d42_26 : decode jdk_56_method_4_code 26 = .ok (.goto (-18), 3) := by decide +kernel
theorem d42_29 : decode jdk_56_method_4_code 29 = .ok (.new 12, 3) := by decide +kernel
theorem d42_32 : decode jdk_56_method_4_code 32 = .ok (.dup, 1) := by decide +kernel
theorem d42_33 : decode jdk_56_method_4_code 33 = .ok (.aload_n 1, 1) := by decide +kernel
theorem d42_34 : decode jdk_56_method_4_code 34 = .ok (.iconst 0, 1) := by decide +kernel
theorem d42_35 : decode jdk_56_method_4_code 35 = .ok (.invokespecial 43, 3) := by decide +kernel
theorem d42_38 : decode jdk_56_method_4_code 38 = .ok (.areturn, 1) := by decide +kernel
theorem pf_42 : plainFor (⟨"java/util/ImmutableCollections", "listFromArray", "([Ljava/lang/Object;)Ljava/util/List;"⟩ : MethodName) = true := by first | exact plainFor_of_name (by first | (simp [plainName, overriddenIn]; done) | decide +kernel) | decide +kernel
theorem pd_42 : parseMethodDescriptor "([Ljava/lang/Object;)Ljava/util/List;" = some ⟨[(.array (.object "java/lang/Object"))], some (.object "java/util/List")⟩ := by decide +kernel
theorem ef_42 (m : MethodId) (p0 : Addr) : entryFrame m #[(.ref p0)] 3 = mkF m 0 #[.val (.ref p0), .unset, .unset] [] := by first | (simp [entryFrame, mkF, argsToLocals, Value.category]; done) | rfl
def Q42 (Z : State) (p0 : Addr) (kB : ClassId) (d1 : Addr) (d2 : Addr) (d3 : Addr) (h0 : Heap) (n0 : Nat) (v : Option Value) (h : Heap) (L : List Loc) : Prop := ∃ (r : Addr) (ra : Addr) (kC : ClassId), v = some (.ref r) ∧ Fr n0 L ∧ Keep h0 h [] ∧ h0.size ≤ r ∧ h0.size ≤ ra ∧ ra ≠ r ∧ Exa Z h r "java/util/ImmutableCollections$ListN" ∧ Fld Z h r "java/util/ImmutableCollections$ListN" "elements" "[Ljava/lang/Object;" (.ref ra) ∧ Arv Z h ra kC (.object "java/lang/Object") (3 : Int32) [(.ref d1), (.ref d2), (.ref d3)] .null
theorem rm42 (l : Launch) (Z : State) (a0 : Array Value) (hw : ∀ d ∈ tables_1, d.before a0 Z = true) (ws : List Jvm.Cond) (p0 : Addr) (h0 : Heap) (n0 : Nat) (Z0 : n0 ≤ h0.size) (kB : ClassId) (d1 : Addr) (d2 : Addr) (d3 : Addr) (pm0 : Arv Z h0 p0 kB (.object "java/lang/Object") (3 : Int32) [(.ref d1), (.ref d2), (.ref d3)] .null) (pm1 : Exa Z h0 d1 "java/lang/Double") (pm2 : Exa Z h0 d2 "java/lang/Double") (pm3 : Exa Z h0 d3 "java/lang/Double") :
    own_Met l Z (⟨"java/util/ImmutableCollections", "listFromArray", "([Ljava/lang/Object;)Ljava/util/List;"⟩ : MethodName) jdk_56_method_4_code 3 (some (.object "java/util/List")) ws ({ frames := 5, cells := 2, slots := 5, locals := 64 } : Room) #[(.ref p0)] h0 (Q42 Z p0 kB d1 d2 d3 h0 n0) := by
  refine MetFree.of_bodySF pf_42 hisR ?_
  intro p e s m args below meth c s₁ Bd hml0 hP hK
  obtain ⟨rfl, hZ, hh⟩ := hP
  have hx := Bd.exec
  have hby := Bd.bytes
  have hlk : meth.locks = false := BodyLoose.notSynchronized Bd
  have hml : c.maxLocals = 3 := hml0
  have hown : s.vm.findClass "java/util/ImmutableCollections" = some m.cls := findClass_of_methodNamed Bd.named
  have hnm := (name_of_methodNamed Bd.named Bd.method).1
  have X0 : Stand p l e ({ frames := 5, cells := 2, slots := 5, locals := 64 } : Room) s m #[(.ref p0)] below meth c s₁ [] 0 0 := Stand.of_body Bd
  have e0 : s₁.heap = h0 := by rw [← hh, Bd.state]; rfl
  have N0 := Fr.nil n0
  have K0 := Keep.refl h0 []
  show own_Go _ _ _ _ (Q42 Z p0 kB d1 d2 d3 h0 n0) _ _ _
  refine own_by (fun _ k => castTop (ef_42 m p0) k) ?_
  show own_Go _ _ _ _ _ _ _ (s₁.setTop (mkF m 0 #[.val (.ref p0), .unset, .unset] []))
  refine own_by (fun _ kz => XS.aloadN X0.here hx rfl (hb hby d42_0) rfl rfl kz) ?_
  show own_Go _ _ _ _ _ _ _ (s₁.setTop (mkF m 1 #[.val (.ref p0), .unset, .unset] [(.ref p0)]))
  refine own_by (fun _ kz => own_len X0 hx hZ e0 pm0 (g := (mkF m 1 #[.val (.ref p0), .unset, .unset] [(.ref p0)])) rfl rfl (hb hby d42_1) _ kz) ?_
  show own_Go _ _ _ _ _ _ _ (s₁.setTop (mkF m 2 #[.val (.ref p0), .unset, .unset] [(.int (3 : Int32))]))
  obtain ⟨T1, h1, k1, X1, e1, E1, A1, Ea1, Ov1, st1⟩ := newRE X0 hx hZ hown (ow hw 314 rfl) (ow hw 80 rfl) e0 (g := (mkF m 2 #[.val (.ref p0), .unset, .unset] [(.int (3 : Int32))])) rfl (hb hby d42_2) rfl (by decide) (cap := 3) (by decide) (by decide) (by decide) (by decide) (ad := "[Ljava/lang/Object;") (by decide)
  obtain ⟨b1, g1⟩ : ∃ z, z = h0.size := ⟨_, rfl⟩
  rw [← g1] at A1 Ea1 st1
  have ge_b1 : n0 ≤ b1 := Nat.le_trans Z0 (Nat.le_of_eq g1.symm)
  have sz_b1 : h0.size ≤ b1 := Nat.le_trans K0.1 (Nat.le_of_eq g1.symm)
  have ne_p0_b1 : p0 ≠ b1 := by rw [g1]; exact Nat.ne_of_lt pm0.lt
  have ne_d1_b1 : d1 ≠ b1 := by rw [g1]; exact Nat.ne_of_lt pm1.lt
  have ne_d2_b1 : d2 ≠ b1 := by rw [g1]; exact Nat.ne_of_lt pm2.lt
  have ne_d3_b1 : d3 ≠ b1 := by rw [g1]; exact Nat.ne_of_lt pm3.lt
  have Z1 : n0 ≤ h1.size := Nat.le_trans Z0 E1.1
  have K1 := K0.ext E1
  have pm0_h1 := pm0.ext E1
  have pm1_h1 := pm1.ext E1
  have pm2_h1 := pm2.ext E1
  have pm3_h1 := pm3.ext E1
  have V1 : Arv Z h1 b1 k1 (.object "java/lang/Object") (3 : Int32) [.null, .null, .null] .null := (Arv.new A1 (by decide)).pad (fun i => pad_rep [] _ 3 i)
  refine own_by st1 ?_
  show own_Go _ _ _ _ _ _ _ (T1.setTop (mkF m 5 #[.val (.ref p0), .unset, .unset] [(.ref b1)]))
  refine own_by (fun _ kz => XS.astoreN X1.here hx rfl (hb hby d42_5) rfl rfl (l' := #[.val (.ref p0), .val (.ref b1), .unset]) rfl kz) ?_
  show own_Go _ _ _ _ _ _ _ (T1.setTop (mkF m 6 #[.val (.ref p0), .val (.ref b1), .unset] []))
  refine own_by (fun _ kz => XS.iconst X1.here hx rfl (hb hby d42_6) kz) ?_
  show own_Go _ _ _ _ _ _ _ (T1.setTop (mkF m 7 #[.val (.ref p0), .val (.ref b1), .unset] [(.int (0 : Int32))]))
  refine own_by (fun _ kz => XS.istoreN X1.here hx rfl (hb hby d42_7) rfl (l' := #[.val (.ref p0), .val (.ref b1), .val (.int (0 : Int32))]) rfl kz) ?_
  show own_Go _ _ _ _ _ _ _ (T1.setTop (mkF m 8 #[.val (.ref p0), .val (.ref b1), .val (.int (0 : Int32))] []))
  refine own_by (fun _ kz => XS.iloadN X1.here hx rfl (hb hby d42_8) rfl kz) ?_
  refine own_by (fun _ kz => XS.aloadN X1.here hx rfl (hb hby d42_9) rfl rfl kz) ?_
  show own_Go _ _ _ _ _ _ _ (T1.setTop (mkF m 10 #[.val (.ref p0), .val (.ref b1), .val (.int (0 : Int32))] [(.ref p0), (.int (0 : Int32))]))
  refine own_by (fun _ kz => own_len X1 hx hZ e1 pm0_h1 (g := (mkF m 10 #[.val (.ref p0), .val (.ref b1), .val (.int (0 : Int32))] [(.ref p0), (.int (0 : Int32))])) rfl rfl (hb hby d42_10) _ kz) ?_
  show own_Go _ _ _ _ _ _ _ (T1.setTop (mkF m 11 #[.val (.ref p0), .val (.ref b1), .val (.int (0 : Int32))] [(.int (3 : Int32)), (.int (0 : Int32))]))
  refine own_by (fun _ kz => XS.icmpNo X1.here hx rfl (hb hby d42_11) rfl (tlt (by decide : ((0 : Int32) < (3 : Int32)))).2.1 kz) ?_
  show own_Go _ _ _ _ _ _ _ (T1.setTop (mkF m 14 #[.val (.ref p0), .val (.ref b1), .val (.int (0 : Int32))] []))
  refine own_by (fun _ kz => XS.aloadN X1.here hx rfl (hb hby d42_14) rfl rfl kz) ?_
  refine own_by (fun _ kz => XS.iloadN X1.here hx rfl (hb hby d42_15) rfl kz) ?_
  refine own_by (fun _ kz => XS.aloadN X1.here hx rfl (hb hby d42_16) rfl rfl kz) ?_
  refine own_by (fun _ kz => XS.iloadN X1.here hx rfl (hb hby d42_17) rfl kz) ?_
  show own_Go _ _ _ _ _ _ _ (T1.setTop (mkF m 18 #[.val (.ref p0), .val (.ref b1), .val (.int (0 : Int32))] [(.int (0 : Int32)), (.ref p0), (.int (0 : Int32)), (.ref b1)]))
  refine own_by (fun _ kz => own_ldA X1 hx hZ e1 pm0_h1 rfl (j := (0 : Int32)) ⟨by decide, by decide⟩ (v := (.ref d1)) rfl (g := (mkF m 18 #[.val (.ref p0), .val (.ref b1), .val (.int (0 : Int32))] [(.int (0 : Int32)), (.ref p0), (.int (0 : Int32)), (.ref b1)])) rfl rfl (hb hby d42_18) _ kz) ?_
  show own_Go _ _ _ _ _ _ _ (T1.setTop (mkF m 19 #[.val (.ref p0), .val (.ref b1), .val (.int (0 : Int32))] [(.ref d1), (.int (0 : Int32)), (.ref b1)]))
  obtain ⟨v2, T2, L2, X2, q2, st2⟩ := own_callS X1 hx hZ hown (ow hw 315 rfl) (ow hw 265 rfl) (ow hw 266 rfl) (ow hw 267 rfl) (by decide) (rm36 l Z a0 hw [] d1 h1 n0 Z1 ) (W := 2) (by decide) (by decide) e1 (g := (mkF m 19 #[.val (.ref p0), .val (.ref b1), .val (.int (0 : Int32))] [(.ref d1), (.int (0 : Int32)), (.ref b1)])) rfl (by rw [hml]; rfl) (argsL := [(.ref d1)]) (rest := [(.int (0 : Int32)), (.ref b1)]) (lenOf pd_36 rfl) rfl rfl (by show 2 * 0 + _ ≤ _; exact Nat.le_of_eq rfl) (hb hby d42_19) (by decide) (by decide)
  obtain ⟨rfl, Nq2, hh2⟩ := q2
  have N2 := Fr.app N0 Nq2
  refine own_by st2 ?_
  show own_Go _ _ _ _ _ _ _ (T2.setTop (mkF m 22 #[.val (.ref p0), .val (.ref b1), .val (.int (0 : Int32))] [(.ref d1), (.int (0 : Int32)), (.ref b1)]))
  obtain ⟨T3, h3, X3, e3, W3, st3⟩ := own_stO X2 hx hZ hh2 V1 Ov1 (Ins.of_exa pm1_h1 (ow hw 81 rfl)) (j := (0 : Int32)) ⟨by decide, by decide⟩ (g := (mkF m 22 #[.val (.ref p0), .val (.ref b1), .val (.int (0 : Int32))] [(.ref d1), (.int (0 : Int32)), (.ref b1)])) rfl rfl (hb hby d42_22)
  have N3 := Fr.snoc X3 N2 ge_b1
  have Z3 : n0 ≤ h3.size := by rw [W3.size]; exact Z1
  have K3 := K1.wr W3 (Or.inr sz_b1)
  have pm0_h3 := pm0_h1.other W3 ne_p0_b1
  have pm1_h3 := pm1_h1.wr W3
  have pm2_h3 := pm2_h1.wr W3
  have pm3_h3 := pm3_h1.wr W3
  have Ea1_h3 := Ea1.wr W3
  have V3 : Arv Z h3 b1 k1 (.object "java/lang/Object") (3 : Int32) [(.ref d1), .null, .null] .null := own_set V1 rfl W3 (i := 0) rfl (Nat.le_of_ble_eq_true rfl)
  refine own_by st3 ?_
  show own_Go _ _ _ _ _ _ _ (T3.setTop (mkF m 23 #[.val (.ref p0), .val (.ref b1), .val (.int (0 : Int32))] []))
  refine own_by (fun _ kz => XS.iinc X3.here hx rfl (hb hby d42_23) rfl (l' := #[.val (.ref p0), .val (.ref b1), .val (.int (1 : Int32))]) rfl kz) ?_
  show own_Go _ _ _ _ _ _ _ (T3.setTop (mkF m 26 #[.val (.ref p0), .val (.ref b1), .val (.int (1 : Int32))] []))
  refine own_by (fun _ kz => XS.goto X3.here hx rfl (pc0 := 26) (pc' := 8) rfl (hb hby d42_26) (by decide) (by decide) kz) ?_
  show own_Go _ _ _ _ _ _ _ (T3.setTop (mkF m 8 #[.val (.ref p0), .val (.ref b1), .val (.int (1 : Int32))] []))
  refine own_by (fun _ kz => XS.iloadN X3.here hx rfl (hb hby d42_8) rfl kz) ?_
  refine own_by (fun _ kz => XS.aloadN X3.here hx rfl (hb hby d42_9) rfl rfl kz) ?_
  show own_Go _ _ _ _ _ _ _ (T3.setTop (mkF m 10 #[.val (.ref p0), .val (.ref b1), .val (.int (1 : Int32))] [(.ref p0), (.int (1 : Int32))]))
  refine own_by (fun _ kz => own_len X3 hx hZ e3 pm0_h3 (g := (mkF m 10 #[.val (.ref p0), .val (.ref b1), .val (.int (1 : Int32))] [(.ref p0), (.int (1 : Int32))])) rfl rfl (hb hby d42_10) _ kz) ?_
  show own_Go _ _ _ _ _ _ _ (T3.setTop (mkF m 11 #[.val (.ref p0), .val (.ref b1), .val (.int (1 : Int32))] [(.int (3 : Int32)), (.int (1 : Int32))]))
  refine own_by (fun _ kz => XS.icmpNo X3.here hx rfl (hb hby d42_11) rfl (tlt (by decide : ((1 : Int32) < (3 : Int32)))).2.1 kz) ?_
  show own_Go _ _ _ _ _ _ _ (T3.setTop (mkF m 14 #[.val (.ref p0), .val (.ref b1), .val (.int (1 : Int32))] []))
  refine own_by (fun _ kz => XS.aloadN X3.here hx rfl (hb hby d42_14) rfl rfl kz) ?_
  refine own_by (fun _ kz => XS.iloadN X3.here hx rfl (hb hby d42_15) rfl kz) ?_
  refine own_by (fun _ kz => XS.aloadN X3.here hx rfl (hb hby d42_16) rfl rfl kz) ?_
  refine own_by (fun _ kz => XS.iloadN X3.here hx rfl (hb hby d42_17) rfl kz) ?_
  show own_Go _ _ _ _ _ _ _ (T3.setTop (mkF m 18 #[.val (.ref p0), .val (.ref b1), .val (.int (1 : Int32))] [(.int (1 : Int32)), (.ref p0), (.int (1 : Int32)), (.ref b1)]))
  refine own_by (fun _ kz => own_ldA X3 hx hZ e3 pm0_h3 rfl (j := (1 : Int32)) ⟨by decide, by decide⟩ (v := (.ref d2)) rfl (g := (mkF m 18 #[.val (.ref p0), .val (.ref b1), .val (.int (1 : Int32))] [(.int (1 : Int32)), (.ref p0), (.int (1 : Int32)), (.ref b1)])) rfl rfl (hb hby d42_18) _ kz) ?_
  show own_Go _ _ _ _ _ _ _ (T3.setTop (mkF m 19 #[.val (.ref p0), .val (.ref b1), .val (.int (1 : Int32))] [(.ref d2), (.int (1 : Int32)), (.ref b1)]))
  obtain ⟨v4, T4, L4, X4, q4, st4⟩ := own_callS X3 hx hZ hown (ow hw 315 rfl) (ow hw 265 rfl) (ow hw 266 rfl) (ow hw 267 rfl) (by decide) (rm36 l Z a0 hw [] d2 h3 n0 Z3 ) (W := 2) (by decide) (by decide) e3 (g := (mkF m 19 #[.val (.ref p0), .val (.ref b1), .val (.int (1 : Int32))] [(.ref d2), (.int (1 : Int32)), (.ref b1)])) rfl (by rw [hml]; rfl) (argsL := [(.ref d2)]) (rest := [(.int (1 : Int32)), (.ref b1)]) (lenOf pd_36 rfl) rfl rfl (by show 2 * 0 + _ ≤ _; exact Nat.le_of_eq rfl) (hb hby d42_19) (by decide) (by decide)
  obtain ⟨rfl, Nq4, hh4⟩ := q4
  have N4 := Fr.app N3 Nq4
  refine own_by st4 ?_
  show own_Go _ _ _ _ _ _ _ (T4.setTop (mkF m 22 #[.val (.ref p0), .val (.ref b1), .val (.int (1 : Int32))] [(.ref d2), (.int (1 : Int32)), (.ref b1)]))
  obtain ⟨T5, h5, X5, e5, W5, st5⟩ := own_stO X4 hx hZ hh4 V3 Ov1 (Ins.of_exa pm2_h3 (ow hw 81 rfl)) (j := (1 : Int32)) ⟨by decide, by decide⟩ (g := (mkF m 22 #[.val (.ref p0), .val (.ref b1), .val (.int (1 : Int32))] [(.ref d2), (.int (1 : Int32)), (.ref b1)])) rfl rfl (hb hby d42_22)
  have N5 := Fr.snoc X5 N4 ge_b1
  have Z5 : n0 ≤ h5.size := by rw [W5.size]; exact Z3
  have K5 := K3.wr W5 (Or.inr sz_b1)
  have pm0_h5 := pm0_h3.other W5 ne_p0_b1
  have pm1_h5 := pm1_h3.wr W5
  have pm2_h5 := pm2_h3.wr W5
  have pm3_h5 := pm3_h3.wr W5
  have Ea1_h5 := Ea1_h3.wr W5
  have V5 : Arv Z h5 b1 k1 (.object "java/lang/Object") (3 : Int32) [(.ref d1), (.ref d2), .null] .null := own_set V3 rfl W5 (i := 1) rfl (Nat.le_of_ble_eq_true rfl)
  refine own_by st5 ?_
  show own_Go _ _ _ _ _ _ _ (T5.setTop (mkF m 23 #[.val (.ref p0), .val (.ref b1), .val (.int (1 : Int32))] []))
  refine own_by (fun _ kz => XS.iinc X5.here hx rfl (hb hby d42_23) rfl (l' := #[.val (.ref p0), .val (.ref b1), .val (.int (2 : Int32))]) rfl kz) ?_
  show own_Go _ _ _ _ _ _ _ (T5.setTop (mkF m 26 #[.val (.ref p0), .val (.ref b1), .val (.int (2 : Int32))] []))
  refine own_by (fun _ kz => XS.goto X5.here hx rfl (pc0 := 26) (pc' := 8) rfl (hb hby d42_26) (by decide) (by decide) kz) ?_
  show own_Go _ _ _ _ _ _ _ (T5.setTop (mkF m 8 #[.val (.ref p0), .val (.ref b1), .val (.int (2 : Int32))] []))
  refine own_by (fun _ kz => XS.iloadN X5.here hx rfl (hb hby d42_8) rfl kz) ?_
  refine own_by (fun _ kz => XS.aloadN X5.here hx rfl (hb hby d42_9) rfl rfl kz) ?_
  show own_Go _ _ _ _ _ _ _ (T5.setTop (mkF m 10 #[.val (.ref p0), .val (.ref b1), .val (.int (2 : Int32))] [(.ref p0), (.int (2 : Int32))]))
  refine own_by (fun _ kz => own_len X5 hx hZ e5 pm0_h5 (g := (mkF m 10 #[.val (.ref p0), .val (.ref b1), .val (.int (2 : Int32))] [(.ref p0), (.int (2 : Int32))])) rfl rfl (hb hby d42_10) _ kz) ?_
  show own_Go _ _ _ _ _ _ _ (T5.setTop (mkF m 11 #[.val (.ref p0), .val (.ref b1), .val (.int (2 : Int32))] [(.int (3 : Int32)), (.int (2 : Int32))]))
  refine own_by (fun _ kz => XS.icmpNo X5.here hx rfl (hb hby d42_11) rfl (tlt (by decide : ((2 : Int32) < (3 : Int32)))).2.1 kz) ?_
  show own_Go _ _ _ _ _ _ _ (T5.setTop (mkF m 14 #[.val (.ref p0), .val (.ref b1), .val (.int (2 : Int32))] []))
  refine own_by (fun _ kz => XS.aloadN X5.here hx rfl (hb hby d42_14) rfl rfl kz) ?_
  refine own_by (fun _ kz => XS.iloadN X5.here hx rfl (hb hby d42_15) rfl kz) ?_
  refine own_by (fun _ kz => XS.aloadN X5.here hx rfl (hb hby d42_16) rfl rfl kz) ?_
  refine own_by (fun _ kz => XS.iloadN X5.here hx rfl (hb hby d42_17) rfl kz) ?_
  show own_Go _ _ _ _ _ _ _ (T5.setTop (mkF m 18 #[.val (.ref p0), .val (.ref b1), .val (.int (2 : Int32))] [(.int (2 : Int32)), (.ref p0), (.int (2 : Int32)), (.ref b1)]))
  refine own_by (fun _ kz => own_ldA X5 hx hZ e5 pm0_h5 rfl (j := (2 : Int32)) ⟨by decide, by decide⟩ (v := (.ref d3)) rfl (g := (mkF m 18 #[.val (.ref p0), .val (.ref b1), .val (.int (2 : Int32))] [(.int (2 : Int32)), (.ref p0), (.int (2 : Int32)), (.ref b1)])) rfl rfl (hb hby d42_18) _ kz) ?_
  show own_Go _ _ _ _ _ _ _ (T5.setTop (mkF m 19 #[.val (.ref p0), .val (.ref b1), .val (.int (2 : Int32))] [(.ref d3), (.int (2 : Int32)), (.ref b1)]))
  obtain ⟨v6, T6, L6, X6, q6, st6⟩ := own_callS X5 hx hZ hown (ow hw 315 rfl) (ow hw 265 rfl) (ow hw 266 rfl) (ow hw 267 rfl) (by decide) (rm36 l Z a0 hw [] d3 h5 n0 Z5 ) (W := 2) (by decide) (by decide) e5 (g := (mkF m 19 #[.val (.ref p0), .val (.ref b1), .val (.int (2 : Int32))] [(.ref d3), (.int (2 : Int32)), (.ref b1)])) rfl (by rw [hml]; rfl) (argsL := [(.ref d3)]) (rest := [(.int (2 : Int32)), (.ref b1)]) (lenOf pd_36 rfl) rfl rfl (by show 2 * 0 + _ ≤ _; exact Nat.le_of_eq rfl) (hb hby d42_19) (by decide) (by decide)
  obtain ⟨rfl, Nq6, hh6⟩ := q6
  have N6 := Fr.app N5 Nq6
  refine own_by st6 ?_
  show own_Go _ _ _ _ _ _ _ (T6.setTop (mkF m 22 #[.val (.ref p0), .val (.ref b1), .val (.int (2 : Int32))] [(.ref d3), (.int (2 : Int32)), (.ref b1)]))
  obtain ⟨T7, h7, X7, e7, W7, st7⟩ := own_stO X6 hx hZ hh6 V5 Ov1 (Ins.of_exa pm3_h5 (ow hw 81 rfl)) (j := (2 : Int32)) ⟨by decide, by decide⟩ (g := (mkF m 22 #[.val (.ref p0), .val (.ref b1), .val (.int (2 : Int32))] [(.ref d3), (.int (2 : Int32)), (.ref b1)])) rfl rfl (hb hby d42_22)
  have N7 := Fr.snoc X7 N6 ge_b1
  have Z7 : n0 ≤ h7.size := by rw [W7.size]; exact Z5
  have K7 := K5.wr W7 (Or.inr sz_b1)
  have pm0_h7 := pm0_h5.other W7 ne_p0_b1
  have pm1_h7 := pm1_h5.wr W7
  have pm2_h7 := pm2_h5.wr W7
  have pm3_h7 := pm3_h5.wr W7
  have Ea1_h7 := Ea1_h5.wr W7
  have V7 : Arv Z h7 b1 k1 (.object "java/lang/Object") (3 : Int32) [(.ref d1), (.ref d2), (.ref d3)] .null := own_set V5 rfl W7 (i := 2) rfl (Nat.le_of_ble_eq_true rfl)
  refine own_by st7 ?_
  show own_Go _ _ _ _ _ _ _ (T7.setTop (mkF m 23 #[.val (.ref p0), .val (.ref b1), .val (.int (2 : Int32))] []))
  refine own_by (fun _ kz => XS.iinc X7.here hx rfl (hb hby d42_23) rfl (l' := #[.val (.ref p0), .val (.ref b1), .val (.int (3 : Int32))]) rfl kz) ?_
  show own_Go _ _ _ _ _ _ _ (T7.setTop (mkF m 26 #[.val (.ref p0), .val (.ref b1), .val (.int (3 : Int32))] []))
  refine own_by (fun _ kz => XS.goto X7.here hx rfl (pc0 := 26) (pc' := 8) rfl (hb hby d42_26) (by decide) (by decide) kz) ?_
  show own_Go _ _ _ _ _ _ _ (T7.setTop (mkF m 8 #[.val (.ref p0), .val (.ref b1), .val (.int (3 : Int32))] []))
  refine own_by (fun _ kz => XS.iloadN X7.here hx rfl (hb hby d42_8) rfl kz) ?_
  refine own_by (fun _ kz => XS.aloadN X7.here hx rfl (hb hby d42_9) rfl rfl kz) ?_
  show own_Go _ _ _ _ _ _ _ (T7.setTop (mkF m 10 #[.val (.ref p0), .val (.ref b1), .val (.int (3 : Int32))] [(.ref p0), (.int (3 : Int32))]))
  refine own_by (fun _ kz => own_len X7 hx hZ e7 pm0_h7 (g := (mkF m 10 #[.val (.ref p0), .val (.ref b1), .val (.int (3 : Int32))] [(.ref p0), (.int (3 : Int32))])) rfl rfl (hb hby d42_10) _ kz) ?_
  show own_Go _ _ _ _ _ _ _ (T7.setTop (mkF m 11 #[.val (.ref p0), .val (.ref b1), .val (.int (3 : Int32))] [(.int (3 : Int32)), (.int (3 : Int32))]))
  refine own_by (fun _ kz => XS.icmpYes X7.here hx rfl (pc0 := 11) (pc' := 29) rfl (hb hby d42_11) rfl (flt (by decide : ¬ ((3 : Int32) < (3 : Int32)))).2.1 (by decide) (by decide) kz) ?_
  show own_Go _ _ _ _ _ _ _ (T7.setTop (mkF m 29 #[.val (.ref p0), .val (.ref b1), .val (.int (3 : Int32))] []))
  obtain ⟨T8, h8, X8, e8, E8, A8, D8, -, st8⟩ := newO X7 hx hZ hown (ow hw 204 rfl) (ow hw 316 rfl) (ow hw 317 rfl) e7 (g := (mkF m 29 #[.val (.ref p0), .val (.ref b1), .val (.int (3 : Int32))] [])) rfl (hb hby d42_29) (by decide) (by decide)
  obtain ⟨b8, g8⟩ : ∃ z, z = h7.size := ⟨_, rfl⟩
  rw [← g8] at A8 D8 st8
  have ge_b8 : n0 ≤ b8 := Nat.le_trans Z7 (Nat.le_of_eq g8.symm)
  have sz_b8 : h0.size ≤ b8 := Nat.le_trans K7.1 (Nat.le_of_eq g8.symm)
  have ne_p0_b8 : p0 ≠ b8 := by rw [g8]; exact Nat.ne_of_lt pm0_h7.lt
  have ne_d1_b8 : d1 ≠ b8 := by rw [g8]; exact Nat.ne_of_lt pm1_h7.lt
  have ne_d2_b8 : d2 ≠ b8 := by rw [g8]; exact Nat.ne_of_lt pm2_h7.lt
  have ne_d3_b8 : d3 ≠ b8 := by rw [g8]; exact Nat.ne_of_lt pm3_h7.lt
  have ne_b1_b8 : b1 ≠ b8 := by rw [g8]; exact Nat.ne_of_lt V7.lt
  have Z8 : n0 ≤ h8.size := Nat.le_trans Z7 E8.1
  have K8 := K7.ext E8
  have pm0_h8 := pm0_h7.ext E8
  have pm1_h8 := pm1_h7.ext E8
  have pm2_h8 := pm2_h7.ext E8
  have pm3_h8 := pm3_h7.ext E8
  have V7_h8 := V7.ext E8
  have Ea1_h8 := Ea1_h7.ext E8
  have F8_elements : Fld Z h8 b8 "java/util/ImmutableCollections$ListN" "elements" "[Ljava/lang/Object;" .null := D8 (Or.inr (ow hw 327 rfl)) (ty := (.array (.object "java/lang/Object"))) (by decide)
  have F8_allowNulls : Fld Z h8 b8 "java/util/ImmutableCollections$ListN" "allowNulls" "Z" (.int (0 : Int32)) := D8 (Or.inr (ow hw 329 rfl)) (ty := .boolean) (by decide)
  refine own_by st8 ?_
  show own_Go _ _ _ _ _ _ _ (T8.setTop (mkF m 32 #[.val (.ref p0), .val (.ref b1), .val (.int (3 : Int32))] [(.ref b8)]))
  refine own_by (fun _ kz => XS.dup X8.here hx rfl (hb hby d42_32) rfl rfl kz) ?_
  refine own_by (fun _ kz => XS.aloadN X8.here hx rfl (hb hby d42_33) rfl rfl kz) ?_
  refine own_by (fun _ kz => XS.iconst X8.here hx rfl (hb hby d42_34) kz) ?_
  show own_Go _ _ _ _ _ _ _ (T8.setTop (mkF m 35 #[.val (.ref p0), .val (.ref b1), .val (.int (3 : Int32))] [(.int (0 : Int32)), (.ref b1), (.ref b8), (.ref b8)]))
  obtain ⟨v9, T9, L9, X9, q9, st9⟩ := own_callN X8 hx hZ rfl hown (ow hw 318 rfl) (ow hw 319 rfl) (ow hw 317 rfl) (ow hw 321 rfl) (by decide) (rm43 l Z a0 hw [] b8 b1 h8 n0 Z8 A8 F8_elements F8_allowNulls ge_b8) (W := 1) (by decide) (by decide) e8 (g := (mkF m 35 #[.val (.ref p0), .val (.ref b1), .val (.int (3 : Int32))] [(.int (0 : Int32)), (.ref b1), (.ref b8), (.ref b8)])) rfl (by rw [hml]; rfl) (a := b8) (argsL := [(.ref b1), (.int (0 : Int32))]) (rest := [(.ref b8)]) (lenOf pd_43 rfl) rfl rfl (by show 2 * 0 + _ ≤ _; exact Nat.le_of_eq rfl) (hb hby d42_35) (by decide) (by decide)
  obtain ⟨rfl, Nq9, Kq9, o9_0⟩ := q9
  have N9 := Fr.app N7 Nq9
  have Z9 : n0 ≤ T9.heap.size := Nat.le_trans Z8 Kq9.1
  have K9 := K8.trans Kq9 (allS (Or.inr sz_b8) all0)
  have pm0_h9 := pm0_h8.keep Kq9 (ninS ne_p0_b8 nin0)
  have pm1_h9 := pm1_h8.keep Kq9
  have pm2_h9 := pm2_h8.keep Kq9
  have pm3_h9 := pm3_h8.keep Kq9
  have V7_h9 := V7_h8.keep Kq9 (ninS ne_b1_b8 nin0)
  have Ea1_h9 := Ea1_h8.keep Kq9
  have A8_h9 := A8.keep Kq9
  refine own_by st9 ?_
  show own_Go _ _ _ _ _ _ _ (T9.setTop (mkF m 38 #[.val (.ref p0), .val (.ref b1), .val (.int (3 : Int32))] [(.ref b8)]))
  exact own_retA X9 hx hlk Bd.returns rfl (hb hby d42_38) (by decide) (by decide) ⟨b8, b1, k1, rfl, N9, K9, sz_b8, sz_b1, ne_b1_b8, A8_h9, o9_0, V7_h9⟩
theorem d32_0 : decode jdk_40_method_47_code 0 = .ok (.aload_n 0, 1) := by decide +kernel
theorem d32_1 : decode jdk_40_method_47_code 1 = .ok (.arraylength, 1) := by decide +kernel
theorem d32_2 : decode jdk_40_method_47_code 2 = .ok (.tableswitch 57 0 2 #[26, 32, 43], 26) := by decide +kernel
theorem d32_34 : decode jdk_40_method_47_code 34 = .ok (.new 96, 3) := by decide +kernel
theorem d32_37 : decode jdk_40_method_47_code 37 = .ok (.dup, 1) := by decide +kernel
theorem d32_38 : decode jdk_40_method_47_code 38 = .ok (.aload_n 0, 1) := by decide +kernel
theorem d32_39 : decode jdk_40_method_47_code 39 = .ok (.iconst 0, 1) := by decide +kernel
theorem d32_40 : decode jdk_40_method_47_code 40 = .ok (.aaload, 1) := by decide +kernel
theorem d32_41 : decode jdk_40_method_47_code 41 = .ok (.invokespecial 98, 3) := by decide +kernel
theorem d32_44 : decode jdk_40_method_47_code 44 = .ok (.areturn, 1) := by decide +kernel
theorem d32_45 : decode jdk_40_method_47_code 45 = .ok (.new 96, 3) := by decide +kernel
theorem d32_48 : decode jdk_40_method_47_code 48 = .ok (.dup, 1) := by decide +kernel
theorem d32_49 : decode jdk_40_method_47_code 49 = .ok (.aload_n 0, 1) := by decide +kernel
theorem d32_50 : decode jdk_40_method_47_code 50 = .ok (.iconst 0, 1) := by decide +kernel
theorem d32_51 : decode jdk_40_method_47_code 51 = .ok (.aaload, 1) := by decide +kernel
theorem d32_52 : decode jdk_40_method_47_code 52 = .ok (.aload_n 0, 1) := by decide +kernel
theorem d32_53 : decode jdk_40_method_47_code 53 = .ok (.iconst 1, 1) := by decide +kernel
theorem d32_54 : decode jdk_40_method_47_code 54 = .ok (.aaload, 1) := by decide +kernel
theorem d32_55 : decode jdk_40_method_47_code 55 = .ok (.invokespecial 100, 3) := by decide +kernel
theorem d32_58 : decode jdk_40_method_47_code 58 = .ok (.areturn, 1) := by decide +kernel
theorem d32_59 : decode jdk_40_method_47_code 59 = .ok (.aload_n 0, 1) := by decide +kernel
theorem d32_60 : decode jdk_40_method_47_code 60 = .ok (.invokestatic 109, 3) := by decide +kernel
theorem d32_63 : decode jdk_40_method_47_code 63 = .ok (.areturn, 1) := by decide +kernel
theorem pf_32 : plainFor (⟨"java/util/List", "of", "([Ljava/lang/Object;)Ljava/util/List;"⟩ : MethodName) = true := by first | exact plainFor_of_name (by first | (simp [plainName, overriddenIn]; done) | decide +kernel) | decide +kernel
theorem pd_32 : parseMethodDescriptor "([Ljava/lang/Object;)Ljava/util/List;" = some ⟨[(.array (.object "java/lang/Object"))], some (.object "java/util/List")⟩ := by decide +kernel
theorem ef_32_1 (m : MethodId) (p0 : Addr) : entryFrame m #[(.ref p0)] 2 = mkF m 0 #[.val (.ref p0), .unset] [] := by first | (simp [entryFrame, mkF, argsToLocals, Value.category]; done) | rfl
def Q32_1 (Z : State) (p0 : Addr) (em : Addr) (kB : ClassId) (d1 : Addr) (h0 : Heap) (n0 : Nat) (v : Option Value) (h : Heap) (L : List Loc) : Prop := ∃ (r : Addr), v = some (.ref r) ∧ Fr n0 L ∧ Keep h0 h [] ∧ h0.size ≤ r ∧ Exa Z h r "java/util/ImmutableCollections$List12" ∧ Fld Z h r "java/util/ImmutableCollections$List12" "e0" "Ljava/lang/Object;" (.ref d1) ∧ Fld Z h r "java/util/ImmutableCollections$List12" "e1" "Ljava/lang/Object;" (.ref em)
theorem rm32_1 (l : Launch) (Z : State) (a0 : Array Value) (hw : ∀ d ∈ tables_1, d.before a0 Z = true) (ws : List Jvm.Cond) (p0 : Addr) (h0 : Heap) (n0 : Nat) (Z0 : n0 ≤ h0.size) (em : Addr) (SE : Sta Z Z.heap "java/util/ImmutableCollections" "EMPTY" "Ljava/lang/Object;" (.ref em)) (kB : ClassId) (d1 : Addr) (pm0 : Arv Z h0 p0 kB (.object "java/lang/Object") (1 : Int32) [(.ref d1)] .null) (pm1 : Exa Z h0 d1 "java/lang/Double") (pm2 : Old Z n0 h0) :
    own_Met l Z (⟨"java/util/List", "of", "([Ljava/lang/Object;)Ljava/util/List;"⟩ : MethodName) jdk_40_method_47_code 2 (some (.object "java/util/List")) ws ({ frames := 5, cells := 1, slots := 2, locals := 63 } : Room) #[(.ref p0)] h0 (Q32_1 Z p0 em kB d1 h0 n0) := by
  refine MetFree.of_bodySF pf_32 hisR ?_
  intro p e s m args below meth c s₁ Bd hml0 hP hK
  obtain ⟨rfl, hZ, hh⟩ := hP
  have hx := Bd.exec
  have hby := Bd.bytes
  have hlk : meth.locks = false := BodyLoose.notSynchronized Bd
  have hml : c.maxLocals = 2 := hml0
  have hown : s.vm.findClass "java/util/List" = some m.cls := findClass_of_methodNamed Bd.named
  have hnm := (name_of_methodNamed Bd.named Bd.method).1
  have X0 : Stand p l e ({ frames := 5, cells := 1, slots := 2, locals := 63 } : Room) s m #[(.ref p0)] below meth c s₁ [] 0 0 := Stand.of_body Bd
  have e0 : s₁.heap = h0 := by rw [← hh, Bd.state]; rfl
  have N0 := Fr.nil n0
  have K0 := Keep.refl h0 []
  show own_Go _ _ _ _ (Q32_1 Z p0 em kB d1 h0 n0) _ _ _
  refine own_by (fun _ k => castTop (ef_32_1 m p0) k) ?_
  show own_Go _ _ _ _ _ _ _ (s₁.setTop (mkF m 0 #[.val (.ref p0), .unset] []))
  refine own_by (fun _ kz => XS.aloadN X0.here hx rfl (hb hby d32_0) rfl rfl kz) ?_
  show own_Go _ _ _ _ _ _ _ (s₁.setTop (mkF m 1 #[.val (.ref p0), .unset] [(.ref p0)]))
  refine own_by (fun _ kz => own_len X0 hx hZ e0 pm0 (g := (mkF m 1 #[.val (.ref p0), .unset] [(.ref p0)])) rfl rfl (hb hby d32_1) _ kz) ?_
  show own_Go _ _ _ _ _ _ _ (s₁.setTop (mkF m 2 #[.val (.ref p0), .unset] [(.int (1 : Int32))]))
  refine own_by (fun _ kz => XS.tswIn X0.here hx rfl (pc0 := 2) (pc' := 34) rfl (hb hby d32_2) rfl (by decide) rfl (by decide) (by decide) kz) ?_
  show own_Go _ _ _ _ _ _ _ (s₁.setTop (mkF m 34 #[.val (.ref p0), .unset] []))
  obtain ⟨T1, h1, X1, e1, E1, A1, D1, -, st1⟩ := newO X0 hx hZ hown (ow hw 243 rfl) (ow hw 244 rfl) (ow hw 245 rfl) e0 (g := (mkF m 34 #[.val (.ref p0), .unset] [])) rfl (hb hby d32_34) (by decide) (by decide)
  obtain ⟨b1, g1⟩ : ∃ z, z = h0.size := ⟨_, rfl⟩
  rw [← g1] at A1 D1 st1
  have ge_b1 : n0 ≤ b1 := Nat.le_trans Z0 (Nat.le_of_eq g1.symm)
  have sz_b1 : h0.size ≤ b1 := Nat.le_trans K0.1 (Nat.le_of_eq g1.symm)
  have ne_p0_b1 : p0 ≠ b1 := by rw [g1]; exact Nat.ne_of_lt pm0.lt
  have ne_d1_b1 : d1 ≠ b1 := by rw [g1]; exact Nat.ne_of_lt pm1.lt
  have Z1 : n0 ≤ h1.size := Nat.le_trans Z0 E1.1
  have K1 := K0.ext E1
  have O1 := pm2.ext E1
  have pm0_h1 := pm0.ext E1
  have pm1_h1 := pm1.ext E1
  have F1_e0 : Fld Z h1 b1 "java/util/ImmutableCollections$List12" "e0" "Ljava/lang/Object;" .null := D1 (Or.inr (ow hw 269 rfl)) (ty := (.object "java/lang/Object")) (by decide)
  have F1_e1 : Fld Z h1 b1 "java/util/ImmutableCollections$List12" "e1" "Ljava/lang/Object;" .null := D1 (Or.inr (ow hw 271 rfl)) (ty := (.object "java/lang/Object")) (by decide)
  refine own_by st1 ?_
  show own_Go _ _ _ _ _ _ _ (T1.setTop (mkF m 37 #[.val (.ref p0), .unset] [(.ref b1)]))
  refine own_by (fun _ kz => XS.dup X1.here hx rfl (hb hby d32_37) rfl rfl kz) ?_
  refine own_by (fun _ kz => XS.aloadN X1.here hx rfl (hb hby d32_38) rfl rfl kz) ?_
  refine own_by (fun _ kz => XS.iconst X1.here hx rfl (hb hby d32_39) kz) ?_
  show own_Go _ _ _ _ _ _ _ (T1.setTop (mkF m 40 #[.val (.ref p0), .unset] [(.int (0 : Int32)), (.ref p0), (.ref b1), (.ref b1)]))
  refine own_by (fun _ kz => own_ldA X1 hx hZ e1 pm0_h1 rfl (j := (0 : Int32)) ⟨by decide, by decide⟩ (v := (.ref d1)) rfl (g := (mkF m 40 #[.val (.ref p0), .unset] [(.int (0 : Int32)), (.ref p0), (.ref b1), (.ref b1)])) rfl rfl (hb hby d32_40) _ kz) ?_
  show own_Go _ _ _ _ _ _ _ (T1.setTop (mkF m 41 #[.val (.ref p0), .unset] [(.ref d1), (.ref b1), (.ref b1)]))
  obtain ⟨v2, T2, L2, X2, q2, st2⟩ := own_callI X1 hx hZ rfl hown (ow hw 308 rfl) (ow hw 309 rfl) (ow hw 245 rfl) (ow hw 310 rfl) (by decide) (rm41 l Z a0 hw [] b1 d1 h1 n0 Z1 em SE A1 F1_e0 F1_e1 ge_b1 O1) (W := 1) (by decide) (by decide) e1 (g := (mkF m 41 #[.val (.ref p0), .unset] [(.ref d1), (.ref b1), (.ref b1)])) rfl (by rw [hml]; rfl) (a := b1) (argsL := [(.ref d1)]) (rest := [(.ref b1)]) (lenOf pd_41 rfl) rfl rfl (by show 2 * 0 + _ ≤ _; exact Nat.le_of_eq rfl) (hb hby d32_41) (by decide) (by decide)
  obtain ⟨rfl, Nq2, Kq2, o2_0, o2_1⟩ := q2
  have N2 := Fr.app N0 Nq2
  have Z2 : n0 ≤ T2.heap.size := Nat.le_trans Z1 Kq2.1
  have K2 := K1.trans Kq2 (allS (Or.inr sz_b1) all0)
  have O2 := O1.keep Kq2 (allS ge_b1 all0)
  have pm0_h2 := pm0_h1.keep Kq2 (ninS ne_p0_b1 nin0)
  have pm1_h2 := pm1_h1.keep Kq2
  have A1_h2 := A1.keep Kq2
  refine own_by st2 ?_
  show own_Go _ _ _ _ _ _ _ (T2.setTop (mkF m 44 #[.val (.ref p0), .unset] [(.ref b1)]))
  exact own_retA X2 hx hlk Bd.returns rfl (hb hby d32_44) (by decide) (by decide) ⟨b1, rfl, N2, K2, sz_b1, A1_h2, o2_0, o2_1⟩
theorem d27_0 : decode jdk_56_method_3_code 0 = .ok (.aload_n 0, 1) := by decide +kernel
theorem d27_1 : decode jdk_56_method_3_code 1 = .ok (.instanceof 10, 3) := by decide +kernel
theorem d27_4 : decode jdk_56_method_3_code 4 = .ok (.ifCond .ne 22, 3) := by decide +kernel
theorem d27_7 : decode jdk_56_method_3_code 7 = .ok (.aload_n 0, 1) := by decide +kernel
theorem d27_8 : decode jdk_56_method_3_code 8 = .ok (.instanceof 12, 3) := by decide +kernel
theorem d27_11 : decode jdk_56_method_3_code 11 = .ok (.ifCond .eq 20, 3) := by decide +kernel
theorem d27_31 : decode jdk_56_method_3_code 31 = .ok (.aload_n 0, 1) := by decide +kernel
theorem d27_32 : decode jdk_56_method_3_code 32 = .ok (.invokeinterface 20 1, 5) := by decide +kernel
theorem d27_37 : decode jdk_56_method_3_code 37 = .ok (.ifCond .eq 7, 3) := by decide +kernel
theorem d27_44 : decode jdk_56_method_3_code 44 = .ok (.aload_n 0, 1) := by decide +kernel
theorem d27_45 : decode jdk_56_method_3_code 45 = .ok (.invokeinterface 30 1, 5) := by decide +kernel
theorem d27_50 : decode jdk_56_method_3_code 50 = .ok (.invokestatic 34, 3) := by decide +kernel
theorem d27_53 : decode jdk_56_method_3_code 53 = .ok (.areturn, 1) := by decide +kernel
theorem pf_27 : plainFor (⟨"java/util/ImmutableCollections", "listCopy", "(Ljava/util/Collection;)Ljava/util/List;"⟩ : MethodName) = true := by first | exact plainFor_of_name (by first | (simp [plainName, overriddenIn]; done) | decide +kernel) | decide +kernel
theorem pd_27 : parseMethodDescriptor "(Ljava/util/Collection;)Ljava/util/List;" = some ⟨[(.object "java/util/Collection")], some (.object "java/util/List")⟩ := by decide +kernel
theorem ef_27_1 (m : MethodId) (p0 : Addr) : entryFrame m #[(.ref p0)] 2 = mkF m 0 #[.val (.ref p0), .unset] [] := by first | (simp [entryFrame, mkF, argsToLocals, Value.category]; done) | rfl
def Q27_1 (Z : State) (p0 : Addr) (em : Addr) (mr : Addr) (ea : Addr) (kA : ClassId) (d1 : Addr) (h0 : Heap) (n0 : Nat) (v : Option Value) (h : Heap) (L : List Loc) : Prop := ∃ (r : Addr), v = some (.ref r) ∧ Fr n0 L ∧ Keep h0 h [] ∧ h0.size ≤ r ∧ Exa Z h r "java/util/ImmutableCollections$List12" ∧ Fld Z h r "java/util/ImmutableCollections$List12" "e0" "Ljava/lang/Object;" (.ref d1) ∧ Fld Z h r "java/util/ImmutableCollections$List12" "e1" "Ljava/lang/Object;" (.ref em)
theorem rm27_1 (l : Launch) (Z : State) (a0 : Array Value) (hw : ∀ d ∈ tables_1, d.before a0 Z = true) (ws : List Jvm.Cond) (p0 : Addr) (h0 : Heap) (n0 : Nat) (Z0 : n0 ≤ h0.size) (em : Addr) (SE : Sta Z Z.heap "java/util/ImmutableCollections" "EMPTY" "Ljava/lang/Object;" (.ref em)) (mr : Addr) (MI : own_Mi Z "[Ljava/lang/Object;" mr) (ea : Addr) (kA : ClassId) (d1 : Addr) (pm0 : Exa Z h0 p0 "java/util/ArrayList") (pm1 : Fld Z h0 p0 "java/util/ArrayList" "elementData" "[Ljava/lang/Object;" (.ref ea)) (pm2 : Fld Z h0 p0 "java/util/ArrayList" "size" "I" (.int (1 : Int32))) (pm3 : Exa Z h0 ea "[Ljava/lang/Object;") (pm4 : Arv Z h0 ea kA (.object "java/lang/Object") (10 : Int32) [(.ref d1), .null, .null, .null, .null, .null, .null, .null, .null, .null] .null) (pm5 : Exa Z h0 d1 "java/lang/Double") (pm6 : Old Z n0 h0) :
    own_Met l Z (⟨"java/util/ImmutableCollections", "listCopy", "(Ljava/util/Collection;)Ljava/util/List;"⟩ : MethodName) jdk_56_method_3_code 2 (some (.object "java/util/List")) ws ({ frames := 6, cells := 2, slots := 3, locals := 80 } : Room) #[(.ref p0)] h0 (Q27_1 Z p0 em mr ea kA d1 h0 n0) := by
  refine MetFree.of_bodySF pf_27 hisR ?_
  intro p e s m args below meth c s₁ Bd hml0 hP hK
  obtain ⟨rfl, hZ, hh⟩ := hP
  have hx := Bd.exec
  have hby := Bd.bytes
  have hlk : meth.locks = false := BodyLoose.notSynchronized Bd
  have hml : c.maxLocals = 2 := hml0
  have hown : s.vm.findClass "java/util/ImmutableCollections" = some m.cls := findClass_of_methodNamed Bd.named
  have hnm := (name_of_methodNamed Bd.named Bd.method).1
  have X0 : Stand p l e ({ frames := 6, cells := 2, slots := 3, locals := 80 } : Room) s m #[(.ref p0)] below meth c s₁ [] 0 0 := Stand.of_body Bd
  have e0 : s₁.heap = h0 := by rw [← hh, Bd.state]; rfl
  have N0 := Fr.nil n0
  have K0 := Keep.refl h0 []
  show own_Go _ _ _ _ (Q27_1 Z p0 em mr ea kA d1 h0 n0) _ _ _
  refine own_by (fun _ k => castTop (ef_27_1 m p0) k) ?_
  show own_Go _ _ _ _ _ _ _ (s₁.setTop (mkF m 0 #[.val (.ref p0), .unset] []))
  refine own_by (fun _ kz => XS.aloadN X0.here hx rfl (hb hby d27_0) rfl rfl kz) ?_
  show own_Go _ _ _ _ _ _ _ (s₁.setTop (mkF m 1 #[.val (.ref p0), .unset] [(.ref p0)]))
  obtain ⟨T1, X1, e1, st1⟩ := instNo X0 hx hZ hown (ow hw 199 rfl) e0 pm0 (own_NSno (ow hw 200 rfl) (ow hw 244 rfl) (NS.step (ow hw 200 rfl) (NS.step (ow hw 201 rfl) (NS.step (ow hw 202 rfl) (own_NS0 (ow hw 203 rfl) (ow hw 244 rfl) (by decide)) (by decide)) (by decide)) (by decide)) (by decide)) (g := (mkF m 1 #[.val (.ref p0), .unset] [(.ref p0)])) rfl rfl (hb hby d27_1)
  refine own_by st1 ?_
  show own_Go _ _ _ _ _ _ _ (T1.setTop (mkF m 4 #[.val (.ref p0), .unset] [(.int (0 : Int32))]))
  refine own_by (fun _ kz => XS.ifNo X1.here hx rfl (hb hby d27_4) rfl ((if0 _ _).trans (teq (by decide : ((0 : Int32) = (0 : Int32)))).2) kz) ?_
  show own_Go _ _ _ _ _ _ _ (T1.setTop (mkF m 7 #[.val (.ref p0), .unset] []))
  refine own_by (fun _ kz => XS.aloadN X1.here hx rfl (hb hby d27_7) rfl rfl kz) ?_
  show own_Go _ _ _ _ _ _ _ (T1.setTop (mkF m 8 #[.val (.ref p0), .unset] [(.ref p0)]))
  obtain ⟨T2, X2, e2, st2⟩ := instNo X1 hx hZ hown (ow hw 204 rfl) e1 pm0 (own_NSno (ow hw 200 rfl) (ow hw 316 rfl) (NS.step (ow hw 200 rfl) (NS.step (ow hw 201 rfl) (NS.step (ow hw 202 rfl) (own_NS0 (ow hw 203 rfl) (ow hw 316 rfl) (by decide)) (by decide)) (by decide)) (by decide)) (by decide)) (g := (mkF m 8 #[.val (.ref p0), .unset] [(.ref p0)])) rfl rfl (hb hby d27_8)
  refine own_by st2 ?_
  show own_Go _ _ _ _ _ _ _ (T2.setTop (mkF m 11 #[.val (.ref p0), .unset] [(.int (0 : Int32))]))
  refine own_by (fun _ kz => XS.ifYes X2.here hx rfl (pc0 := 11) (pc' := 31) rfl (hb hby d27_11) rfl ((if0 _ _).trans (teq (by decide : ((0 : Int32) = (0 : Int32)))).1) (by decide) (by decide) kz) ?_
  show own_Go _ _ _ _ _ _ _ (T2.setTop (mkF m 31 #[.val (.ref p0), .unset] []))
  refine own_by (fun _ kz => XS.aloadN X2.here hx rfl (hb hby d27_31) rfl rfl kz) ?_
  show own_Go _ _ _ _ _ _ _ (T2.setTop (mkF m 32 #[.val (.ref p0), .unset] [(.ref p0)]))
  obtain ⟨v3, T3, L3, X3, q3, st3⟩ := own_callF (xi := (⟨"java/util/Collection", "isEmpty", "()Z"⟩ : MethodName)) (y := (⟨"java/util/ArrayList", "isEmpty", "()Z"⟩ : MethodName)) X2 hx hZ hown (ow hw 205 rfl) (ow hw 206 rfl) (mvT hZ (ow hw 207 rfl)) (ow hw 208 rfl) (ow hw 124 rfl) (ow hw 125 rfl) (ow hw 126 rfl) (ow hw 209 rfl) (ow hw 8 rfl) (ow hw 128 rfl) (by decide) (rm18 l Z a0 hw [] p0 h0 n0 Z0 (1 : Int32) pm2 (by decide)) (W := 0) (by decide) (by decide) e2 pm0 (g := (mkF m 32 #[.val (.ref p0), .unset] [(.ref p0)])) rfl (by rw [hml]; rfl) (argsL := []) (rest := []) (lenOf pd_18 rfl) rfl rfl (by show 2 * 0 + _ ≤ _; exact Nat.le_of_eq rfl) (hb hby d27_32) (by decide) (by decide)
  obtain ⟨rfl, Nq3, hh3⟩ := q3
  have N3 := Fr.app N0 Nq3
  refine own_by st3 ?_
  show own_Go _ _ _ _ _ _ _ (T3.setTop (mkF m 37 #[.val (.ref p0), .unset] [(.int (0 : Int32))]))
  refine own_by (fun _ kz => XS.ifYes X3.here hx rfl (pc0 := 37) (pc' := 44) rfl (hb hby d27_37) rfl ((if0 _ _).trans (teq (by decide : ((0 : Int32) = (0 : Int32)))).1) (by decide) (by decide) kz) ?_
  show own_Go _ _ _ _ _ _ _ (T3.setTop (mkF m 44 #[.val (.ref p0), .unset] []))
  refine own_by (fun _ kz => XS.aloadN X3.here hx rfl (hb hby d27_44) rfl rfl kz) ?_
  show own_Go _ _ _ _ _ _ _ (T3.setTop (mkF m 45 #[.val (.ref p0), .unset] [(.ref p0)]))
  obtain ⟨v4, T4, L4, X4, q4, st4⟩ := own_callF (xi := (⟨"java/util/Collection", "toArray", "()[Ljava/lang/Object;"⟩ : MethodName)) (y := (⟨"java/util/ArrayList", "toArray", "()[Ljava/lang/Object;"⟩ : MethodName)) X3 hx hZ hown (ow hw 210 rfl) (ow hw 211 rfl) (mvT hZ (ow hw 212 rfl)) (ow hw 213 rfl) (ow hw 214 rfl) (ow hw 215 rfl) (ow hw 216 rfl) (ow hw 209 rfl) (ow hw 8 rfl) (ow hw 217 rfl) (by decide) (rm28_1 l Z a0 hw [] p0 h0 n0 Z0 mr MI ea kA d1 pm1 pm2 pm3 pm4 pm5) (W := 0) (by decide) (by decide) hh3 pm0 (g := (mkF m 45 #[.val (.ref p0), .unset] [(.ref p0)])) rfl (by rw [hml]; rfl) (argsL := []) (rest := []) (lenOf pd_28 rfl) rfl rfl (by show 2 * 0 + _ ≤ _; exact Nat.le_of_eq rfl) (hb hby d27_45) (by decide) (by decide)
  obtain ⟨r4, kB4, rfl, Nq4, Kq4, o4_0, o4_1, o4_2, o4_3⟩ := q4
  have N4 := Fr.app N3 Nq4
  have Z4 : n0 ≤ T4.heap.size := Nat.le_trans Z0 Kq4.1
  have K4 := K0.trans Kq4 all0
  have O4 := pm6.keep Kq4 all0
  have pm0_h4 := pm0.keep Kq4
  have pm1_h4 := pm1.keep Kq4 nin0
  have pm2_h4 := pm2.keep Kq4 nin0
  have pm3_h4 := pm3.keep Kq4
  have pm4_h4 := pm4.keep Kq4 nin0
  have pm5_h4 := pm5.keep Kq4
  have ge_r4 : n0 ≤ r4 := Nat.le_trans Z0 o4_0
  have sz_r4 : h0.size ≤ r4 := Nat.le_trans K0.1 o4_0
  have ne_p0_r4 : p0 ≠ r4 := Nat.ne_of_lt (Nat.lt_of_lt_of_le pm0.lt o4_0)
  have ne_ea_r4 : ea ≠ r4 := Nat.ne_of_lt (Nat.lt_of_lt_of_le pm3.lt o4_0)
  have ne_d1_r4 : d1 ≠ r4 := Nat.ne_of_lt (Nat.lt_of_lt_of_le pm5.lt o4_0)
  refine own_by st4 ?_
  show own_Go _ _ _ _ _ _ _ (T4.setTop (mkF m 50 #[.val (.ref p0), .unset] [(.ref r4)]))
  obtain ⟨v5, T5, L5, X5, q5, st5⟩ := own_callS X4 hx hZ hown (ow hw 240 rfl) (ow hw 241 rfl) (ow hw 193 rfl) (ow hw 242 rfl) (by decide) (rm32_1 l Z a0 hw [] r4 T4.heap n0 Z4 em SE kB4 d1 o4_2 pm5_h4 O4) (W := 0) (by decide) (by decide) rfl (g := (mkF m 50 #[.val (.ref p0), .unset] [(.ref r4)])) rfl (by rw [hml]; rfl) (argsL := [(.ref r4)]) (rest := []) (lenOf pd_32 rfl) rfl rfl (by show 2 * 0 + _ ≤ _; exact Nat.le_of_eq rfl) (hb hby d27_50) (by decide) (by decide)
  obtain ⟨r5, rfl, Nq5, Kq5, o5_0, o5_1, o5_2, o5_3⟩ := q5
  have N5 := Fr.app N4 Nq5
  have Z5 : n0 ≤ T5.heap.size := Nat.le_trans Z4 Kq5.1
  have K5 := K4.trans Kq5 all0
  have O5 := O4.keep Kq5 all0
  have pm0_h5 := pm0_h4.keep Kq5
  have pm1_h5 := pm1_h4.keep Kq5 nin0
  have pm2_h5 := pm2_h4.keep Kq5 nin0
  have pm3_h5 := pm3_h4.keep Kq5
  have pm4_h5 := pm4_h4.keep Kq5 nin0
  have pm5_h5 := pm5_h4.keep Kq5
  have o4_1_h5 := o4_1.keep Kq5
  have o4_2_h5 := o4_2.keep Kq5 nin0
  have ge_r5 : n0 ≤ r5 := Nat.le_trans Z4 o5_0
  have sz_r5 : h0.size ≤ r5 := Nat.le_trans K4.1 o5_0
  have ne_p0_r5 : p0 ≠ r5 := Nat.ne_of_lt (Nat.lt_of_lt_of_le pm0_h4.lt o5_0)
  have ne_ea_r5 : ea ≠ r5 := Nat.ne_of_lt (Nat.lt_of_lt_of_le pm3_h4.lt o5_0)
  have ne_d1_r5 : d1 ≠ r5 := Nat.ne_of_lt (Nat.lt_of_lt_of_le pm5_h4.lt o5_0)
  have ne_r4_r5 : r4 ≠ r5 := Nat.ne_of_lt (Nat.lt_of_lt_of_le o4_1.lt o5_0)
  refine own_by st5 ?_
  show own_Go _ _ _ _ _ _ _ (T5.setTop (mkF m 53 #[.val (.ref p0), .unset] [(.ref r5)]))
  exact own_retA X5 hx hlk Bd.returns rfl (hb hby d27_53) (by decide) (by decide) ⟨r5, rfl, N5, K5, sz_r5, o5_1, o5_2, o5_3⟩
theorem d26_0 : decode jdk_40_method_48_code 0 = .ok (.aload_n 0, 1) := by decide +kernel
theorem d26_1 : decode jdk_40_method_48_code 1 = .ok (.invokestatic 112, 3) := by decide +kernel
theorem d26_4 : decode jdk_40_method_48_code 4 = .ok (.areturn, 1) := by decide +kernel
theorem pf_26 : plainFor (⟨"java/util/List", "copyOf", "(Ljava/util/Collection;)Ljava/util/List;"⟩ : MethodName) = true := by first | exact plainFor_of_name (by first | (simp [plainName, overriddenIn]; done) | decide +kernel) | decide +kernel
theorem pd_26 : parseMethodDescriptor "(Ljava/util/Collection;)Ljava/util/List;" = some ⟨[(.object "java/util/Collection")], some (.object "java/util/List")⟩ := by decide +kernel
theorem ef_26_1 (m : MethodId) (p0 : Addr) : entryFrame m #[(.ref p0)] 1 = mkF m 0 #[.val (.ref p0)] [] := by first | (simp [entryFrame, mkF, argsToLocals, Value.category]; done) | rfl
def Q26_1 (Z : State) (p0 : Addr) (em : Addr) (mr : Addr) (ea : Addr) (kA : ClassId) (d1 : Addr) (h0 : Heap) (n0 : Nat) (v : Option Value) (h : Heap) (L : List Loc) : Prop := ∃ (r : Addr), v = some (.ref r) ∧ Fr n0 L ∧ Keep h0 h [] ∧ h0.size ≤ r ∧ Exa Z h r "java/util/ImmutableCollections$List12" ∧ Fld Z h r "java/util/ImmutableCollections$List12" "e0" "Ljava/lang/Object;" (.ref d1) ∧ Fld Z h r "java/util/ImmutableCollections$List12" "e1" "Ljava/lang/Object;" (.ref em)
theorem rm26_1 (l : Launch) (Z : State) (a0 : Array Value) (hw : ∀ d ∈ tables_1, d.before a0 Z = true) (ws : List Jvm.Cond) (p0 : Addr) (h0 : Heap) (n0 : Nat) (Z0 : n0 ≤ h0.size) (em : Addr) (SE : Sta Z Z.heap "java/util/ImmutableCollections" "EMPTY" "Ljava/lang/Object;" (.ref em)) (mr : Addr) (MI : own_Mi Z "[Ljava/lang/Object;" mr) (ea : Addr) (kA : ClassId) (d1 : Addr) (pm0 : Exa Z h0 p0 "java/util/ArrayList") (pm1 : Fld Z h0 p0 "java/util/ArrayList" "elementData" "[Ljava/lang/Object;" (.ref ea)) (pm2 : Fld Z h0 p0 "java/util/ArrayList" "size" "I" (.int (1 : Int32))) (pm3 : Exa Z h0 ea "[Ljava/lang/Object;") (pm4 : Arv Z h0 ea kA (.object "java/lang/Object") (10 : Int32) [(.ref d1), .null, .null, .null, .null, .null, .null, .null, .null, .null] .null) (pm5 : Exa Z h0 d1 "java/lang/Double") (pm6 : Old Z n0 h0) :
    own_Met l Z (⟨"java/util/List", "copyOf", "(Ljava/util/Collection;)Ljava/util/List;"⟩ : MethodName) jdk_40_method_48_code 1 (some (.object "java/util/List")) ws ({ frames := 7, cells := 2, slots := 3, locals := 93 } : Room) #[(.ref p0)] h0 (Q26_1 Z p0 em mr ea kA d1 h0 n0) := by
  refine MetFree.of_bodySF pf_26 hisR ?_
  intro p e s m args below meth c s₁ Bd hml0 hP hK
  obtain ⟨rfl, hZ, hh⟩ := hP
  have hx := Bd.exec
  have hby := Bd.bytes
  have hlk : meth.locks = false := BodyLoose.notSynchronized Bd
  have hml : c.maxLocals = 1 := hml0
  have hown : s.vm.findClass "java/util/List" = some m.cls := findClass_of_methodNamed Bd.named
  have hnm := (name_of_methodNamed Bd.named Bd.method).1
  have X0 : Stand p l e ({ frames := 7, cells := 2, slots := 3, locals := 93 } : Room) s m #[(.ref p0)] below meth c s₁ [] 0 0 := Stand.of_body Bd
  have e0 : s₁.heap = h0 := by rw [← hh, Bd.state]; rfl
  have N0 := Fr.nil n0
  have K0 := Keep.refl h0 []
  show own_Go _ _ _ _ (Q26_1 Z p0 em mr ea kA d1 h0 n0) _ _ _
  refine own_by (fun _ k => castTop (ef_26_1 m p0) k) ?_
  show own_Go _ _ _ _ _ _ _ (s₁.setTop (mkF m 0 #[.val (.ref p0)] []))
  refine own_by (fun _ kz => XS.aloadN X0.here hx rfl (hb hby d26_0) rfl rfl kz) ?_
  show own_Go _ _ _ _ _ _ _ (s₁.setTop (mkF m 1 #[.val (.ref p0)] [(.ref p0)]))
  obtain ⟨v1, T1, L1, X1, q1, st1⟩ := own_callS X0 hx hZ hown (ow hw 195 rfl) (ow hw 196 rfl) (ow hw 197 rfl) (ow hw 198 rfl) (by decide) (rm27_1 l Z a0 hw [] p0 h0 n0 Z0 em SE mr MI ea kA d1 pm0 pm1 pm2 pm3 pm4 pm5 pm6) (W := 0) (by decide) (by decide) e0 (g := (mkF m 1 #[.val (.ref p0)] [(.ref p0)])) rfl (by rw [hml]; rfl) (argsL := [(.ref p0)]) (rest := []) (lenOf pd_27 rfl) rfl rfl (by show 2 * 0 + _ ≤ _; exact Nat.le_of_eq rfl) (hb hby d26_1) (by decide) (by decide)
  obtain ⟨r1, rfl, Nq1, Kq1, o1_0, o1_1, o1_2, o1_3⟩ := q1
  have N1 := Fr.app N0 Nq1
  have Z1 : n0 ≤ T1.heap.size := Nat.le_trans Z0 Kq1.1
  have K1 := K0.trans Kq1 all0
  have O1 := pm6.keep Kq1 all0
  have pm0_h1 := pm0.keep Kq1
  have pm1_h1 := pm1.keep Kq1 nin0
  have pm2_h1 := pm2.keep Kq1 nin0
  have pm3_h1 := pm3.keep Kq1
  have pm4_h1 := pm4.keep Kq1 nin0
  have pm5_h1 := pm5.keep Kq1
  have ge_r1 : n0 ≤ r1 := Nat.le_trans Z0 o1_0
  have sz_r1 : h0.size ≤ r1 := Nat.le_trans K0.1 o1_0
  have ne_p0_r1 : p0 ≠ r1 := Nat.ne_of_lt (Nat.lt_of_lt_of_le pm0.lt o1_0)
  have ne_ea_r1 : ea ≠ r1 := Nat.ne_of_lt (Nat.lt_of_lt_of_le pm3.lt o1_0)
  have ne_d1_r1 : d1 ≠ r1 := Nat.ne_of_lt (Nat.lt_of_lt_of_le pm5.lt o1_0)
  refine own_by st1 ?_
  show own_Go _ _ _ _ _ _ _ (T1.setTop (mkF m 4 #[.val (.ref p0)] [(.ref r1)]))
  exact own_retA X1 hx hlk Bd.returns rfl (hb hby d26_4) (by decide) (by decide) ⟨r1, rfl, N1, K1, sz_r1, o1_1, o1_2, o1_3⟩
theorem ef_32_2 (m : MethodId) (p0 : Addr) : entryFrame m #[(.ref p0)] 2 = mkF m 0 #[.val (.ref p0), .unset] [] := by first | (simp [entryFrame, mkF, argsToLocals, Value.category]; done) | rfl
def Q32_2 (Z : State) (p0 : Addr) (kB : ClassId) (d1 : Addr) (d2 : Addr) (h0 : Heap) (n0 : Nat) (v : Option Value) (h : Heap) (L : List Loc) : Prop := ∃ (r : Addr), v = some (.ref r) ∧ Fr n0 L ∧ Keep h0 h [] ∧ h0.size ≤ r ∧ Exa Z h r "java/util/ImmutableCollections$List12" ∧ Fld Z h r "java/util/ImmutableCollections$List12" "e0" "Ljava/lang/Object;" (.ref d1) ∧ Fld Z h r "java/util/ImmutableCollections$List12" "e1" "Ljava/lang/Object;" (.ref d2)
theorem rm32_2 (l : Launch) (Z : State) (a0 : Array Value) (hw : ∀ d ∈ tables_1, d.before a0 Z = true) (ws : List Jvm.Cond) (p0 : Addr) (h0 : Heap) (n0 : Nat) (Z0 : n0 ≤ h0.size) (kB : ClassId) (d1 : Addr) (d2 : Addr) (pm0 : Arv Z h0 p0 kB (.object "java/lang/Object") (2 : Int32) [(.ref d1), (.ref d2)] .null) (pm1 : Exa Z h0 d1 "java/lang/Double") (pm2 : Exa Z h0 d2 "java/lang/Double") :
    own_Met l Z (⟨"java/util/List", "of", "([Ljava/lang/Object;)Ljava/util/List;"⟩ : MethodName) jdk_40_method_47_code 2 (some (.object "java/util/List")) ws ({ frames := 5, cells := 1, slots := 2, locals := 64 } : Room) #[(.ref p0)] h0 (Q32_2 Z p0 kB d1 d2 h0 n0) := by
  refine MetFree.of_bodySF pf_32 hisR ?_
  intro p e s m args below meth c s₁ Bd hml0 hP hK
  obtain ⟨rfl, hZ, hh⟩ := hP
  have hx := Bd.exec
  have hby := Bd.bytes
  have hlk : meth.locks = false := BodyLoose.notSynchronized Bd
  have hml : c.maxLocals = 2 := hml0
  have hown : s.vm.findClass "java/util/List" = some m.cls := findClass_of_methodNamed Bd.named
  have hnm := (name_of_methodNamed Bd.named Bd.method).1
  have X0 : Stand p l e ({ frames := 5, cells := 1, slots := 2, locals := 64 } : Room) s m #[(.ref p0)] below meth c s₁ [] 0 0 := Stand.of_body Bd
  have e0 : s₁.heap = h0 := by rw [← hh, Bd.state]; rfl
  have N0 := Fr.nil n0
  have K0 := Keep.refl h0 []
  show own_Go _ _ _ _ (Q32_2 Z p0 kB d1 d2 h0 n0) _ _ _
  refine own_by (fun _ k => castTop (ef_32_2 m p0) k) ?_
  show own_Go _ _ _ _ _ _ _ (s₁.setTop (mkF m 0 #[.val (.ref p0), .unset] []))
  refine own_by (fun _ kz => XS.aloadN X0.here hx rfl (hb hby d32_0) rfl rfl kz) ?_
  show own_Go _ _ _ _ _ _ _ (s₁.setTop (mkF m 1 #[.val (.ref p0), .unset] [(.ref p0)]))
  refine own_by (fun _ kz => own_len X0 hx hZ e0 pm0 (g := (mkF m 1 #[.val (.ref p0), .unset] [(.ref p0)])) rfl rfl (hb hby d32_1) _ kz) ?_
  show own_Go _ _ _ _ _ _ _ (s₁.setTop (mkF m 2 #[.val (.ref p0), .unset] [(.int (2 : Int32))]))
  refine own_by (fun _ kz => XS.tswIn X0.here hx rfl (pc0 := 2) (pc' := 45) rfl (hb hby d32_2) rfl (by decide) rfl (by decide) (by decide) kz) ?_
  show own_Go _ _ _ _ _ _ _ (s₁.setTop (mkF m 45 #[.val (.ref p0), .unset] []))
  obtain ⟨T1, h1, X1, e1, E1, A1, D1, -, st1⟩ := newO X0 hx hZ hown (ow hw 243 rfl) (ow hw 244 rfl) (ow hw 245 rfl) e0 (g := (mkF m 45 #[.val (.ref p0), .unset] [])) rfl (hb hby d32_45) (by decide) (by decide)
  obtain ⟨b1, g1⟩ : ∃ z, z = h0.size := ⟨_, rfl⟩
  rw [← g1] at A1 D1 st1
  have ge_b1 : n0 ≤ b1 := Nat.le_trans Z0 (Nat.le_of_eq g1.symm)
  have sz_b1 : h0.size ≤ b1 := Nat.le_trans K0.1 (Nat.le_of_eq g1.symm)
  have ne_p0_b1 : p0 ≠ b1 := by rw [g1]; exact Nat.ne_of_lt pm0.lt
  have ne_d1_b1 : d1 ≠ b1 := by rw [g1]; exact Nat.ne_of_lt pm1.lt
  have ne_d2_b1 : d2 ≠ b1 := by rw [g1]; exact Nat.ne_of_lt pm2.lt
  have Z1 : n0 ≤ h1.size := Nat.le_trans Z0 E1.1
  have K1 := K0.ext E1
  have pm0_h1 := pm0.ext E1
  have pm1_h1 := pm1.ext E1
  have pm2_h1 := pm2.ext E1
  have F1_e0 : Fld Z h1 b1 "java/util/ImmutableCollections$List12" "e0" "Ljava/lang/Object;" .null := D1 (Or.inr (ow hw 269 rfl)) (ty := (.object "java/lang/Object")) (by decide)
  have F1_e1 : Fld Z h1 b1 "java/util/ImmutableCollections$List12" "e1" "Ljava/lang/Object;" .null := D1 (Or.inr (ow hw 271 rfl)) (ty := (.object "java/lang/Object")) (by decide)
  refine own_by st1 ?_
  show own_Go _ _ _ _ _ _ _ (T1.setTop (mkF m 48 #[.val (.ref p0), .unset] [(.ref b1)]))
  refine own_by (fun _ kz => XS.dup X1.here hx rfl (hb hby d32_48) rfl rfl kz) ?_
  refine own_by (fun _ kz => XS.aloadN X1.here hx rfl (hb hby d32_49) rfl rfl kz) ?_
  refine own_by (fun _ kz => XS.iconst X1.here hx rfl (hb hby d32_50) kz) ?_
  show own_Go _ _ _ _ _ _ _ (T1.setTop (mkF m 51 #[.val (.ref p0), .unset] [(.int (0 : Int32)), (.ref p0), (.ref b1), (.ref b1)]))
  refine own_by (fun _ kz => own_ldA X1 hx hZ e1 pm0_h1 rfl (j := (0 : Int32)) ⟨by decide, by decide⟩ (v := (.ref d1)) rfl (g := (mkF m 51 #[.val (.ref p0), .unset] [(.int (0 : Int32)), (.ref p0), (.ref b1), (.ref b1)])) rfl rfl (hb hby d32_51) _ kz) ?_
  show own_Go _ _ _ _ _ _ _ (T1.setTop (mkF m 52 #[.val (.ref p0), .unset] [(.ref d1), (.ref b1), (.ref b1)]))
  refine own_by (fun _ kz => XS.aloadN X1.here hx rfl (hb hby d32_52) rfl rfl kz) ?_
  refine own_by (fun _ kz => XS.iconst X1.here hx rfl (hb hby d32_53) kz) ?_
  show own_Go _ _ _ _ _ _ _ (T1.setTop (mkF m 54 #[.val (.ref p0), .unset] [(.int (1 : Int32)), (.ref p0), (.ref d1), (.ref b1), (.ref b1)]))
  refine own_by (fun _ kz => own_ldA X1 hx hZ e1 pm0_h1 rfl (j := (1 : Int32)) ⟨by decide, by decide⟩ (v := (.ref d2)) rfl (g := (mkF m 54 #[.val (.ref p0), .unset] [(.int (1 : Int32)), (.ref p0), (.ref d1), (.ref b1), (.ref b1)])) rfl rfl (hb hby d32_54) _ kz) ?_
  show own_Go _ _ _ _ _ _ _ (T1.setTop (mkF m 55 #[.val (.ref p0), .unset] [(.ref d2), (.ref d1), (.ref b1), (.ref b1)]))
  obtain ⟨v2, T2, L2, X2, q2, st2⟩ := own_callI X1 hx hZ rfl hown (ow hw 246 rfl) (ow hw 247 rfl) (ow hw 245 rfl) (ow hw 249 rfl) (by decide) (rm33 l Z a0 hw [] b1 d1 d2 h1 n0 Z1 A1 F1_e0 F1_e1 ge_b1) (W := 1) (by decide) (by decide) e1 (g := (mkF m 55 #[.val (.ref p0), .unset] [(.ref d2), (.ref d1), (.ref b1), (.ref b1)])) rfl (by rw [hml]; rfl) (a := b1) (argsL := [(.ref d1), (.ref d2)]) (rest := [(.ref b1)]) (lenOf pd_33 rfl) rfl rfl (by show 2 * 0 + _ ≤ _; exact Nat.le_of_eq rfl) (hb hby d32_55) (by decide) (by decide)
  obtain ⟨rfl, Nq2, Kq2, o2_0, o2_1⟩ := q2
  have N2 := Fr.app N0 Nq2
  have Z2 : n0 ≤ T2.heap.size := Nat.le_trans Z1 Kq2.1
  have K2 := K1.trans Kq2 (allS (Or.inr sz_b1) all0)
  have pm0_h2 := pm0_h1.keep Kq2 (ninS ne_p0_b1 nin0)
  have pm1_h2 := pm1_h1.keep Kq2
  have pm2_h2 := pm2_h1.keep Kq2
  have A1_h2 := A1.keep Kq2
  refine own_by st2 ?_
  show own_Go _ _ _ _ _ _ _ (T2.setTop (mkF m 58 #[.val (.ref p0), .unset] [(.ref b1)]))
  exact own_retA X2 hx hlk Bd.returns rfl (hb hby d32_58) (by decide) (by decide) ⟨b1, rfl, N2, K2, sz_b1, A1_h2, o2_0, o2_1⟩
theorem ef_27_2 (m : MethodId) (p0 : Addr) : entryFrame m #[(.ref p0)] 2 = mkF m 0 #[.val (.ref p0), .unset] [] := by first | (simp [entryFrame, mkF, argsToLocals, Value.category]; done) | rfl
def Q27_2 (Z : State) (p0 : Addr) (mr : Addr) (ea : Addr) (kA : ClassId) (d1 : Addr) (d2 : Addr) (h0 : Heap) (n0 : Nat) (v : Option Value) (h : Heap) (L : List Loc) : Prop := ∃ (r : Addr), v = some (.ref r) ∧ Fr n0 L ∧ Keep h0 h [] ∧ h0.size ≤ r ∧ Exa Z h r "java/util/ImmutableCollections$List12" ∧ Fld Z h r "java/util/ImmutableCollections$List12" "e0" "Ljava/lang/Object;" (.ref d1) ∧ Fld Z h r "java/util/ImmutableCollections$List12" "e1" "Ljava/lang/Object;" (.ref d2)
theorem rm27_2 (l : Launch) (Z : State) (a0 : Array Value) (hw : ∀ d ∈ tables_1, d.before a0 Z = true) (ws : List Jvm.Cond) (p0 : Addr) (h0 : Heap) (n0 : Nat) (Z0 : n0 ≤ h0.size) (mr : Addr) (MI : own_Mi Z "[Ljava/lang/Object;" mr) (ea : Addr) (kA : ClassId) (d1 : Addr) (d2 : Addr) (pm0 : Exa Z h0 p0 "java/util/ArrayList") (pm1 : Fld Z h0 p0 "java/util/ArrayList" "elementData" "[Ljava/lang/Object;" (.ref ea)) (pm2 : Fld Z h0 p0 "java/util/ArrayList" "size" "I" (.int (2 : Int32))) (pm3 : Exa Z h0 ea "[Ljava/lang/Object;") (pm4 : Arv Z h0 ea kA (.object "java/lang/Object") (10 : Int32) [(.ref d1), (.ref d2), .null, .null, .null, .null, .null, .null, .null, .null] .null) (pm5 : Exa Z h0 d1 "java/lang/Double") (pm6 : Exa Z h0 d2 "java/lang/Double") :
    own_Met l Z (⟨"java/util/ImmutableCollections", "listCopy", "(Ljava/util/Collection;)Ljava/util/List;"⟩ : MethodName) jdk_56_method_3_code 2 (some (.object "java/util/List")) ws ({ frames := 6, cells := 2, slots := 4, locals := 80 } : Room) #[(.ref p0)] h0 (Q27_2 Z p0 mr ea kA d1 d2 h0 n0) := by
  refine MetFree.of_bodySF pf_27 hisR ?_
  intro p e s m args below meth c s₁ Bd hml0 hP hK
  obtain ⟨rfl, hZ, hh⟩ := hP
  have hx := Bd.exec
  have hby := Bd.bytes
  have hlk : meth.locks = false := BodyLoose.notSynchronized Bd
  have hml : c.maxLocals = 2 := hml0
  have hown : s.vm.findClass "java/util/ImmutableCollections" = some m.cls := findClass_of_methodNamed Bd.named
  have hnm := (name_of_methodNamed Bd.named Bd.method).1
  have X0 : Stand p l e ({ frames := 6, cells := 2, slots := 4, locals := 80 } : Room) s m #[(.ref p0)] below meth c s₁ [] 0 0 := Stand.of_body Bd
  have e0 : s₁.heap = h0 := by rw [← hh, Bd.state]; rfl
  have N0 := Fr.nil n0
  have K0 := Keep.refl h0 []
  show own_Go _ _ _ _ (Q27_2 Z p0 mr ea kA d1 d2 h0 n0) _ _ _
  refine own_by (fun _ k => castTop (ef_27_2 m p0) k) ?_
  show own_Go _ _ _ _ _ _ _ (s₁.setTop (mkF m 0 #[.val (.ref p0), .unset] []))
  refine own_by (fun _ kz => XS.aloadN X0.here hx rfl (hb hby d27_0) rfl rfl kz) ?_
  show own_Go _ _ _ _ _ _ _ (s₁.setTop (mkF m 1 #[.val (.ref p0), .unset] [(.ref p0)]))
  obtain ⟨T1, X1, e1, st1⟩ := instNo X0 hx hZ hown (ow hw 199 rfl) e0 pm0 (own_NSno (ow hw 200 rfl) (ow hw 244 rfl) (NS.step (ow hw 200 rfl) (NS.step (ow hw 201 rfl) (NS.step (ow hw 202 rfl) (own_NS0 (ow hw 203 rfl) (ow hw 244 rfl) (by decide)) (by decide)) (by decide)) (by decide)) (by decide)) (g := (mkF m 1 #[.val (.ref p0), .unset] [(.ref p0)])) rfl rfl (hb hby d27_1)
  refine own_by st1 ?_
  show own_Go _ _ _ _ _ _ _ (T1.setTop (mkF m 4 #[.val (.ref p0), .unset] [(.int (0 : Int32))]))
  refine own_by (fun _ kz => XS.ifNo X1.here hx rfl (hb hby d27_4) rfl ((if0 _ _).trans (teq (by decide : ((0 : Int32) = (0 : Int32)))).2) kz) ?_
  show own_Go _ _ _ _ _ _ _ (T1.setTop (mkF m 7 #[.val (.ref p0), .unset] []))
  refine own_by (fun _ kz => XS.aloadN X1.here hx rfl (hb hby d27_7) rfl rfl kz) ?_
  show own_Go _ _ _ _ _ _ _ (T1.setTop (mkF m 8 #[.val (.ref p0), .unset] [(.ref p0)]))
  obtain ⟨T2, X2, e2, st2⟩ := instNo X1 hx hZ hown (ow hw 204 rfl) e1 pm0 (own_NSno (ow hw 200 rfl) (ow hw 316 rfl) (NS.step (ow hw 200 rfl) (NS.step (ow hw 201 rfl) (NS.step (ow hw 202 rfl) (own_NS0 (ow hw 203 rfl) (ow hw 316 rfl) (by decide)) (by decide)) (by decide)) (by decide)) (by decide)) (g := (mkF m 8 #[.val (.ref p0), .unset] [(.ref p0)])) rfl rfl (hb hby d27_8)
  refine own_by st2 ?_
  show own_Go _ _ _ _ _ _ _ (T2.setTop (mkF m 11 #[.val (.ref p0), .unset] [(.int (0 : Int32))]))
  refine own_by (fun _ kz => XS.ifYes X2.here hx rfl (pc0 := 11) (pc' := 31) rfl (hb hby d27_11) rfl ((if0 _ _).trans (teq (by decide : ((0 : Int32) = (0 : Int32)))).1) (by decide) (by decide) kz) ?_
  show own_Go _ _ _ _ _ _ _ (T2.setTop (mkF m 31 #[.val (.ref p0), .unset] []))
  refine own_by (fun _ kz => XS.aloadN X2.here hx rfl (hb hby d27_31) rfl rfl kz) ?_
  show own_Go _ _ _ _ _ _ _ (T2.setTop (mkF m 32 #[.val (.ref p0), .unset] [(.ref p0)]))
  obtain ⟨v3, T3, L3, X3, q3, st3⟩ := own_callF (xi := (⟨"java/util/Collection", "isEmpty", "()Z"⟩ : MethodName)) (y := (⟨"java/util/ArrayList", "isEmpty", "()Z"⟩ : MethodName)) X2 hx hZ hown (ow hw 205 rfl) (ow hw 206 rfl) (mvT hZ (ow hw 207 rfl)) (ow hw 208 rfl) (ow hw 124 rfl) (ow hw 125 rfl) (ow hw 126 rfl) (ow hw 209 rfl) (ow hw 8 rfl) (ow hw 128 rfl) (by decide) (rm18 l Z a0 hw [] p0 h0 n0 Z0 (2 : Int32) pm2 (by decide)) (W := 0) (by decide) (by decide) e2 pm0 (g := (mkF m 32 #[.val (.ref p0), .unset] [(.ref p0)])) rfl (by rw [hml]; rfl) (argsL := []) (rest := []) (lenOf pd_18 rfl) rfl rfl (by show 2 * 0 + _ ≤ _; exact Nat.le_of_eq rfl) (hb hby d27_32) (by decide) (by decide)
  obtain ⟨rfl, Nq3, hh3⟩ := q3
  have N3 := Fr.app N0 Nq3
  refine own_by st3 ?_
  show own_Go _ _ _ _ _ _ _ (T3.setTop (mkF m 37 #[.val (.ref p0), .unset] [(.int (0 : Int32))]))
  refine own_by (fun _ kz => XS.ifYes X3.here hx rfl (pc0 := 37) (pc' := 44) rfl (hb hby d27_37) rfl ((if0 _ _).trans (teq (by decide : ((0 : Int32) = (0 : Int32)))).1) (by decide) (by decide) kz) ?_
  show own_Go _ _ _ _ _ _ _ (T3.setTop (mkF m 44 #[.val (.ref p0), .unset] []))
  refine own_by (fun _ kz => XS.aloadN X3.here hx rfl (hb hby d27_44) rfl rfl kz) ?_
  show own_Go _ _ _ _ _ _ _ (T3.setTop (mkF m 45 #[.val (.ref p0), .unset] [(.ref p0)]))
  obtain ⟨v4, T4, L4, X4, q4, st4⟩ := own_callF (xi := (⟨"java/util/Collection", "toArray", "()[Ljava/lang/Object;"⟩ : MethodName)) (y := (⟨"java/util/ArrayList", "toArray", "()[Ljava/lang/Object;"⟩ : MethodName)) X3 hx hZ hown (ow hw 210 rfl) (ow hw 211 rfl) (mvT hZ (ow hw 212 rfl)) (ow hw 213 rfl) (ow hw 214 rfl) (ow hw 215 rfl) (ow hw 216 rfl) (ow hw 209 rfl) (ow hw 8 rfl) (ow hw 217 rfl) (by decide) (rm28_2 l Z a0 hw [] p0 h0 n0 Z0 mr MI ea kA d1 d2 pm1 pm2 pm3 pm4 pm5 pm6) (W := 0) (by decide) (by decide) hh3 pm0 (g := (mkF m 45 #[.val (.ref p0), .unset] [(.ref p0)])) rfl (by rw [hml]; rfl) (argsL := []) (rest := []) (lenOf pd_28 rfl) rfl rfl (by show 2 * 0 + _ ≤ _; exact Nat.le_of_eq rfl) (hb hby d27_45) (by decide) (by decide)
  obtain ⟨r4, kB4, rfl, Nq4, Kq4, o4_0, o4_1, o4_2, o4_3⟩ := q4
  have N4 := Fr.app N3 Nq4
  have Z4 : n0 ≤ T4.heap.size := Nat.le_trans Z0 Kq4.1
  have K4 := K0.trans Kq4 all0
  have pm0_h4 := pm0.keep Kq4
  have pm1_h4 := pm1.keep Kq4 nin0
  have pm2_h4 := pm2.keep Kq4 nin0
  have pm3_h4 := pm3.keep Kq4
  have pm4_h4 := pm4.keep Kq4 nin0
  have pm5_h4 := pm5.keep Kq4
  have pm6_h4 := pm6.keep Kq4
  have ge_r4 : n0 ≤ r4 := Nat.le_trans Z0 o4_0
  have sz_r4 : h0.size ≤ r4 := Nat.le_trans K0.1 o4_0
  have ne_p0_r4 : p0 ≠ r4 := Nat.ne_of_lt (Nat.lt_of_lt_of_le pm0.lt o4_0)
  have ne_ea_r4 : ea ≠ r4 := Nat.ne_of_lt (Nat.lt_of_lt_of_le pm3.lt o4_0)
  have ne_d1_r4 : d1 ≠ r4 := Nat.ne_of_lt (Nat.lt_of_lt_of_le pm5.lt o4_0)
  have ne_d2_r4 : d2 ≠ r4 := Nat.ne_of_lt (Nat.lt_of_lt_of_le pm6.lt o4_0)
  refine own_by st4 ?_
  show own_Go _ _ _ _ _ _ _ (T4.setTop (mkF m 50 #[.val (.ref p0), .unset] [(.ref r4)]))
  obtain ⟨v5, T5, L5, X5, q5, st5⟩ := own_callS X4 hx hZ hown (ow hw 240 rfl) (ow hw 241 rfl) (ow hw 193 rfl) (ow hw 242 rfl) (by decide) (rm32_2 l Z a0 hw [] r4 T4.heap n0 Z4 kB4 d1 d2 o4_2 pm5_h4 pm6_h4) (W := 0) (by decide) (by decide) rfl (g := (mkF m 50 #[.val (.ref p0), .unset] [(.ref r4)])) rfl (by rw [hml]; rfl) (argsL := [(.ref r4)]) (rest := []) (lenOf pd_32 rfl) rfl rfl (by show 2 * 0 + _ ≤ _; exact Nat.le_of_eq rfl) (hb hby d27_50) (by decide) (by decide)
  obtain ⟨r5, rfl, Nq5, Kq5, o5_0, o5_1, o5_2, o5_3⟩ := q5
  have N5 := Fr.app N4 Nq5
  have Z5 : n0 ≤ T5.heap.size := Nat.le_trans Z4 Kq5.1
  have K5 := K4.trans Kq5 all0
  have pm0_h5 := pm0_h4.keep Kq5
  have pm1_h5 := pm1_h4.keep Kq5 nin0
  have pm2_h5 := pm2_h4.keep Kq5 nin0
  have pm3_h5 := pm3_h4.keep Kq5
  have pm4_h5 := pm4_h4.keep Kq5 nin0
  have pm5_h5 := pm5_h4.keep Kq5
  have pm6_h5 := pm6_h4.keep Kq5
  have o4_1_h5 := o4_1.keep Kq5
  have o4_2_h5 := o4_2.keep Kq5 nin0
  have ge_r5 : n0 ≤ r5 := Nat.le_trans Z4 o5_0
  have sz_r5 : h0.size ≤ r5 := Nat.le_trans K4.1 o5_0
  have ne_p0_r5 : p0 ≠ r5 := Nat.ne_of_lt (Nat.lt_of_lt_of_le pm0_h4.lt o5_0)
  have ne_ea_r5 : ea ≠ r5 := Nat.ne_of_lt (Nat.lt_of_lt_of_le pm3_h4.lt o5_0)
  have ne_d1_r5 : d1 ≠ r5 := Nat.ne_of_lt (Nat.lt_of_lt_of_le pm5_h4.lt o5_0)
  have ne_d2_r5 : d2 ≠ r5 := Nat.ne_of_lt (Nat.lt_of_lt_of_le pm6_h4.lt o5_0)
  have ne_r4_r5 : r4 ≠ r5 := Nat.ne_of_lt (Nat.lt_of_lt_of_le o4_1.lt o5_0)
  refine own_by st5 ?_
  show own_Go _ _ _ _ _ _ _ (T5.setTop (mkF m 53 #[.val (.ref p0), .unset] [(.ref r5)]))
  exact own_retA X5 hx hlk Bd.returns rfl (hb hby d27_53) (by decide) (by decide) ⟨r5, rfl, N5, K5, sz_r5, o5_1, o5_2, o5_3⟩
theorem ef_26_2 (m : MethodId) (p0 : Addr) : entryFrame m #[(.ref p0)] 1 = mkF m 0 #[.val (.ref p0)] [] := by first | (simp [entryFrame, mkF, argsToLocals, Value.category]; done) | rfl
def Q26_2 (Z : State) (p0 : Addr) (mr : Addr) (ea : Addr) (kA : ClassId) (d1 : Addr) (d2 : Addr) (h0 : Heap) (n0 : Nat) (v : Option Value) (h : Heap) (L : List Loc) : Prop := ∃ (r : Addr), v = some (.ref r) ∧ Fr n0 L ∧ Keep h0 h [] ∧ h0.size ≤ r ∧ Exa Z h r "java/util/ImmutableCollections$List12" ∧ Fld Z h r "java/util/ImmutableCollections$List12" "e0" "Ljava/lang/Object;" (.ref d1) ∧ Fld Z h r "java/util/ImmutableCollections$List12" "e1" "Ljava/lang/Object;" (.ref d2)
theorem rm26_2 (l : Launch) (Z : State) (a0 : Array Value) (hw : ∀ d ∈ tables_1, d.before a0 Z = true) (ws : List Jvm.Cond) (p0 : Addr) (h0 : Heap) (n0 : Nat) (Z0 : n0 ≤ h0.size) (mr : Addr) (MI : own_Mi Z "[Ljava/lang/Object;" mr) (ea : Addr) (kA : ClassId) (d1 : Addr) (d2 : Addr) (pm0 : Exa Z h0 p0 "java/util/ArrayList") (pm1 : Fld Z h0 p0 "java/util/ArrayList" "elementData" "[Ljava/lang/Object;" (.ref ea)) (pm2 : Fld Z h0 p0 "java/util/ArrayList" "size" "I" (.int (2 : Int32))) (pm3 : Exa Z h0 ea "[Ljava/lang/Object;") (pm4 : Arv Z h0 ea kA (.object "java/lang/Object") (10 : Int32) [(.ref d1), (.ref d2), .null, .null, .null, .null, .null, .null, .null, .null] .null) (pm5 : Exa Z h0 d1 "java/lang/Double") (pm6 : Exa Z h0 d2 "java/lang/Double") :
    own_Met l Z (⟨"java/util/List", "copyOf", "(Ljava/util/Collection;)Ljava/util/List;"⟩ : MethodName) jdk_40_method_48_code 1 (some (.object "java/util/List")) ws ({ frames := 7, cells := 2, slots := 4, locals := 93 } : Room) #[(.ref p0)] h0 (Q26_2 Z p0 mr ea kA d1 d2 h0 n0) := by
  refine MetFree.of_bodySF pf_26 hisR ?_
  intro p e s m args below meth c s₁ Bd hml0 hP hK
  obtain ⟨rfl, hZ, hh⟩ := hP
  have hx := Bd.exec
  have hby := Bd.bytes
  have hlk : meth.locks = false := BodyLoose.notSynchronized Bd
  have hml : c.maxLocals = 1 := hml0
  have hown : s.vm.findClass "java/util/List" = some m.cls := findClass_of_methodNamed Bd.named
  have hnm := (name_of_methodNamed Bd.named Bd.method).1
  have X0 : Stand p l e ({ frames := 7, cells := 2, slots := 4, locals := 93 } : Room) s m #[(.ref p0)] below meth c s₁ [] 0 0 := Stand.of_body Bd
  have e0 : s₁.heap = h0 := by rw [← hh, Bd.state]; rfl
  have N0 := Fr.nil n0
  have K0 := Keep.refl h0 []
  show own_Go _ _ _ _ (Q26_2 Z p0 mr ea kA d1 d2 h0 n0) _ _ _
  refine own_by (fun _ k => castTop (ef_26_2 m p0) k) ?_
  show own_Go _ _ _ _ _ _ _ (s₁.setTop (mkF m 0 #[.val (.ref p0)] []))
  refine own_by (fun _ kz => XS.aloadN X0.here hx rfl (hb hby d26_0) rfl rfl kz) ?_
  show own_Go _ _ _ _ _ _ _ (s₁.setTop (mkF m 1 #[.val (.ref p0)] [(.ref p0)]))
  obtain ⟨v1, T1, L1, X1, q1, st1⟩ := own_callS X0 hx hZ hown (ow hw 195 rfl) (ow hw 196 rfl) (ow hw 197 rfl) (ow hw 198 rfl) (by decide) (rm27_2 l Z a0 hw [] p0 h0 n0 Z0 mr MI ea kA d1 d2 pm0 pm1 pm2 pm3 pm4 pm5 pm6) (W := 0) (by decide) (by decide) e0 (g := (mkF m 1 #[.val (.ref p0)] [(.ref p0)])) rfl (by rw [hml]; rfl) (argsL := [(.ref p0)]) (rest := []) (lenOf pd_27 rfl) rfl rfl (by show 2 * 0 + _ ≤ _; exact Nat.le_of_eq rfl) (hb hby d26_1) (by decide) (by decide)
  obtain ⟨r1, rfl, Nq1, Kq1, o1_0, o1_1, o1_2, o1_3⟩ := q1
  have N1 := Fr.app N0 Nq1
  have Z1 : n0 ≤ T1.heap.size := Nat.le_trans Z0 Kq1.1
  have K1 := K0.trans Kq1 all0
  have pm0_h1 := pm0.keep Kq1
  have pm1_h1 := pm1.keep Kq1 nin0
  have pm2_h1 := pm2.keep Kq1 nin0
  have pm3_h1 := pm3.keep Kq1
  have pm4_h1 := pm4.keep Kq1 nin0
  have pm5_h1 := pm5.keep Kq1
  have pm6_h1 := pm6.keep Kq1
  have ge_r1 : n0 ≤ r1 := Nat.le_trans Z0 o1_0
  have sz_r1 : h0.size ≤ r1 := Nat.le_trans K0.1 o1_0
  have ne_p0_r1 : p0 ≠ r1 := Nat.ne_of_lt (Nat.lt_of_lt_of_le pm0.lt o1_0)
  have ne_ea_r1 : ea ≠ r1 := Nat.ne_of_lt (Nat.lt_of_lt_of_le pm3.lt o1_0)
  have ne_d1_r1 : d1 ≠ r1 := Nat.ne_of_lt (Nat.lt_of_lt_of_le pm5.lt o1_0)
  have ne_d2_r1 : d2 ≠ r1 := Nat.ne_of_lt (Nat.lt_of_lt_of_le pm6.lt o1_0)
  refine own_by st1 ?_
  show own_Go _ _ _ _ _ _ _ (T1.setTop (mkF m 4 #[.val (.ref p0)] [(.ref r1)]))
  exact own_retA X1 hx hlk Bd.returns rfl (hb hby d26_4) (by decide) (by decide) ⟨r1, rfl, N1, K1, sz_r1, o1_1, o1_2, o1_3⟩
theorem ef_32_3 (m : MethodId) (p0 : Addr) : entryFrame m #[(.ref p0)] 2 = mkF m 0 #[.val (.ref p0), .unset] [] := by first | (simp [entryFrame, mkF, argsToLocals, Value.category]; done) | rfl
def Q32_3 (Z : State) (p0 : Addr) (kB : ClassId) (d1 : Addr) (d2 : Addr) (d3 : Addr) (h0 : Heap) (n0 : Nat) (v : Option Value) (h : Heap) (L : List Loc) : Prop := ∃ (r : Addr) (ra : Addr) (kC : ClassId), v = some (.ref r) ∧ Fr n0 L ∧ Keep h0 h [] ∧ h0.size ≤ r ∧ h0.size ≤ ra ∧ ra ≠ r ∧ Exa Z h r "java/util/ImmutableCollections$ListN" ∧ Fld Z h r "java/util/ImmutableCollections$ListN" "elements" "[Ljava/lang/Object;" (.ref ra) ∧ Arv Z h ra kC (.object "java/lang/Object") (3 : Int32) [(.ref d1), (.ref d2), (.ref d3)] .null
theorem rm32_3 (l : Launch) (Z : State) (a0 : Array Value) (hw : ∀ d ∈ tables_1, d.before a0 Z = true) (ws : List Jvm.Cond) (p0 : Addr) (h0 : Heap) (n0 : Nat) (Z0 : n0 ≤ h0.size) (kB : ClassId) (d1 : Addr) (d2 : Addr) (d3 : Addr) (pm0 : Arv Z h0 p0 kB (.object "java/lang/Object") (3 : Int32) [(.ref d1), (.ref d2), (.ref d3)] .null) (pm1 : Exa Z h0 d1 "java/lang/Double") (pm2 : Exa Z h0 d2 "java/lang/Double") (pm3 : Exa Z h0 d3 "java/lang/Double") :
    own_Met l Z (⟨"java/util/List", "of", "([Ljava/lang/Object;)Ljava/util/List;"⟩ : MethodName) jdk_40_method_47_code 2 (some (.object "java/util/List")) ws ({ frames := 6, cells := 2, slots := 5, locals := 78 } : Room) #[(.ref p0)] h0 (Q32_3 Z p0 kB d1 d2 d3 h0 n0) := by
  refine MetFree.of_bodySF pf_32 hisR ?_
  intro p e s m args below meth c s₁ Bd hml0 hP hK
  obtain ⟨rfl, hZ, hh⟩ := hP
  have hx := Bd.exec
  have hby := Bd.bytes
  have hlk : meth.locks = false := BodyLoose.notSynchronized Bd
  have hml : c.maxLocals = 2 := hml0
  have hown : s.vm.findClass "java/util/List" = some m.cls := findClass_of_methodNamed Bd.named
  have hnm := (name_of_methodNamed Bd.named Bd.method).1
  have X0 : Stand p l e ({ frames := 6, cells := 2, slots := 5, locals := 78 } : Room) s m #[(.ref p0)] below meth c s₁ [] 0 0 := Stand.of_body Bd
  have e0 : s₁.heap = h0 := by rw [← hh, Bd.state]; rfl
  have N0 := Fr.nil n0
  have K0 := Keep.refl h0 []
  show own_Go _ _ _ _ (Q32_3 Z p0 kB d1 d2 d3 h0 n0) _ _ _
  refine own_by (fun _ k => castTop (ef_32_3 m p0) k) ?_
  show own_Go _ _ _ _ _ _ _ (s₁.setTop (mkF m 0 #[.val (.ref p0), .unset] []))
  refine own_by (fun _ kz => XS.aloadN X0.here hx rfl (hb hby d32_0) rfl rfl kz) ?_
  show own_Go _ _ _ _ _ _ _ (s₁.setTop (mkF m 1 #[.val (.ref p0), .unset] [(.ref p0)]))
  refine own_by (fun _ kz => own_len X0 hx hZ e0 pm0 (g := (mkF m 1 #[.val (.ref p0), .unset] [(.ref p0)])) rfl rfl (hb hby d32_1) _ kz) ?_
  show own_Go _ _ _ _ _ _ _ (s₁.setTop (mkF m 2 #[.val (.ref p0), .unset] [(.int (3 : Int32))]))
  refine own_by (fun _ kz => XS.tswOut X0.here hx rfl (pc0 := 2) (pc' := 59) rfl (hb hby d32_2) rfl (by decide) (by decide) (by decide) kz) ?_
  show own_Go _ _ _ _ _ _ _ (s₁.setTop (mkF m 59 #[.val (.ref p0), .unset] []))
  refine own_by (fun _ kz => XS.aloadN X0.here hx rfl (hb hby d32_59) rfl rfl kz) ?_
  show own_Go _ _ _ _ _ _ _ (s₁.setTop (mkF m 60 #[.val (.ref p0), .unset] [(.ref p0)]))
  obtain ⟨v1, T1, L1, X1, q1, st1⟩ := own_callS X0 hx hZ hown (ow hw 311 rfl) (ow hw 312 rfl) (ow hw 197 rfl) (ow hw 313 rfl) (by decide) (rm42 l Z a0 hw [] p0 h0 n0 Z0 kB d1 d2 d3 pm0 pm1 pm2 pm3) (W := 0) (by decide) (by decide) e0 (g := (mkF m 60 #[.val (.ref p0), .unset] [(.ref p0)])) rfl (by rw [hml]; rfl) (argsL := [(.ref p0)]) (rest := []) (lenOf pd_42 rfl) rfl rfl (by show 2 * 0 + _ ≤ _; exact Nat.le_of_eq rfl) (hb hby d32_60) (by decide) (by decide)
  obtain ⟨r1, ra1, kC1, rfl, Nq1, Kq1, o1_0, o1_1, o1_2, o1_3, o1_4, o1_5⟩ := q1
  have N1 := Fr.app N0 Nq1
  have Z1 : n0 ≤ T1.heap.size := Nat.le_trans Z0 Kq1.1
  have K1 := K0.trans Kq1 all0
  have pm0_h1 := pm0.keep Kq1 nin0
  have pm1_h1 := pm1.keep Kq1
  have pm2_h1 := pm2.keep Kq1
  have pm3_h1 := pm3.keep Kq1
  have ge_r1 : n0 ≤ r1 := Nat.le_trans Z0 o1_0
  have sz_r1 : h0.size ≤ r1 := Nat.le_trans K0.1 o1_0
  have ne_p0_r1 : p0 ≠ r1 := Nat.ne_of_lt (Nat.lt_of_lt_of_le pm0.lt o1_0)
  have ne_d1_r1 : d1 ≠ r1 := Nat.ne_of_lt (Nat.lt_of_lt_of_le pm1.lt o1_0)
  have ne_d2_r1 : d2 ≠ r1 := Nat.ne_of_lt (Nat.lt_of_lt_of_le pm2.lt o1_0)
  have ne_d3_r1 : d3 ≠ r1 := Nat.ne_of_lt (Nat.lt_of_lt_of_le pm3.lt o1_0)
  have ge_ra1 : n0 ≤ ra1 := Nat.le_trans Z0 o1_1
  have sz_ra1 : h0.size ≤ ra1 := Nat.le_trans K0.1 o1_1
  have ne_p0_ra1 : p0 ≠ ra1 := Nat.ne_of_lt (Nat.lt_of_lt_of_le pm0.lt o1_1)
  have ne_d1_ra1 : d1 ≠ ra1 := Nat.ne_of_lt (Nat.lt_of_lt_of_le pm1.lt o1_1)
  have ne_d2_ra1 : d2 ≠ ra1 := Nat.ne_of_lt (Nat.lt_of_lt_of_le pm2.lt o1_1)
  have ne_d3_ra1 : d3 ≠ ra1 := Nat.ne_of_lt (Nat.lt_of_lt_of_le pm3.lt o1_1)
  refine own_by st1 ?_
  show own_Go _ _ _ _ _ _ _ (T1.setTop (mkF m 63 #[.val (.ref p0), .unset] [(.ref r1)]))
  exact own_retA X1 hx hlk Bd.returns rfl (hb hby d32_63) (by decide) (by decide) ⟨r1, ra1, kC1, rfl, N1, K1, sz_r1, sz_ra1, o1_2, o1_3, o1_4, o1_5⟩
theorem ef_27_3 (m : MethodId) (p0 : Addr) : entryFrame m #[(.ref p0)] 2 = mkF m 0 #[.val (.ref p0), .unset] [] := by first | (simp [entryFrame, mkF, argsToLocals, Value.category]; done) | rfl
def Q27_3 (Z : State) (p0 : Addr) (mr : Addr) (ea : Addr) (kA : ClassId) (d1 : Addr) (d2 : Addr) (d3 : Addr) (h0 : Heap) (n0 : Nat) (v : Option Value) (h : Heap) (L : List Loc) : Prop := ∃ (r : Addr) (ra : Addr) (kC : ClassId), v = some (.ref r) ∧ Fr n0 L ∧ Keep h0 h [] ∧ h0.size ≤ r ∧ h0.size ≤ ra ∧ ra ≠ r ∧ Exa Z h r "java/util/ImmutableCollections$ListN" ∧ Fld Z h r "java/util/ImmutableCollections$ListN" "elements" "[Ljava/lang/Object;" (.ref ra) ∧ Arv Z h ra kC (.object "java/lang/Object") (3 : Int32) [(.ref d1), (.ref d2), (.ref d3)] .null
theorem rm27_3 (l : Launch) (Z : State) (a0 : Array Value) (hw : ∀ d ∈ tables_1, d.before a0 Z = true) (ws : List Jvm.Cond) (p0 : Addr) (h0 : Heap) (n0 : Nat) (Z0 : n0 ≤ h0.size) (mr : Addr) (MI : own_Mi Z "[Ljava/lang/Object;" mr) (ea : Addr) (kA : ClassId) (d1 : Addr) (d2 : Addr) (d3 : Addr) (pm0 : Exa Z h0 p0 "java/util/ArrayList") (pm1 : Fld Z h0 p0 "java/util/ArrayList" "elementData" "[Ljava/lang/Object;" (.ref ea)) (pm2 : Fld Z h0 p0 "java/util/ArrayList" "size" "I" (.int (3 : Int32))) (pm3 : Exa Z h0 ea "[Ljava/lang/Object;") (pm4 : Arv Z h0 ea kA (.object "java/lang/Object") (10 : Int32) [(.ref d1), (.ref d2), (.ref d3), .null, .null, .null, .null, .null, .null, .null] .null) (pm5 : Exa Z h0 d1 "java/lang/Double") (pm6 : Exa Z h0 d2 "java/lang/Double") (pm7 : Exa Z h0 d3 "java/lang/Double") :
    own_Met l Z (⟨"java/util/ImmutableCollections", "listCopy", "(Ljava/util/Collection;)Ljava/util/List;"⟩ : MethodName) jdk_56_method_3_code 2 (some (.object "java/util/List")) ws ({ frames := 7, cells := 3, slots := 8, locals := 91 } : Room) #[(.ref p0)] h0 (Q27_3 Z p0 mr ea kA d1 d2 d3 h0 n0) := by
  refine MetFree.of_bodySF pf_27 hisR ?_
  intro p e s m args below meth c s₁ Bd hml0 hP hK
  obtain ⟨rfl, hZ, hh⟩ := hP
  have hx := Bd.exec
  have hby := Bd.bytes
  have hlk : meth.locks = false := BodyLoose.notSynchronized Bd
  have hml : c.maxLocals = 2 := hml0
  have hown : s.vm.findClass "java/util/ImmutableCollections" = some m.cls := findClass_of_methodNamed Bd.named
  have hnm := (name_of_methodNamed Bd.named Bd.method).1
  have X0 : Stand p l e ({ frames := 7, cells := 3, slots := 8, locals := 91 } : Room) s m #[(.ref p0)] below meth c s₁ [] 0 0 := Stand.of_body Bd
  have e0 : s₁.heap = h0 := by rw [← hh, Bd.state]; rfl
  have N0 := Fr.nil n0
  have K0 := Keep.refl h0 []
  show own_Go _ _ _ _ (Q27_3 Z p0 mr ea kA d1 d2 d3 h0 n0) _ _ _
  refine own_by (fun _ k => castTop (ef_27_3 m p0) k) ?_
  show own_Go _ _ _ _ _ _ _ (s₁.setTop (mkF m 0 #[.val (.ref p0), .unset] []))
  refine own_by (fun _ kz => XS.aloadN X0.here hx rfl (hb hby d27_0) rfl rfl kz) ?_
  show own_Go _ _ _ _ _ _ _ (s₁.setTop (mkF m 1 #[.val (.ref p0), .unset] [(.ref p0)]))
  obtain ⟨T1, X1, e1, st1⟩ := instNo X0 hx hZ hown (ow hw 199 rfl) e0 pm0 (own_NSno (ow hw 200 rfl) (ow hw 244 rfl) (NS.step (ow hw 200 rfl) (NS.step (ow hw 201 rfl) (NS.step (ow hw 202 rfl) (own_NS0 (ow hw 203 rfl) (ow hw 244 rfl) (by decide)) (by decide)) (by decide)) (by decide)) (by decide)) (g := (mkF m 1 #[.val (.ref p0), .unset] [(.ref p0)])) rfl rfl (hb hby d27_1)
  refine own_by st1 ?_
  show own_Go _ _ _ _ _ _ _ (T1.setTop (mkF m 4 #[.val (.ref p0), .unset] [(.int (0 : Int32))]))
  refine own_by (fun _ kz => XS.ifNo X1.here hx rfl (hb hby d27_4) rfl ((if0 _ _).trans (teq (by decide : ((0 : Int32) = (0 : Int32)))).2) kz) ?_
  show own_Go _ _ _ _ _ _ _ (T1.setTop (mkF m 7 #[.val (.ref p0), .unset] []))
  refine own_by (fun _ kz => XS.aloadN X1.here hx rfl (hb hby d27_7) rfl rfl kz) ?_
  show own_Go _ _ _ _ _ _ _ (T1.setTop (mkF m 8 #[.val (.ref p0), .unset] [(.ref p0)]))
  obtain ⟨T2, X2, e2, st2⟩ := instNo X1 hx hZ hown (ow hw 204 rfl) e1 pm0 (own_NSno (ow hw 200 rfl) (ow hw 316 rfl) (NS.step (ow hw 200 rfl) (NS.step (ow hw 201 rfl) (NS.step (ow hw 202 rfl) (own_NS0 (ow hw 203 rfl) (ow hw 316 rfl) (by decide)) (by decide)) (by decide)) (by decide)) (by decide)) (g := (mkF m 8 #[.val (.ref p0), .unset] [(.ref p0)])) rfl rfl (hb hby d27_8)
  refine own_by st2 ?_
  show own_Go _ _ _ _ _ _ _ (T2.setTop (mkF m 11 #[.val (.ref p0), .unset] [(.int (0 : Int32))]))
  refine own_by (fun _ kz => XS.ifYes X2.here hx rfl (pc0 := 11) (pc' := 31) rfl (hb hby d27_11) rfl ((if0 _ _).trans (teq (by decide : ((0 : Int32) = (0 : Int32)))).1) (by decide) (by decide) kz) ?_
  show own_Go _ _ _ _ _ _ _ (T2.setTop (mkF m 31 #[.val (.ref p0), .unset] []))
  refine own_by (fun _ kz => XS.aloadN X2.here hx rfl (hb hby d27_31) rfl rfl kz) ?_
  show own_Go _ _ _ _ _ _ _ (T2.setTop (mkF m 32 #[.val (.ref p0), .unset] [(.ref p0)]))
  obtain ⟨v3, T3, L3, X3, q3, st3⟩ := own_callF (xi := (⟨"java/util/Collection", "isEmpty", "()Z"⟩ : MethodName)) (y := (⟨"java/util/ArrayList", "isEmpty", "()Z"⟩ : MethodName)) X2 hx hZ hown (ow hw 205 rfl) (ow hw 206 rfl) (mvT hZ (ow hw 207 rfl)) (ow hw 208 rfl) (ow hw 124 rfl) (ow hw 125 rfl) (ow hw 126 rfl) (ow hw 209 rfl) (ow hw 8 rfl) (ow hw 128 rfl) (by decide) (rm18 l Z a0 hw [] p0 h0 n0 Z0 (3 : Int32) pm2 (by decide)) (W := 0) (by decide) (by decide) e2 pm0 (g := (mkF m 32 #[.val (.ref p0), .unset] [(.ref p0)])) rfl (by rw [hml]; rfl) (argsL := []) (rest := []) (lenOf pd_18 rfl) rfl rfl (by show 2 * 0 + _ ≤ _; exact Nat.le_of_eq rfl) (hb hby d27_32) (by decide) (by decide)
  obtain ⟨rfl, Nq3, hh3⟩ := q3
  have N3 := Fr.app N0 Nq3
  refine own_by st3 ?_
  show own_Go _ _ _ _ _ _ _ (T3.setTop (mkF m 37 #[.val (.ref p0), .unset] [(.int (0 : Int32))]))
  refine own_by (fun _ kz => XS.ifYes X3.here hx rfl (pc0 := 37) (pc' := 44) rfl (hb hby d27_37) rfl ((if0 _ _).trans (teq (by decide : ((0 : Int32) = (0 : Int32)))).1) (by decide) (by decide) kz) ?_
  show own_Go _ _ _ _ _ _ _ (T3.setTop (mkF m 44 #[.val (.ref p0), .unset] []))
  refine own_by (fun _ kz => XS.aloadN X3.here hx rfl (hb hby d27_44) rfl rfl kz) ?_
  show own_Go _ _ _ _ _ _ _ (T3.setTop (mkF m 45 #[.val (.ref p0), .unset] [(.ref p0)]))
  obtain ⟨v4, T4, L4, X4, q4, st4⟩ := own_callF (xi := (⟨"java/util/Collection", "toArray", "()[Ljava/lang/Object;"⟩ : MethodName)) (y := (⟨"java/util/ArrayList", "toArray", "()[Ljava/lang/Object;"⟩ : MethodName)) X3 hx hZ hown (ow hw 210 rfl) (ow hw 211 rfl) (mvT hZ (ow hw 212 rfl)) (ow hw 213 rfl) (ow hw 214 rfl) (ow hw 215 rfl) (ow hw 216 rfl) (ow hw 209 rfl) (ow hw 8 rfl) (ow hw 217 rfl) (by decide) (rm28_3 l Z a0 hw [] p0 h0 n0 Z0 mr MI ea kA d1 d2 d3 pm1 pm2 pm3 pm4 pm5 pm6 pm7) (W := 0) (by decide) (by decide) hh3 pm0 (g := (mkF m 45 #[.val (.ref p0), .unset] [(.ref p0)])) rfl (by rw [hml]; rfl) (argsL := []) (rest := []) (lenOf pd_28 rfl) rfl rfl (by show 2 * 0 + _ ≤ _; exact Nat.le_of_eq rfl) (hb hby d27_45) (by decide) (by decide)
  obtain ⟨r4, kB4, rfl, Nq4, Kq4, o4_0, o4_1, o4_2, o4_3⟩ := q4
  have N4 := Fr.app N3 Nq4
  have Z4 : n0 ≤ T4.heap.size := Nat.le_trans Z0 Kq4.1
  have K4 := K0.trans Kq4 all0
  have pm0_h4 := pm0.keep Kq4
  have pm1_h4 := pm1.keep Kq4 nin0
  have pm2_h4 := pm2.keep Kq4 nin0
  have pm3_h4 := pm3.keep Kq4
  have pm4_h4 := pm4.keep Kq4 nin0
  have pm5_h4 := pm5.keep Kq4
  have pm6_h4 := pm6.keep Kq4
  have pm7_h4 := pm7.keep Kq4
  have ge_r4 : n0 ≤ r4 := Nat.le_trans Z0 o4_0
  have sz_r4 : h0.size ≤ r4 := Nat.le_trans K0.1 o4_0
  have ne_p0_r4 : p0 ≠ r4 := Nat.ne_of_lt (Nat.lt_of_lt_of_le pm0.lt o4_0)
  have ne_ea_r4 : ea ≠ r4 := Nat.ne_of_lt (Nat.lt_of_lt_of_le pm3.lt o4_0)
  have ne_d1_r4 : d1 ≠ r4 := Nat.ne_of_lt (Nat.lt_of_lt_of_le pm5.lt o4_0)
  have ne_d2_r4 : d2 ≠ r4 := Nat.ne_of_lt (Nat.lt_of_lt_of_le pm6.lt o4_0)
  have ne_d3_r4 : d3 ≠ r4 := Nat.ne_of_lt (Nat.lt_of_lt_of_le pm7.lt o4_0)
  refine own_by st4 ?_
  show own_Go _ _ _ _ _ _ _ (T4.setTop (mkF m 50 #[.val (.ref p0), .unset] [(.ref r4)]))
  obtain ⟨v5, T5, L5, X5, q5, st5⟩ := own_callS X4 hx hZ hown (ow hw 240 rfl) (ow hw 241 rfl) (ow hw 193 rfl) (ow hw 242 rfl) (by decide) (rm32_3 l Z a0 hw [] r4 T4.heap n0 Z4 kB4 d1 d2 d3 o4_2 pm5_h4 pm6_h4 pm7_h4) (W := 0) (by decide) (by decide) rfl (g := (mkF m 50 #[.val (.ref p0), .unset] [(.ref r4)])) rfl (by rw [hml]; rfl) (argsL := [(.ref r4)]) (rest := []) (lenOf pd_32 rfl) rfl rfl (by show 2 * 0 + _ ≤ _; exact Nat.le_of_eq rfl) (hb hby d27_50) (by decide) (by decide)
  obtain ⟨r5, ra5, kC5, rfl, Nq5, Kq5, o5_0, o5_1, o5_2, o5_3, o5_4, o5_5⟩ := q5
  have N5 := Fr.app N4 Nq5
  have Z5 : n0 ≤ T5.heap.size := Nat.le_trans Z4 Kq5.1
  have K5 := K4.trans Kq5 all0
  have pm0_h5 := pm0_h4.keep Kq5
  have pm1_h5 := pm1_h4.keep Kq5 nin0
  have pm2_h5 := pm2_h4.keep Kq5 nin0
  have pm3_h5 := pm3_h4.keep Kq5
  have pm4_h5 := pm4_h4.keep Kq5 nin0
  have pm5_h5 := pm5_h4.keep Kq5
  have pm6_h5 := pm6_h4.keep Kq5
  have pm7_h5 := pm7_h4.keep Kq5
  have o4_1_h5 := o4_1.keep Kq5
  have o4_2_h5 := o4_2.keep Kq5 nin0
  have ge_r5 : n0 ≤ r5 := Nat.le_trans Z4 o5_0
  have sz_r5 : h0.size ≤ r5 := Nat.le_trans K4.1 o5_0
  have ne_p0_r5 : p0 ≠ r5 := Nat.ne_of_lt (Nat.lt_of_lt_of_le pm0_h4.lt o5_0)
  have ne_ea_r5 : ea ≠ r5 := Nat.ne_of_lt (Nat.lt_of_lt_of_le pm3_h4.lt o5_0)
  have ne_d1_r5 : d1 ≠ r5 := Nat.ne_of_lt (Nat.lt_of_lt_of_le pm5_h4.lt o5_0)
  have ne_d2_r5 : d2 ≠ r5 := Nat.ne_of_lt (Nat.lt_of_lt_of_le pm6_h4.lt o5_0)
  have ne_d3_r5 : d3 ≠ r5 := Nat.ne_of_lt (Nat.lt_of_lt_of_le pm7_h4.lt o5_0)
  have ne_r4_r5 : r4 ≠ r5 := Nat.ne_of_lt (Nat.lt_of_lt_of_le o4_1.lt o5_0)
  have ge_ra5 : n0 ≤ ra5 := Nat.le_trans Z4 o5_1
  have sz_ra5 : h0.size ≤ ra5 := Nat.le_trans K4.1 o5_1
  have ne_p0_ra5 : p0 ≠ ra5 := Nat.ne_of_lt (Nat.lt_of_lt_of_le pm0_h4.lt o5_1)
  have ne_ea_ra5 : ea ≠ ra5 := Nat.ne_of_lt (Nat.lt_of_lt_of_le pm3_h4.lt o5_1)
  have ne_d1_ra5 : d1 ≠ ra5 := Nat.ne_of_lt (Nat.lt_of_lt_of_le pm5_h4.lt o5_1)
  have ne_d2_ra5 : d2 ≠ ra5 := Nat.ne_of_lt (Nat.lt_of_lt_of_le pm6_h4.lt o5_1)
  have ne_d3_ra5 : d3 ≠ ra5 := Nat.ne_of_lt (Nat.lt_of_lt_of_le pm7_h4.lt o5_1)
  have ne_r4_ra5 : r4 ≠ ra5 := Nat.ne_of_lt (Nat.lt_of_lt_of_le o4_1.lt o5_1)
  refine own_by st5 ?_
  show own_Go _ _ _ _ _ _ _ (T5.setTop (mkF m 53 #[.val (.ref p0), .unset] [(.ref r5)]))
  exact own_retA X5 hx hlk Bd.returns rfl (hb hby d27_53) (by decide) (by decide) ⟨r5, ra5, kC5, rfl, N5, K5, sz_r5, sz_ra5, o5_2, o5_3, o5_4, o5_5⟩
theorem ef_26_3 (m : MethodId) (p0 : Addr) : entryFrame m #[(.ref p0)] 1 = mkF m 0 #[.val (.ref p0)] [] := by first | (simp [entryFrame, mkF, argsToLocals, Value.category]; done) | rfl
def Q26_3 (Z : State) (p0 : Addr) (mr : Addr) (ea : Addr) (kA : ClassId) (d1 : Addr) (d2 : Addr) (d3 : Addr) (h0 : Heap) (n0 : Nat) (v : Option Value) (h : Heap) (L : List Loc) : Prop := ∃ (r : Addr) (ra : Addr) (kC : ClassId), v = some (.ref r) ∧ Fr n0 L ∧ Keep h0 h [] ∧ h0.size ≤ r ∧ h0.size ≤ ra ∧ ra ≠ r ∧ Exa Z h r "java/util/ImmutableCollections$ListN" ∧ Fld Z h r "java/util/ImmutableCollections$ListN" "elements" "[Ljava/lang/Object;" (.ref ra) ∧ Arv Z h ra kC (.object "java/lang/Object") (3 : Int32) [(.ref d1), (.ref d2), (.ref d3)] .null
theorem rm26_3 (l : Launch) (Z : State) (a0 : Array Value) (hw : ∀ d ∈ tables_1, d.before a0 Z = true) (ws : List Jvm.Cond) (p0 : Addr) (h0 : Heap) (n0 : Nat) (Z0 : n0 ≤ h0.size) (mr : Addr) (MI : own_Mi Z "[Ljava/lang/Object;" mr) (ea : Addr) (kA : ClassId) (d1 : Addr) (d2 : Addr) (d3 : Addr) (pm0 : Exa Z h0 p0 "java/util/ArrayList") (pm1 : Fld Z h0 p0 "java/util/ArrayList" "elementData" "[Ljava/lang/Object;" (.ref ea)) (pm2 : Fld Z h0 p0 "java/util/ArrayList" "size" "I" (.int (3 : Int32))) (pm3 : Exa Z h0 ea "[Ljava/lang/Object;") (pm4 : Arv Z h0 ea kA (.object "java/lang/Object") (10 : Int32) [(.ref d1), (.ref d2), (.ref d3), .null, .null, .null, .null, .null, .null, .null] .null) (pm5 : Exa Z h0 d1 "java/lang/Double") (pm6 : Exa Z h0 d2 "java/lang/Double") (pm7 : Exa Z h0 d3 "java/lang/Double") :
    own_Met l Z (⟨"java/util/List", "copyOf", "(Ljava/util/Collection;)Ljava/util/List;"⟩ : MethodName) jdk_40_method_48_code 1 (some (.object "java/util/List")) ws ({ frames := 8, cells := 3, slots := 8, locals := 104 } : Room) #[(.ref p0)] h0 (Q26_3 Z p0 mr ea kA d1 d2 d3 h0 n0) := by
  refine MetFree.of_bodySF pf_26 hisR ?_
  intro p e s m args below meth c s₁ Bd hml0 hP hK
  obtain ⟨rfl, hZ, hh⟩ := hP
  have hx := Bd.exec
  have hby := Bd.bytes
  have hlk : meth.locks = false := BodyLoose.notSynchronized Bd
  have hml : c.maxLocals = 1 := hml0
  have hown : s.vm.findClass "java/util/List" = some m.cls := findClass_of_methodNamed Bd.named
  have hnm := (name_of_methodNamed Bd.named Bd.method).1
  have X0 : Stand p l e ({ frames := 8, cells := 3, slots := 8, locals := 104 } : Room) s m #[(.ref p0)] below meth c s₁ [] 0 0 := Stand.of_body Bd
  have e0 : s₁.heap = h0 := by rw [← hh, Bd.state]; rfl
  have N0 := Fr.nil n0
  have K0 := Keep.refl h0 []
  show own_Go _ _ _ _ (Q26_3 Z p0 mr ea kA d1 d2 d3 h0 n0) _ _ _
  refine own_by (fun _ k => castTop (ef_26_3 m p0) k) ?_
  show own_Go _ _ _ _ _ _ _ (s₁.setTop (mkF m 0 #[.val (.ref p0)] []))
  refine own_by (fun _ kz => XS.aloadN X0.here hx rfl (hb hby d26_0) rfl rfl kz) ?_
  show own_Go _ _ _ _ _ _ _ (s₁.setTop (mkF m 1 #[.val (.ref p0)] [(.ref p0)]))
  obtain ⟨v1, T1, L1, X1, q1, st1⟩ := own_callS X0 hx hZ hown (ow hw 195 rfl) (ow hw 196 rfl) (ow hw 197 rfl) (ow hw 198 rfl) (by decide) (rm27_3 l Z a0 hw [] p0 h0 n0 Z0 mr MI ea kA d1 d2 d3 pm0 pm1 pm2 pm3 pm4 pm5 pm6 pm7) (W := 0) (by decide) (by decide) e0 (g := (mkF m 1 #[.val (.ref p0)] [(.ref p0)])) rfl (by rw [hml]; rfl) (argsL := [(.ref p0)]) (rest := []) (lenOf pd_27 rfl) rfl rfl (by show 2 * 0 + _ ≤ _; exact Nat.le_of_eq rfl) (hb hby d26_1) (by decide) (by decide)
  obtain ⟨r1, ra1, kC1, rfl, Nq1, Kq1, o1_0, o1_1, o1_2, o1_3, o1_4, o1_5⟩ := q1
  have N1 := Fr.app N0 Nq1
  have Z1 : n0 ≤ T1.heap.size := Nat.le_trans Z0 Kq1.1
  have K1 := K0.trans Kq1 all0
  have pm0_h1 := pm0.keep Kq1
  have pm1_h1 := pm1.keep Kq1 nin0
  have pm2_h1 := pm2.keep Kq1 nin0
  have pm3_h1 := pm3.keep Kq1
  have pm4_h1 := pm4.keep Kq1 nin0
  have pm5_h1 := pm5.keep Kq1
  have pm6_h1 := pm6.keep Kq1
  have pm7_h1 := pm7.keep Kq1
  have ge_r1 : n0 ≤ r1 := Nat.le_trans Z0 o1_0
  have sz_r1 : h0.size ≤ r1 := Nat.le_trans K0.1 o1_0
  have ne_p0_r1 : p0 ≠ r1 := Nat.ne_of_lt (Nat.lt_of_lt_of_le pm0.lt o1_0)
  have ne_ea_r1 : ea ≠ r1 := Nat.ne_of_lt (Nat.lt_of_lt_of_le pm3.lt o1_0)
  have ne_d1_r1 : d1 ≠ r1 := Nat.ne_of_lt (Nat.lt_of_lt_of_le pm5.lt o1_0)
  have ne_d2_r1 : d2 ≠ r1 := Nat.ne_of_lt (Nat.lt_of_lt_of_le pm6.lt o1_0)
  have ne_d3_r1 : d3 ≠ r1 := Nat.ne_of_lt (Nat.lt_of_lt_of_le pm7.lt o1_0)
  have ge_ra1 : n0 ≤ ra1 := Nat.le_trans Z0 o1_1
  have sz_ra1 : h0.size ≤ ra1 := Nat.le_trans K0.1 o1_1
  have ne_p0_ra1 : p0 ≠ ra1 := Nat.ne_of_lt (Nat.lt_of_lt_of_le pm0.lt o1_1)
  have ne_ea_ra1 : ea ≠ ra1 := Nat.ne_of_lt (Nat.lt_of_lt_of_le pm3.lt o1_1)
  have ne_d1_ra1 : d1 ≠ ra1 := Nat.ne_of_lt (Nat.lt_of_lt_of_le pm5.lt o1_1)
  have ne_d2_ra1 : d2 ≠ ra1 := Nat.ne_of_lt (Nat.lt_of_lt_of_le pm6.lt o1_1)
  have ne_d3_ra1 : d3 ≠ ra1 := Nat.ne_of_lt (Nat.lt_of_lt_of_le pm7.lt o1_1)
  refine own_by st1 ?_
  show own_Go _ _ _ _ _ _ _ (T1.setTop (mkF m 4 #[.val (.ref p0)] [(.ref r1)]))
  exact own_retA X1 hx hlk Bd.returns rfl (hb hby d26_4) (by decide) (by decide) ⟨r1, ra1, kC1, rfl, N1, K1, sz_r1, sz_ra1, o1_2, o1_3, o1_4, o1_5⟩
theorem d38_0 : decode jdk_44_method_4_code 0 = .ok (.iconst 0, 1) := by decide +kernel
theorem d38_1 : decode jdk_44_method_4_code 1 = .ok (.ireturn, 1) := by decide +kernel
theorem pf_38 : plainFor (⟨"java/util/ImmutableCollections$List12", "isEmpty", "()Z"⟩ : MethodName) = true := by first | exact plainFor_of_name (by first | (simp [plainName, overriddenIn]; done) | decide +kernel) | decide +kernel
theorem pd_38 : parseMethodDescriptor "()Z" = some ⟨[], some .boolean⟩ := by decide +kernel
theorem ef_38 (m : MethodId) (p0 : Addr) : entryFrame m #[(.ref p0)] 1 = mkF m 0 #[.val (.ref p0)] [] := by first | (simp [entryFrame, mkF, argsToLocals, Value.category]; done) | rfl
def Q38 (Z : State) (p0 : Addr) (h0 : Heap) (n0 : Nat) (v : Option Value) (h : Heap) (L : List Loc) : Prop := v = some (.int (0 : Int32)) ∧ Fr n0 L ∧ h = h0
theorem rm38 (l : Launch) (Z : State) (a0 : Array Value) (hw : ∀ d ∈ tables_1, d.before a0 Z = true) (ws : List Jvm.Cond) (p0 : Addr) (h0 : Heap) (n0 : Nat) (Z0 : n0 ≤ h0.size)  :
    own_Met l Z (⟨"java/util/ImmutableCollections$List12", "isEmpty", "()Z"⟩ : MethodName) jdk_44_method_4_code 1 (some .boolean) ws ({ frames := 0, cells := 0, slots := 0, locals := 0 } : Room) #[(.ref p0)] h0 (Q38 Z p0 h0 n0) := by
  refine MetFree.of_bodySF pf_38 hisR ?_
  intro p e s m args below meth c s₁ Bd hml0 hP hK
  obtain ⟨rfl, hZ, hh⟩ := hP
  have hx := Bd.exec
  have hby := Bd.bytes
  have hlk : meth.locks = false := BodyLoose.notSynchronized Bd
  have hml : c.maxLocals = 1 := hml0
  have hown : s.vm.findClass "java/util/ImmutableCollections$List12" = some m.cls := findClass_of_methodNamed Bd.named
  have hnm := (name_of_methodNamed Bd.named Bd.method).1
  have X0 : Stand p l e ({ frames := 0, cells := 0, slots := 0, locals := 0 } : Room) s m #[(.ref p0)] below meth c s₁ [] 0 0 := Stand.of_body Bd
  have e0 : s₁.heap = h0 := by rw [← hh, Bd.state]; rfl
  have N0 := Fr.nil n0
  show own_Go _ _ _ _ (Q38 Z p0 h0 n0) _ _ _
  refine own_by (fun _ k => castTop (ef_38 m p0) k) ?_
  show own_Go _ _ _ _ _ _ _ (s₁.setTop (mkF m 0 #[.val (.ref p0)] []))
  refine own_by (fun _ kz => XS.iconst X0.here hx rfl (hb hby d38_0) kz) ?_
  show own_Go _ _ _ _ _ _ _ (s₁.setTop (mkF m 1 #[.val (.ref p0)] [(.int (0 : Int32))]))
  exact own_retZ X0 hx hlk Bd.returns (hb hby d38_1) (by decide) (by decide) ⟨rfl, N0, e0⟩
theorem d39_0 : decode jdk_44_method_3_code 0 = .ok (.aload_n 0, 1) := by decide +kernel
theorem d39_1 : decode jdk_44_method_3_code 1 = .ok (.getfield 24, 3) := by decide +kernel
theorem d39_4 : decode jdk_44_method_3_code 4 = .ok (.getstatic 19, 3) := by decide +kernel
theorem d39_7 : decode jdk_44_method_3_code 7 = .ok (.if_acmp .eq 7, 3) := by decide +kernel
theorem d39_10 : decode jdk_44_method_3_code 10 = .ok (.iconst 2, 1) := by decide +kernel
theorem d39_11 : decode jdk_44_method_3_code 11 = .ok (.goto 4, 3) := by decide +kernel
theorem d39_14 : decode jdk_44_method_3_code 14 = .ok (.iconst 1, 1) := by decide +kernel
theorem d39_15 : decode jdk_44_method_3_code 15 = .ok (.ireturn, 1) := by decide +kernel
theorem pf_39 : plainFor (⟨"java/util/ImmutableCollections$List12", "size", "()I"⟩ : MethodName) = true := by first | exact plainFor_of_name (by first | (simp [plainName, overriddenIn]; done) | decide +kernel) | decide +kernel
theorem pd_39 : parseMethodDescriptor "()I" = some ⟨[], some .int⟩ := by decide +kernel
theorem ef_39_1 (m : MethodId) (p0 : Addr) : entryFrame m #[(.ref p0)] 1 = mkF m 0 #[.val (.ref p0)] [] := by first | (simp [entryFrame, mkF, argsToLocals, Value.category]; done) | rfl
def Q39_1 (Z : State) (p0 : Addr) (em : Addr) (h0 : Heap) (n0 : Nat) (v : Option Value) (h : Heap) (L : List Loc) : Prop := v = some (.int (1 : Int32)) ∧ Fr n0 L ∧ h = h0
theorem rm39_1 (l : Launch) (Z : State) (a0 : Array Value) (hw : ∀ d ∈ tables_1, d.before a0 Z = true) (ws : List Jvm.Cond) (p0 : Addr) (h0 : Heap) (n0 : Nat) (Z0 : n0 ≤ h0.size) (em : Addr) (SE : Sta Z Z.heap "java/util/ImmutableCollections" "EMPTY" "Ljava/lang/Object;" (.ref em)) (pm0 : Fld Z h0 p0 "java/util/ImmutableCollections$List12" "e1" "Ljava/lang/Object;" (.ref em)) (pm1 : Old Z n0 h0) :
    own_Met l Z (⟨"java/util/ImmutableCollections$List12", "size", "()I"⟩ : MethodName) jdk_44_method_3_code 1 (some .int) ws ({ frames := 0, cells := 0, slots := 0, locals := 0 } : Room) #[(.ref p0)] h0 (Q39_1 Z p0 em h0 n0) := by
  refine MetFree.of_bodySF pf_39 hisR ?_
  intro p e s m args below meth c s₁ Bd hml0 hP hK
  obtain ⟨rfl, hZ, hh⟩ := hP
  have hx := Bd.exec
  have hby := Bd.bytes
  have hlk : meth.locks = false := BodyLoose.notSynchronized Bd
  have hml : c.maxLocals = 1 := hml0
  have hown : s.vm.findClass "java/util/ImmutableCollections$List12" = some m.cls := findClass_of_methodNamed Bd.named
  have hnm := (name_of_methodNamed Bd.named Bd.method).1
  have X0 : Stand p l e ({ frames := 0, cells := 0, slots := 0, locals := 0 } : Room) s m #[(.ref p0)] below meth c s₁ [] 0 0 := Stand.of_body Bd
  have e0 : s₁.heap = h0 := by rw [← hh, Bd.state]; rfl
  have N0 := Fr.nil n0
  show own_Go _ _ _ _ (Q39_1 Z p0 em h0 n0) _ _ _
  refine own_by (fun _ k => castTop (ef_39_1 m p0) k) ?_
  show own_Go _ _ _ _ _ _ _ (s₁.setTop (mkF m 0 #[.val (.ref p0)] []))
  refine own_by (fun _ kz => XS.aloadN X0.here hx rfl (hb hby d39_0) rfl rfl kz) ?_
  obtain ⟨T1, X1, e1, st1⟩ := getF X0 hx hZ hown (host := "") (Or.inl (ow hw 270 rfl)) Via.refl e0 pm0 (g := (mkF m 1 #[.val (.ref p0)] [(.ref p0)])) rfl rfl (hb hby d39_1)
  refine own_by st1 ?_
  show own_Go _ _ _ _ _ _ _ (T1.setTop (mkF m 4 #[.val (.ref p0)] [(.ref em)]))
  obtain ⟨T2, X2, e2, st2⟩ := getS2 X1 hx hZ hown (host := "java/util/ImmutableCollections") (Or.inr (ow hw 297 rfl)) Via.refl e1 (SE.ext pm1.2) (g := (mkF m 4 #[.val (.ref p0)] [(.ref em)])) rfl (hb hby d39_4)
  refine own_by st2 ?_
  show own_Go _ _ _ _ _ _ _ (T2.setTop (mkF m 7 #[.val (.ref p0)] [(.ref em), (.ref em)]))
  refine own_by (fun _ kz => Jvm.RoadKit.acmp (g := (mkF m 7 #[.val (.ref p0)] [(.ref em), (.ref em)])) X2 hx rfl rfl rfl (pc0 := 7) (pc' := 14) (same := true) rfl (hb hby d39_7) rfl (decide_eq_true rfl) (by decide) (by decide) kz) ?_
  show own_Go _ _ _ _ _ _ _ (T2.setTop (mkF m 14 #[.val (.ref p0)] []))
  refine own_by (fun _ kz => XS.iconst X2.here hx rfl (hb hby d39_14) kz) ?_
  show own_Go _ _ _ _ _ _ _ (T2.setTop (mkF m 15 #[.val (.ref p0)] [(.int (1 : Int32))]))
  exact own_retI X2 hx hlk Bd.returns (hb hby d39_15) (by decide) (by decide) ⟨rfl, N0, e2⟩
theorem ef_39_2 (m : MethodId) (p0 : Addr) : entryFrame m #[(.ref p0)] 1 = mkF m 0 #[.val (.ref p0)] [] := by first | (simp [entryFrame, mkF, argsToLocals, Value.category]; done) | rfl
def Q39_2 (Z : State) (p0 : Addr) (em : Addr) (d2 : Addr) (h0 : Heap) (n0 : Nat) (v : Option Value) (h : Heap) (L : List Loc) : Prop := v = some (.int (2 : Int32)) ∧ Fr n0 L ∧ h = h0
theorem rm39_2 (l : Launch) (Z : State) (a0 : Array Value) (hw : ∀ d ∈ tables_1, d.before a0 Z = true) (ws : List Jvm.Cond) (p0 : Addr) (h0 : Heap) (n0 : Nat) (Z0 : n0 ≤ h0.size) (em : Addr) (SE : Sta Z Z.heap "java/util/ImmutableCollections" "EMPTY" "Ljava/lang/Object;" (.ref em)) (d2 : Addr) (pm0 : Fld Z h0 p0 "java/util/ImmutableCollections$List12" "e1" "Ljava/lang/Object;" (.ref d2)) (pm1 : Old Z n0 h0) (pm2 : ¬ d2 = em) :
    own_Met l Z (⟨"java/util/ImmutableCollections$List12", "size", "()I"⟩ : MethodName) jdk_44_method_3_code 1 (some .int) ws ({ frames := 0, cells := 0, slots := 0, locals := 0 } : Room) #[(.ref p0)] h0 (Q39_2 Z p0 em d2 h0 n0) := by
  refine MetFree.of_bodySF pf_39 hisR ?_
  intro p e s m args below meth c s₁ Bd hml0 hP hK
  obtain ⟨rfl, hZ, hh⟩ := hP
  have hx := Bd.exec
  have hby := Bd.bytes
  have hlk : meth.locks = false := BodyLoose.notSynchronized Bd
  have hml : c.maxLocals = 1 := hml0
  have hown : s.vm.findClass "java/util/ImmutableCollections$List12" = some m.cls := findClass_of_methodNamed Bd.named
  have hnm := (name_of_methodNamed Bd.named Bd.method).1
  have X0 : Stand p l e ({ frames := 0, cells := 0, slots := 0, locals := 0 } : Room) s m #[(.ref p0)] below meth c s₁ [] 0 0 := Stand.of_body Bd
  have e0 : s₁.heap = h0 := by rw [← hh, Bd.state]; rfl
  have N0 := Fr.nil n0
  show own_Go _ _ _ _ (Q39_2 Z p0 em d2 h0 n0) _ _ _
  refine own_by (fun _ k => castTop (ef_39_2 m p0) k) ?_
  show own_Go _ _ _ _ _ _ _ (s₁.setTop (mkF m 0 #[.val (.ref p0)] []))
  refine own_by (fun _ kz => XS.aloadN X0.here hx rfl (hb hby d39_0) rfl rfl kz) ?_
  obtain ⟨T1, X1, e1, st1⟩ := getF X0 hx hZ hown (host := "") (Or.inl (ow hw 270 rfl)) Via.refl e0 pm0 (g := (mkF m 1 #[.val (.ref p0)] [(.ref p0)])) rfl rfl (hb hby d39_1)
  refine own_by st1 ?_
  show own_Go _ _ _ _ _ _ _ (T1.setTop (mkF m 4 #[.val (.ref p0)] [(.ref d2)]))
  obtain ⟨T2, X2, e2, st2⟩ := getS2 X1 hx hZ hown (host := "java/util/ImmutableCollections") (Or.inr (ow hw 297 rfl)) Via.refl e1 (SE.ext pm1.2) (g := (mkF m 4 #[.val (.ref p0)] [(.ref d2)])) rfl (hb hby d39_4)
  refine own_by st2 ?_
  show own_Go _ _ _ _ _ _ _ (T2.setTop (mkF m 7 #[.val (.ref p0)] [(.ref em), (.ref d2)]))
  refine own_by (fun _ kz => Jvm.RoadKit.acmp (g := (mkF m 7 #[.val (.ref p0)] [(.ref em), (.ref d2)])) X2 hx rfl rfl rfl (pc0 := 7) (pc' := 10) (same := false) rfl (hb hby d39_7) rfl (decide_eq_false fun q => pm2 (Value.ref.inj q)) (by decide) (by decide) kz) ?_
  show own_Go _ _ _ _ _ _ _ (T2.setTop (mkF m 10 #[.val (.ref p0)] []))
  refine own_by (fun _ kz => XS.iconst X2.here hx rfl (hb hby d39_10) kz) ?_
  show own_Go _ _ _ _ _ _ _ (T2.setTop (mkF m 11 #[.val (.ref p0)] [(.int (2 : Int32))]))
  refine own_by (fun _ kz => XS.goto X2.here hx rfl (pc0 := 11) (pc' := 15) rfl (hb hby d39_11) (by decide) (by decide) kz) ?_
  show own_Go _ _ _ _ _ _ _ (T2.setTop (mkF m 15 #[.val (.ref p0)] [(.int (2 : Int32))]))
  exact own_retI X2 hx hlk Bd.returns (hb hby d39_15) (by decide) (by decide) ⟨rfl, N0, e2⟩
theorem d40_0 : decode jdk_44_method_5_code 0 = .ok (.iload_n 1, 1) := by decide +kernel
theorem d40_1 : decode jdk_44_method_5_code 1 = .ok (.ifCond .ne 8, 3) := by decide +kernel
theorem d40_4 : decode jdk_44_method_5_code 4 = .ok (.aload_n 0, 1) := by decide +kernel
theorem d40_5 : decode jdk_44_method_5_code 5 = .ok (.getfield 13, 3) := by decide +kernel
theorem d40_8 : decode jdk_44_method_5_code 8 = .ok (.areturn, 1) := by decide +kernel
theorem d40_9 : decode jdk_44_method_5_code 9 = .ok (.iload_n 1, 1) := by decide +kernel
theorem d40_10 : decode jdk_44_method_5_code 10 = .ok (.iconst 1, 1) := by decide +kernel
theorem d40_11 : decode jdk_44_method_5_code 11 = .ok (.if_icmp .ne 18, 3) := by decide +kernel
theorem d40_14 : decode jdk_44_method_5_code 14 = .ok (.aload_n 0, 1) := by decide +kernel
theorem d40_15 : decode jdk_44_method_5_code 15 = .ok (.getfield 24, 3) := by decide +kernel
theorem d40_18 : decode jdk_44_method_5_code 18 = .ok (.getstatic 19, 3) := by decide +kernel
theorem d40_21 : decode jdk_44_method_5_code 21 = .ok (.if_acmp .eq 8, 3) := by decide +kernel
theorem d40_24 : decode jdk_44_method_5_code 24 = .ok (.aload_n 0, 1) := by decide +kernel
theorem d40_25 : decode jdk_44_method_5_code 25 = .ok (.getfield 24, 3) := by decide +kernel
theorem d40_28 : decode jdk_44_method_5_code 28 = .ok (.areturn, 1) := by decide +kernel
theorem pf_40 : plainFor (⟨"java/util/ImmutableCollections$List12", "get", "(I)Ljava/lang/Object;"⟩ : MethodName) = true := by first | exact plainFor_of_name (by first | (simp [plainName, overriddenIn]; done) | decide +kernel) | decide +kernel
theorem pd_40 : parseMethodDescriptor "(I)Ljava/lang/Object;" = some ⟨[.int], some (.object "java/lang/Object")⟩ := by decide +kernel
theorem ef_40_1 (m : MethodId) (p0 : Addr) : entryFrame m #[(.ref p0), (.int (0 : Int32))] 2 = mkF m 0 #[.val (.ref p0), .val (.int (0 : Int32))] [] := by first | (simp [entryFrame, mkF, argsToLocals, Value.category]; done) | rfl
def Q40_1 (Z : State) (p0 : Addr) (d1 : Addr) (h0 : Heap) (n0 : Nat) (v : Option Value) (h : Heap) (L : List Loc) : Prop := v = some (.ref d1) ∧ Fr n0 L ∧ h = h0
theorem rm40_1 (l : Launch) (Z : State) (a0 : Array Value) (hw : ∀ d ∈ tables_1, d.before a0 Z = true) (ws : List Jvm.Cond) (p0 : Addr) (h0 : Heap) (n0 : Nat) (Z0 : n0 ≤ h0.size) (d1 : Addr) (pm0 : Fld Z h0 p0 "java/util/ImmutableCollections$List12" "e0" "Ljava/lang/Object;" (.ref d1)) :
    own_Met l Z (⟨"java/util/ImmutableCollections$List12", "get", "(I)Ljava/lang/Object;"⟩ : MethodName) jdk_44_method_5_code 2 (some (.object "java/lang/Object")) ws ({ frames := 0, cells := 0, slots := 0, locals := 0 } : Room) #[(.ref p0), (.int (0 : Int32))] h0 (Q40_1 Z p0 d1 h0 n0) := by
  refine MetFree.of_bodySF pf_40 hisR ?_
  intro p e s m args below meth c s₁ Bd hml0 hP hK
  obtain ⟨rfl, hZ, hh⟩ := hP
  have hx := Bd.exec
  have hby := Bd.bytes
  have hlk : meth.locks = false := BodyLoose.notSynchronized Bd
  have hml : c.maxLocals = 2 := hml0
  have hown : s.vm.findClass "java/util/ImmutableCollections$List12" = some m.cls := findClass_of_methodNamed Bd.named
  have hnm := (name_of_methodNamed Bd.named Bd.method).1
  have X0 : Stand p l e ({ frames := 0, cells := 0, slots := 0, locals := 0 } : Room) s m #[(.ref p0), (.int (0 : Int32))] below meth c s₁ [] 0 0 := Stand.of_body Bd
  have e0 : s₁.heap = h0 := by rw [← hh, Bd.state]; rfl
  have N0 := Fr.nil n0
  show own_Go _ _ _ _ (Q40_1 Z p0 d1 h0 n0) _ _ _
  refine own_by (fun _ k => castTop (ef_40_1 m p0) k) ?_
  show own_Go _ _ _ _ _ _ _ (s₁.setTop (mkF m 0 #[.val (.ref p0), .val (.int (0 : Int32))] []))
  refine own_by (fun _ kz => XS.iloadN X0.here hx rfl (hb hby d40_0) rfl kz) ?_
  show own_Go _ _ _ _ _ _ _ (s₁.setTop (mkF m 1 #[.val (.ref p0), .val (.int (0 : Int32))] [(.int (0 : Int32))]))
  refine own_by (fun _ kz => XS.ifNo X0.here hx rfl (hb hby d40_1) rfl ((if0 _ _).trans (teq (by decide : ((0 : Int32) = (0 : Int32)))).2) kz) ?_
  show own_Go _ _ _ _ _ _ _ (s₁.setTop (mkF m 4 #[.val (.ref p0), .val (.int (0 : Int32))] []))
  refine own_by (fun _ kz => XS.aloadN X0.here hx rfl (hb hby d40_4) rfl rfl kz) ?_
  obtain ⟨T1, X1, e1, st1⟩ := getF X0 hx hZ hown (host := "") (Or.inl (ow hw 268 rfl)) Via.refl e0 pm0 (g := (mkF m 5 #[.val (.ref p0), .val (.int (0 : Int32))] [(.ref p0)])) rfl rfl (hb hby d40_5)
  refine own_by st1 ?_
  show own_Go _ _ _ _ _ _ _ (T1.setTop (mkF m 8 #[.val (.ref p0), .val (.int (0 : Int32))] [(.ref d1)]))
  exact own_retA X1 hx hlk Bd.returns rfl (hb hby d40_8) (by decide) (by decide) ⟨rfl, N0, e1⟩
theorem ef_40_2 (m : MethodId) (p0 : Addr) : entryFrame m #[(.ref p0), (.int (1 : Int32))] 2 = mkF m 0 #[.val (.ref p0), .val (.int (1 : Int32))] [] := by first | (simp [entryFrame, mkF, argsToLocals, Value.category]; done) | rfl
def Q40_2 (Z : State) (p0 : Addr) (em : Addr) (d2 : Addr) (h0 : Heap) (n0 : Nat) (v : Option Value) (h : Heap) (L : List Loc) : Prop := v = some (.ref d2) ∧ Fr n0 L ∧ h = h0
theorem rm40_2 (l : Launch) (Z : State) (a0 : Array Value) (hw : ∀ d ∈ tables_1, d.before a0 Z = true) (ws : List Jvm.Cond) (p0 : Addr) (h0 : Heap) (n0 : Nat) (Z0 : n0 ≤ h0.size) (em : Addr) (SE : Sta Z Z.heap "java/util/ImmutableCollections" "EMPTY" "Ljava/lang/Object;" (.ref em)) (d2 : Addr) (pm0 : Fld Z h0 p0 "java/util/ImmutableCollections$List12" "e1" "Ljava/lang/Object;" (.ref d2)) (pm1 : Old Z n0 h0) (pm2 : ¬ d2 = em) :
    own_Met l Z (⟨"java/util/ImmutableCollections$List12", "get", "(I)Ljava/lang/Object;"⟩ : MethodName) jdk_44_method_5_code 2 (some (.object "java/lang/Object")) ws ({ frames := 0, cells := 0, slots := 0, locals := 0 } : Room) #[(.ref p0), (.int (1 : Int32))] h0 (Q40_2 Z p0 em d2 h0 n0) := by
  refine MetFree.of_bodySF pf_40 hisR ?_
  intro p e s m args below meth c s₁ Bd hml0 hP hK
  obtain ⟨rfl, hZ, hh⟩ := hP
  have hx := Bd.exec
  have hby := Bd.bytes
  have hlk : meth.locks = false := BodyLoose.notSynchronized Bd
  have hml : c.maxLocals = 2 := hml0
  have hown : s.vm.findClass "java/util/ImmutableCollections$List12" = some m.cls := findClass_of_methodNamed Bd.named
  have hnm := (name_of_methodNamed Bd.named Bd.method).1
  have X0 : Stand p l e ({ frames := 0, cells := 0, slots := 0, locals := 0 } : Room) s m #[(.ref p0), (.int (1 : Int32))] below meth c s₁ [] 0 0 := Stand.of_body Bd
  have e0 : s₁.heap = h0 := by rw [← hh, Bd.state]; rfl
  have N0 := Fr.nil n0
  show own_Go _ _ _ _ (Q40_2 Z p0 em d2 h0 n0) _ _ _
  refine own_by (fun _ k => castTop (ef_40_2 m p0) k) ?_
  show own_Go _ _ _ _ _ _ _ (s₁.setTop (mkF m 0 #[.val (.ref p0), .val (.int (1 : Int32))] []))
  refine own_by (fun _ kz => XS.iloadN X0.here hx rfl (hb hby d40_0) rfl kz) ?_
  show own_Go _ _ _ _ _ _ _ (s₁.setTop (mkF m 1 #[.val (.ref p0), .val (.int (1 : Int32))] [(.int (1 : Int32))]))
  refine own_by (fun _ kz => XS.ifYes X0.here hx rfl (pc0 := 1) (pc' := 9) rfl (hb hby d40_1) rfl ((if0 _ _).trans (feq (by decide : ¬ ((1 : Int32) = (0 : Int32)))).2) (by decide) (by decide) kz) ?_
  show own_Go _ _ _ _ _ _ _ (s₁.setTop (mkF m 9 #[.val (.ref p0), .val (.int (1 : Int32))] []))
  refine own_by (fun _ kz => XS.iloadN X0.here hx rfl (hb hby d40_9) rfl kz) ?_
  refine own_by (fun _ kz => XS.iconst X0.here hx rfl (hb hby d40_10) kz) ?_
  show own_Go _ _ _ _ _ _ _ (s₁.setTop (mkF m 11 #[.val (.ref p0), .val (.int (1 : Int32))] [(.int (1 : Int32)), (.int (1 : Int32))]))
  refine own_by (fun _ kz => XS.icmpNo X0.here hx rfl (hb hby d40_11) rfl (teq (by decide : ((1 : Int32) = (1 : Int32)))).2 kz) ?_
  show own_Go _ _ _ _ _ _ _ (s₁.setTop (mkF m 14 #[.val (.ref p0), .val (.int (1 : Int32))] []))
  refine own_by (fun _ kz => XS.aloadN X0.here hx rfl (hb hby d40_14) rfl rfl kz) ?_
  obtain ⟨T1, X1, e1, st1⟩ := getF X0 hx hZ hown (host := "") (Or.inl (ow hw 270 rfl)) Via.refl e0 pm0 (g := (mkF m 15 #[.val (.ref p0), .val (.int (1 : Int32))] [(.ref p0)])) rfl rfl (hb hby d40_15)
  refine own_by st1 ?_
  show own_Go _ _ _ _ _ _ _ (T1.setTop (mkF m 18 #[.val (.ref p0), .val (.int (1 : Int32))] [(.ref d2)]))
  obtain ⟨T2, X2, e2, st2⟩ := getS2 X1 hx hZ hown (host := "java/util/ImmutableCollections") (Or.inr (ow hw 297 rfl)) Via.refl e1 (SE.ext pm1.2) (g := (mkF m 18 #[.val (.ref p0), .val (.int (1 : Int32))] [(.ref d2)])) rfl (hb hby d40_18)
  refine own_by st2 ?_
  show own_Go _ _ _ _ _ _ _ (T2.setTop (mkF m 21 #[.val (.ref p0), .val (.int (1 : Int32))] [(.ref em), (.ref d2)]))
  refine own_by (fun _ kz => Jvm.RoadKit.acmp (g := (mkF m 21 #[.val (.ref p0), .val (.int (1 : Int32))] [(.ref em), (.ref d2)])) X2 hx rfl rfl rfl (pc0 := 21) (pc' := 24) (same := false) rfl (hb hby d40_21) rfl (decide_eq_false fun q => pm2 (Value.ref.inj q)) (by decide) (by decide) kz) ?_
  show own_Go _ _ _ _ _ _ _ (T2.setTop (mkF m 24 #[.val (.ref p0), .val (.int (1 : Int32))] []))
  refine own_by (fun _ kz => XS.aloadN X2.here hx rfl (hb hby d40_24) rfl rfl kz) ?_
  obtain ⟨T3, X3, e3, st3⟩ := getF X2 hx hZ hown (host := "") (Or.inl (ow hw 270 rfl)) Via.refl e2 pm0 (g := (mkF m 25 #[.val (.ref p0), .val (.int (1 : Int32))] [(.ref p0)])) rfl rfl (hb hby d40_25)
  refine own_by st3 ?_
  show own_Go _ _ _ _ _ _ _ (T3.setTop (mkF m 28 #[.val (.ref p0), .val (.int (1 : Int32))] [(.ref d2)]))
  exact own_retA X3 hx hlk Bd.returns rfl (hb hby d40_28) (by decide) (by decide) ⟨rfl, N0, e3⟩
theorem d44_0 : decode jdk_45_method_2_code 0 = .ok (.aload_n 0, 1) := by decide +kernel
theorem d44_1 : decode jdk_45_method_2_code 1 = .ok (.getfield 7, 3) := by decide +kernel
theorem d44_4 : decode jdk_45_method_2_code 4 = .ok (.arraylength, 1) := by decide +kernel
theorem d44_5 : decode jdk_45_method_2_code 5 = .ok (.ifCond .ne 7, 3) := by decide +kernel
theorem d44_12 : decode jdk_45_method_2_code 12 = .ok (.iconst 0, 1) := by decide +kernel
theorem d44_13 : decode jdk_45_method_2_code 13 = .ok (.ireturn, 1) := by decide +kernel
theorem pf_44 : plainFor (⟨"java/util/ImmutableCollections$ListN", "isEmpty", "()Z"⟩ : MethodName) = true := by first | exact plainFor_of_name (by first | (simp [plainName, overriddenIn]; done) | decide +kernel) | decide +kernel
theorem pd_44 : parseMethodDescriptor "()Z" = some ⟨[], some .boolean⟩ := by decide +kernel
theorem ef_44 (m : MethodId) (p0 : Addr) : entryFrame m #[(.ref p0)] 1 = mkF m 0 #[.val (.ref p0)] [] := by first | (simp [entryFrame, mkF, argsToLocals, Value.category]; done) | rfl
def Q44 (Z : State) (p0 : Addr) (ra : Addr) (kC : ClassId) (d1 : Addr) (d2 : Addr) (d3 : Addr) (h0 : Heap) (n0 : Nat) (v : Option Value) (h : Heap) (L : List Loc) : Prop := v = some (.int (0 : Int32)) ∧ Fr n0 L ∧ h = h0
theorem rm44 (l : Launch) (Z : State) (a0 : Array Value) (hw : ∀ d ∈ tables_1, d.before a0 Z = true) (ws : List Jvm.Cond) (p0 : Addr) (h0 : Heap) (n0 : Nat) (Z0 : n0 ≤ h0.size) (ra : Addr) (kC : ClassId) (d1 : Addr) (d2 : Addr) (d3 : Addr) (pm0 : Fld Z h0 p0 "java/util/ImmutableCollections$ListN" "elements" "[Ljava/lang/Object;" (.ref ra)) (pm1 : Arv Z h0 ra kC (.object "java/lang/Object") (3 : Int32) [(.ref d1), (.ref d2), (.ref d3)] .null) :
    own_Met l Z (⟨"java/util/ImmutableCollections$ListN", "isEmpty", "()Z"⟩ : MethodName) jdk_45_method_2_code 1 (some .boolean) ws ({ frames := 0, cells := 0, slots := 0, locals := 0 } : Room) #[(.ref p0)] h0 (Q44 Z p0 ra kC d1 d2 d3 h0 n0) := by
  refine MetFree.of_bodySF pf_44 hisR ?_
  intro p e s m args below meth c s₁ Bd hml0 hP hK
  obtain ⟨rfl, hZ, hh⟩ := hP
  have hx := Bd.exec
  have hby := Bd.bytes
  have hlk : meth.locks = false := BodyLoose.notSynchronized Bd
  have hml : c.maxLocals = 1 := hml0
  have hown : s.vm.findClass "java/util/ImmutableCollections$ListN" = some m.cls := findClass_of_methodNamed Bd.named
  have hnm := (name_of_methodNamed Bd.named Bd.method).1
  have X0 : Stand p l e ({ frames := 0, cells := 0, slots := 0, locals := 0 } : Room) s m #[(.ref p0)] below meth c s₁ [] 0 0 := Stand.of_body Bd
  have e0 : s₁.heap = h0 := by rw [← hh, Bd.state]; rfl
  have N0 := Fr.nil n0
  show own_Go _ _ _ _ (Q44 Z p0 ra kC d1 d2 d3 h0 n0) _ _ _
  refine own_by (fun _ k => castTop (ef_44 m p0) k) ?_
  show own_Go _ _ _ _ _ _ _ (s₁.setTop (mkF m 0 #[.val (.ref p0)] []))
  refine own_by (fun _ kz => XS.aloadN X0.here hx rfl (hb hby d44_0) rfl rfl kz) ?_
  obtain ⟨T1, X1, e1, st1⟩ := getF X0 hx hZ hown (host := "") (Or.inl (ow hw 326 rfl)) Via.refl e0 pm0 (g := (mkF m 1 #[.val (.ref p0)] [(.ref p0)])) rfl rfl (hb hby d44_1)
  refine own_by st1 ?_
  show own_Go _ _ _ _ _ _ _ (T1.setTop (mkF m 4 #[.val (.ref p0)] [(.ref ra)]))
  refine own_by (fun _ kz => own_len X1 hx hZ e1 pm1 (g := (mkF m 4 #[.val (.ref p0)] [(.ref ra)])) rfl rfl (hb hby d44_4) _ kz) ?_
  show own_Go _ _ _ _ _ _ _ (T1.setTop (mkF m 5 #[.val (.ref p0)] [(.int (3 : Int32))]))
  refine own_by (fun _ kz => XS.ifYes X1.here hx rfl (pc0 := 5) (pc' := 12) rfl (hb hby d44_5) rfl ((if0 _ _).trans (feq (by decide : ¬ ((3 : Int32) = (0 : Int32)))).2) (by decide) (by decide) kz) ?_
  show own_Go _ _ _ _ _ _ _ (T1.setTop (mkF m 12 #[.val (.ref p0)] []))
  refine own_by (fun _ kz => XS.iconst X1.here hx rfl (hb hby d44_12) kz) ?_
  show own_Go _ _ _ _ _ _ _ (T1.setTop (mkF m 13 #[.val (.ref p0)] [(.int (0 : Int32))]))
  exact own_retZ X1 hx hlk Bd.returns (hb hby d44_13) (by decide) (by decide) ⟨rfl, N0, e1⟩
theorem d45_0 : decode jdk_45_method_3_code 0 = .ok (.aload_n 0, 1) := by decide +kernel
theorem d45_1 : decode jdk_45_method_3_code 1 = .ok (.getfield 7, 3) := by decide +kernel
theorem d45_4 : decode jdk_45_method_3_code 4 = .ok (.arraylength, 1) := by decide +kernel
theorem d45_5 : decode jdk_45_method_3_code 5 = .ok (.ireturn, 1) := by decide +kernel
theorem pf_45 : plainFor (⟨"java/util/ImmutableCollections$ListN", "size", "()I"⟩ : MethodName) = true := by first | exact plainFor_of_name (by first | (simp [plainName, overriddenIn]; done) | decide +kernel) | decide +kernel
theorem pd_45 : parseMethodDescriptor "()I" = some ⟨[], some .int⟩ := by decide +kernel
theorem ef_45 (m : MethodId) (p0 : Addr) : entryFrame m #[(.ref p0)] 1 = mkF m 0 #[.val (.ref p0)] [] := by first | (simp [entryFrame, mkF, argsToLocals, Value.category]; done) | rfl
def Q45 (Z : State) (p0 : Addr) (ra : Addr) (kC : ClassId) (d1 : Addr) (d2 : Addr) (d3 : Addr) (h0 : Heap) (n0 : Nat) (v : Option Value) (h : Heap) (L : List Loc) : Prop := v = some (.int (3 : Int32)) ∧ Fr n0 L ∧ h = h0
theorem rm45 (l : Launch) (Z : State) (a0 : Array Value) (hw : ∀ d ∈ tables_1, d.before a0 Z = true) (ws : List Jvm.Cond) (p0 : Addr) (h0 : Heap) (n0 : Nat) (Z0 : n0 ≤ h0.size) (ra : Addr) (kC : ClassId) (d1 : Addr) (d2 : Addr) (d3 : Addr) (pm0 : Fld Z h0 p0 "java/util/ImmutableCollections$ListN" "elements" "[Ljava/lang/Object;" (.ref ra)) (pm1 : Arv Z h0 ra kC (.object "java/lang/Object") (3 : Int32) [(.ref d1), (.ref d2), (.ref d3)] .null) :
    own_Met l Z (⟨"java/util/ImmutableCollections$ListN", "size", "()I"⟩ : MethodName) jdk_45_method_3_code 1 (some .int) ws ({ frames := 0, cells := 0, slots := 0, locals := 0 } : Room) #[(.ref p0)] h0 (Q45 Z p0 ra kC d1 d2 d3 h0 n0) := by
  refine MetFree.of_bodySF pf_45 hisR ?_
  intro p e s m args below meth c s₁ Bd hml0 hP hK
  obtain ⟨rfl, hZ, hh⟩ := hP
  have hx := Bd.exec
  have hby := Bd.bytes
  have hlk : meth.locks = false := BodyLoose.notSynchronized Bd
  have hml : c.maxLocals = 1 := hml0
  have hown : s.vm.findClass "java/util/ImmutableCollections$ListN" = some m.cls := findClass_of_methodNamed Bd.named
  have hnm := (name_of_methodNamed Bd.named Bd.method).1
  have X0 : Stand p l e ({ frames := 0, cells := 0, slots := 0, locals := 0 } : Room) s m #[(.ref p0)] below meth c s₁ [] 0 0 := Stand.of_body Bd
  have e0 : s₁.heap = h0 := by rw [← hh, Bd.state]; rfl
  have N0 := Fr.nil n0
  show own_Go _ _ _ _ (Q45 Z p0 ra kC d1 d2 d3 h0 n0) _ _ _
  refine own_by (fun _ k => castTop (ef_45 m p0) k) ?_
  show own_Go _ _ _ _ _ _ _ (s₁.setTop (mkF m 0 #[.val (.ref p0)] []))
  refine own_by (fun _ kz => XS.aloadN X0.here hx rfl (hb hby d45_0) rfl rfl kz) ?_
  obtain ⟨T1, X1, e1, st1⟩ := getF X0 hx hZ hown (host := "") (Or.inl (ow hw 326 rfl)) Via.refl e0 pm0 (g := (mkF m 1 #[.val (.ref p0)] [(.ref p0)])) rfl rfl (hb hby d45_1)
  refine own_by st1 ?_
  show own_Go _ _ _ _ _ _ _ (T1.setTop (mkF m 4 #[.val (.ref p0)] [(.ref ra)]))
  refine own_by (fun _ kz => own_len X1 hx hZ e1 pm1 (g := (mkF m 4 #[.val (.ref p0)] [(.ref ra)])) rfl rfl (hb hby d45_4) _ kz) ?_
  show own_Go _ _ _ _ _ _ _ (T1.setTop (mkF m 5 #[.val (.ref p0)] [(.int (3 : Int32))]))
  exact own_retI X1 hx hlk Bd.returns (hb hby d45_5) (by decide) (by decide) ⟨rfl, N0, e1⟩
theorem d46_0 : decode jdk_45_method_4_code 0 = .ok (.aload_n 0, 1) := by decide +kernel
theorem d46_1 : decode jdk_45_method_4_code 1 = .ok (.getfield 7, 3) := by decide +kernel
theorem d46_4 : decode jdk_45_method_4_code 4 = .ok (.iload_n 1, 1) := by decide +kernel
theorem d46_5 : decode jdk_45_method_4_code 5 = .ok (.aaload, 1) := by decide +kernel
theorem d46_6 : decode jdk_45_method_4_code 6 = .ok (.areturn, 1) := by decide +kernel
theorem pf_46 : plainFor (⟨"java/util/ImmutableCollections$ListN", "get", "(I)Ljava/lang/Object;"⟩ : MethodName) = true := by first | exact plainFor_of_name (by first | (simp [plainName, overriddenIn]; done) | decide +kernel) | decide +kernel
theorem pd_46 : parseMethodDescriptor "(I)Ljava/lang/Object;" = some ⟨[.int], some (.object "java/lang/Object")⟩ := by decide +kernel
theorem ef_46 (m : MethodId) (p0 : Addr) : entryFrame m #[(.ref p0), (.int (2 : Int32))] 2 = mkF m 0 #[.val (.ref p0), .val (.int (2 : Int32))] [] := by first | (simp [entryFrame, mkF, argsToLocals, Value.category]; done) | rfl
def Q46 (Z : State) (p0 : Addr) (ra : Addr) (kC : ClassId) (d1 : Addr) (d2 : Addr) (d3 : Addr) (h0 : Heap) (n0 : Nat) (v : Option Value) (h : Heap) (L : List Loc) : Prop := v = some (.ref d3) ∧ Fr n0 L ∧ h = h0
theorem rm46 (l : Launch) (Z : State) (a0 : Array Value) (hw : ∀ d ∈ tables_1, d.before a0 Z = true) (ws : List Jvm.Cond) (p0 : Addr) (h0 : Heap) (n0 : Nat) (Z0 : n0 ≤ h0.size) (ra : Addr) (kC : ClassId) (d1 : Addr) (d2 : Addr) (d3 : Addr) (pm0 : Fld Z h0 p0 "java/util/ImmutableCollections$ListN" "elements" "[Ljava/lang/Object;" (.ref ra)) (pm1 : Arv Z h0 ra kC (.object "java/lang/Object") (3 : Int32) [(.ref d1), (.ref d2), (.ref d3)] .null) :
    own_Met l Z (⟨"java/util/ImmutableCollections$ListN", "get", "(I)Ljava/lang/Object;"⟩ : MethodName) jdk_45_method_4_code 2 (some (.object "java/lang/Object")) ws ({ frames := 0, cells := 0, slots := 0, locals := 0 } : Room) #[(.ref p0), (.int (2 : Int32))] h0 (Q46 Z p0 ra kC d1 d2 d3 h0 n0) := by
  refine MetFree.of_bodySF pf_46 hisR ?_
  intro p e s m args below meth c s₁ Bd hml0 hP hK
  obtain ⟨rfl, hZ, hh⟩ := hP
  have hx := Bd.exec
  have hby := Bd.bytes
  have hlk : meth.locks = false := BodyLoose.notSynchronized Bd
  have hml : c.maxLocals = 2 := hml0
  have hown : s.vm.findClass "java/util/ImmutableCollections$ListN" = some m.cls := findClass_of_methodNamed Bd.named
  have hnm := (name_of_methodNamed Bd.named Bd.method).1
  have X0 : Stand p l e ({ frames := 0, cells := 0, slots := 0, locals := 0 } : Room) s m #[(.ref p0), (.int (2 : Int32))] below meth c s₁ [] 0 0 := Stand.of_body Bd
  have e0 : s₁.heap = h0 := by rw [← hh, Bd.state]; rfl
  have N0 := Fr.nil n0
  show own_Go _ _ _ _ (Q46 Z p0 ra kC d1 d2 d3 h0 n0) _ _ _
  refine own_by (fun _ k => castTop (ef_46 m p0) k) ?_
  show own_Go _ _ _ _ _ _ _ (s₁.setTop (mkF m 0 #[.val (.ref p0), .val (.int (2 : Int32))] []))
  refine own_by (fun _ kz => XS.aloadN X0.here hx rfl (hb hby d46_0) rfl rfl kz) ?_
  obtain ⟨T1, X1, e1, st1⟩ := getF X0 hx hZ hown (host := "") (Or.inl (ow hw 326 rfl)) Via.refl e0 pm0 (g := (mkF m 1 #[.val (.ref p0), .val (.int (2 : Int32))] [(.ref p0)])) rfl rfl (hb hby d46_1)
  refine own_by st1 ?_
  show own_Go _ _ _ _ _ _ _ (T1.setTop (mkF m 4 #[.val (.ref p0), .val (.int (2 : Int32))] [(.ref ra)]))
  refine own_by (fun _ kz => XS.iloadN X1.here hx rfl (hb hby d46_4) rfl kz) ?_
  show own_Go _ _ _ _ _ _ _ (T1.setTop (mkF m 5 #[.val (.ref p0), .val (.int (2 : Int32))] [(.int (2 : Int32)), (.ref ra)]))
  refine own_by (fun _ kz => own_ldA X1 hx hZ e1 pm1 rfl (j := (2 : Int32)) ⟨by decide, by decide⟩ (v := (.ref d3)) rfl (g := (mkF m 5 #[.val (.ref p0), .val (.int (2 : Int32))] [(.int (2 : Int32)), (.ref ra)])) rfl rfl (hb hby d46_5) _ kz) ?_
  show own_Go _ _ _ _ _ _ _ (T1.setTop (mkF m 6 #[.val (.ref p0), .val (.int (2 : Int32))] [(.ref d3)]))
  exact own_retA X1 hx hlk Bd.returns rfl (hb hby d46_6) (by decide) (by decide) ⟨rfl, N0, e1⟩
theorem d37_0 : decode prog_20_method_2_code 0 = .ok (.aload_n 0, 1) := by decide +kernel
theorem d37_1 : decode prog_20_method_2_code 1 = .ok (.getfield 73, 3) := by decide +kernel
theorem d37_4 : decode prog_20_method_2_code 4 = .ok (.invokeinterface 7 1, 5) := by decide +kernel
theorem d37_9 : decode prog_20_method_2_code 9 = .ok (.ifCond .eq 23, 3) := by decide +kernel
theorem d37_32 : decode prog_20_method_2_code 32 = .ok (.aload_n 0, 1) := by decide +kernel
theorem d37_33 : decode prog_20_method_2_code 33 = .ok (.getfield 73, 3) := by decide +kernel
theorem d37_36 : decode prog_20_method_2_code 36 = .ok (.aload_n 0, 1) := by decide +kernel
theorem d37_37 : decode prog_20_method_2_code 37 = .ok (.getfield 73, 3) := by decide +kernel
theorem d37_40 : decode prog_20_method_2_code 40 = .ok (.invokeinterface 88 1, 5) := by decide +kernel
theorem d37_45 : decode prog_20_method_2_code 45 = .ok (.iconst 1, 1) := by decide +kernel
theorem d37_46 : decode prog_20_method_2_code 46 = .ok (.isub, 1) := by decide +kernel
theorem d37_47 : decode prog_20_method_2_code 47 = .ok (.invokeinterface 92 2, 5) := by decide +kernel
theorem d37_52 : decode prog_20_method_2_code 52 = .ok (.checkcast 50, 3) := by decide +kernel
theorem d37_55 : decode prog_20_method_2_code 55 = .ok (.invokevirtual 52, 3) := by decide +kernel
theorem d37_58 : decode prog_20_method_2_code 58 = .ok (.dreturn, 1) := by decide +kernel
theorem pf_37 : plainFor (⟨"com/example/inferlink/inferlink/LinkDelay", "lost", "()D"⟩ : MethodName) = true := by first | exact plainFor_of_name (by first | (simp [plainName, overriddenIn]; done) | decide +kernel) | decide +kernel
theorem pd_37 : parseMethodDescriptor "()D" = some ⟨[], some .double⟩ := by decide +kernel
theorem ef_37_1 (m : MethodId) (p0 : Addr) : entryFrame m #[(.ref p0)] 1 = mkF m 0 #[.val (.ref p0)] [] := by first | (simp [entryFrame, mkF, argsToLocals, Value.category]; done) | rfl
def Q37_1 (Z : State) (p0 : Addr) (em : Addr) (q : Addr) (d1 : Addr) (w : UInt64) (h0 : Heap) (n0 : Nat) (v : Option Value) (h : Heap) (L : List Loc) : Prop := v = some (.double w) ∧ Fr n0 L ∧ h = h0
theorem rm37_1 (l : Launch) (Z : State) (a0 : Array Value) (hw : ∀ d ∈ tables_1, d.before a0 Z = true) (ws : List Jvm.Cond) (p0 : Addr) (h0 : Heap) (n0 : Nat) (Z0 : n0 ≤ h0.size) (em : Addr) (SE : Sta Z Z.heap "java/util/ImmutableCollections" "EMPTY" "Ljava/lang/Object;" (.ref em)) (q : Addr) (d1 : Addr) (w : UInt64) (pm0 : Fld Z h0 p0 "com/example/inferlink/inferlink/LinkDelay" "probabilities" "Ljava/util/List;" (.ref q)) (pm1 : Exa Z h0 q "java/util/ImmutableCollections$List12") (pm2 : Fld Z h0 q "java/util/ImmutableCollections$List12" "e0" "Ljava/lang/Object;" (.ref d1)) (pm3 : Fld Z h0 q "java/util/ImmutableCollections$List12" "e1" "Ljava/lang/Object;" (.ref em)) (pm4 : Old Z n0 h0) (pm5 : Exa Z h0 d1 "java/lang/Double") (pm6 : Fld Z h0 d1 "java/lang/Double" "value" "D" (.double w)) :
    own_Met l Z (⟨"com/example/inferlink/inferlink/LinkDelay", "lost", "()D"⟩ : MethodName) prog_20_method_2_code 1 (some .double) ws ({ frames := 1, cells := 0, slots := 0, locals := 13 } : Room) #[(.ref p0)] h0 (Q37_1 Z p0 em q d1 w h0 n0) := by
  refine MetFree.of_bodySF pf_37 hisR ?_
  intro p e s m args below meth c s₁ Bd hml0 hP hK
  obtain ⟨rfl, hZ, hh⟩ := hP
  have hx := Bd.exec
  have hby := Bd.bytes
  have hlk : meth.locks = false := BodyLoose.notSynchronized Bd
  have hml : c.maxLocals = 1 := hml0
  have hown : s.vm.findClass "com/example/inferlink/inferlink/LinkDelay" = some m.cls := findClass_of_methodNamed Bd.named
  have hnm := (name_of_methodNamed Bd.named Bd.method).1
  have X0 : Stand p l e ({ frames := 1, cells := 0, slots := 0, locals := 13 } : Room) s m #[(.ref p0)] below meth c s₁ [] 0 0 := Stand.of_body Bd
  have e0 : s₁.heap = h0 := by rw [← hh, Bd.state]; rfl
  have N0 := Fr.nil n0
  show own_Go _ _ _ _ (Q37_1 Z p0 em q d1 w h0 n0) _ _ _
  refine own_by (fun _ k => castTop (ef_37_1 m p0) k) ?_
  show own_Go _ _ _ _ _ _ _ (s₁.setTop (mkF m 0 #[.val (.ref p0)] []))
  refine own_by (fun _ kz => XS.aloadN X0.here hx rfl (hb hby d37_0) rfl rfl kz) ?_
  obtain ⟨T1, X1, e1, st1⟩ := getF X0 hx hZ hown (host := "") (Or.inl (ow hw 276 rfl)) Via.refl e0 pm0 (g := (mkF m 1 #[.val (.ref p0)] [(.ref p0)])) rfl rfl (hb hby d37_1)
  refine own_by st1 ?_
  show own_Go _ _ _ _ _ _ _ (T1.setTop (mkF m 4 #[.val (.ref p0)] [(.ref q)]))
  obtain ⟨v2, T2, L2, X2, q2, st2⟩ := own_callF (xi := (⟨"java/util/List", "isEmpty", "()Z"⟩ : MethodName)) (y := (⟨"java/util/ImmutableCollections$List12", "isEmpty", "()Z"⟩ : MethodName)) X1 hx hZ hown (ow hw 120 rfl) (ow hw 121 rfl) (mvT hZ (ow hw 122 rfl)) (ow hw 283 rfl) (ow hw 284 rfl) (ow hw 285 rfl) (ow hw 286 rfl) (ow hw 287 rfl) (ow hw 245 rfl) (ow hw 288 rfl) (by decide) (rm38 l Z a0 hw [] q h0 n0 Z0 ) (W := 0) (by decide) (by decide) e1 pm1 (g := (mkF m 4 #[.val (.ref p0)] [(.ref q)])) rfl (by rw [hml]; rfl) (argsL := []) (rest := []) (lenOf pd_38 rfl) rfl rfl (by show 2 * 0 + _ ≤ _; exact Nat.le_of_eq rfl) (hb hby d37_4) (by decide) (by decide)
  obtain ⟨rfl, Nq2, hh2⟩ := q2
  have N2 := Fr.app N0 Nq2
  refine own_by st2 ?_
  show own_Go _ _ _ _ _ _ _ (T2.setTop (mkF m 9 #[.val (.ref p0)] [(.int (0 : Int32))]))
  refine own_by (fun _ kz => XS.ifYes X2.here hx rfl (pc0 := 9) (pc' := 32) rfl (hb hby d37_9) rfl ((if0 _ _).trans (teq (by decide : ((0 : Int32) = (0 : Int32)))).1) (by decide) (by decide) kz) ?_
  show own_Go _ _ _ _ _ _ _ (T2.setTop (mkF m 32 #[.val (.ref p0)] []))
  refine own_by (fun _ kz => XS.aloadN X2.here hx rfl (hb hby d37_32) rfl rfl kz) ?_
  obtain ⟨T3, X3, e3, st3⟩ := getF X2 hx hZ hown (host := "") (Or.inl (ow hw 276 rfl)) Via.refl hh2 pm0 (g := (mkF m 33 #[.val (.ref p0)] [(.ref p0)])) rfl rfl (hb hby d37_33)
  refine own_by st3 ?_
  show own_Go _ _ _ _ _ _ _ (T3.setTop (mkF m 36 #[.val (.ref p0)] [(.ref q)]))
  refine own_by (fun _ kz => XS.aloadN X3.here hx rfl (hb hby d37_36) rfl rfl kz) ?_
  obtain ⟨T4, X4, e4, st4⟩ := getF X3 hx hZ hown (host := "") (Or.inl (ow hw 276 rfl)) Via.refl e3 pm0 (g := (mkF m 37 #[.val (.ref p0)] [(.ref p0), (.ref q)])) rfl rfl (hb hby d37_37)
  refine own_by st4 ?_
  show own_Go _ _ _ _ _ _ _ (T4.setTop (mkF m 40 #[.val (.ref p0)] [(.ref q), (.ref q)]))
  obtain ⟨v5, T5, L5, X5, q5, st5⟩ := own_callF (xi := (⟨"java/util/List", "size", "()I"⟩ : MethodName)) (y := (⟨"java/util/ImmutableCollections$List12", "size", "()I"⟩ : MethodName)) X4 hx hZ hown (ow hw 289 rfl) (ow hw 290 rfl) (mvT hZ (ow hw 291 rfl)) (ow hw 292 rfl) (ow hw 293 rfl) (ow hw 294 rfl) (ow hw 295 rfl) (ow hw 287 rfl) (ow hw 245 rfl) (ow hw 296 rfl) (by decide) (rm39_1 l Z a0 hw [] q h0 n0 Z0 em SE pm3 pm4) (W := 1) (by decide) (by decide) e4 pm1 (g := (mkF m 40 #[.val (.ref p0)] [(.ref q), (.ref q)])) rfl (by rw [hml]; rfl) (argsL := []) (rest := [(.ref q)]) (lenOf pd_39 rfl) rfl rfl (by show 2 * 0 + _ ≤ _; exact Nat.le_of_eq rfl) (hb hby d37_40) (by decide) (by decide)
  obtain ⟨rfl, Nq5, hh5⟩ := q5
  have N5 := Fr.app N2 Nq5
  refine own_by st5 ?_
  show own_Go _ _ _ _ _ _ _ (T5.setTop (mkF m 45 #[.val (.ref p0)] [(.int (1 : Int32)), (.ref q)]))
  refine own_by (fun _ kz => XS.iconst X5.here hx rfl (hb hby d37_45) kz) ?_
  show own_Go _ _ _ _ _ _ _ (T5.setTop (mkF m 46 #[.val (.ref p0)] [(.int (1 : Int32)), (.int (1 : Int32)), (.ref q)]))
  refine own_by (fun _ kz => XS.isub X5.here hx rfl (hb hby d37_46) rfl kz) ?_
  show own_Go _ _ _ _ _ _ _ (T5.setTop (mkF m 47 #[.val (.ref p0)] [(.int (0 : Int32)), (.ref q)]))
  obtain ⟨v6, T6, L6, X6, q6, st6⟩ := own_callF (xi := (⟨"java/util/List", "get", "(I)Ljava/lang/Object;"⟩ : MethodName)) (y := (⟨"java/util/ImmutableCollections$List12", "get", "(I)Ljava/lang/Object;"⟩ : MethodName)) X5 hx hZ hown (ow hw 298 rfl) (ow hw 299 rfl) (mvT hZ (ow hw 300 rfl)) (ow hw 301 rfl) (ow hw 302 rfl) (ow hw 303 rfl) (ow hw 304 rfl) (ow hw 287 rfl) (ow hw 245 rfl) (ow hw 305 rfl) (by decide) (rm40_1 l Z a0 hw [] q h0 n0 Z0 d1 pm2) (W := 0) (by decide) (by decide) hh5 pm1 (g := (mkF m 47 #[.val (.ref p0)] [(.int (0 : Int32)), (.ref q)])) rfl (by rw [hml]; rfl) (argsL := [(.int (0 : Int32))]) (rest := []) (lenOf pd_40 rfl) rfl rfl (by show 2 * 0 + _ ≤ _; exact Nat.le_of_eq rfl) (hb hby d37_47) (by decide) (by decide)
  obtain ⟨rfl, Nq6, hh6⟩ := q6
  have N6 := Fr.app N5 Nq6
  refine own_by st6 ?_
  show own_Go _ _ _ _ _ _ _ (T6.setTop (mkF m 52 #[.val (.ref p0)] [(.ref d1)]))
  obtain ⟨T7, X7, e7, st7⟩ := castY X6 hx hZ hown (ow hw 185 rfl) hh6 (Ins.self pm5) (g := (mkF m 52 #[.val (.ref p0)] [(.ref d1)])) rfl rfl (hb hby d37_52)
  refine own_by st7 ?_
  show own_Go _ _ _ _ _ _ _ (T7.setTop (mkF m 55 #[.val (.ref p0)] [(.ref d1)]))
  obtain ⟨v8, T8, L8, X8, q8, st8⟩ := own_callV X7 hx hZ hown (ow hw 186 rfl) (ow hw 187 rfl) (ow hw 189 rfl) (ow hw 188 rfl) (ow hw 34 rfl) (ow hw 190 rfl) (by decide) (rm25 l Z a0 hw [] d1 h0 n0 Z0 w pm6) (W := 0) (by decide) (by decide) e7 pm5 (g := (mkF m 55 #[.val (.ref p0)] [(.ref d1)])) rfl (by rw [hml]; rfl) (argsL := []) (rest := []) (lenOf pd_25 rfl) rfl rfl (by show 2 * 0 + _ ≤ _; exact Nat.le_of_eq rfl) (hb hby d37_55) (by decide) (by decide)
  obtain ⟨rfl, Nq8, hh8⟩ := q8
  have N8 := Fr.app N6 Nq8
  refine own_by st8 ?_
  show own_Go _ _ _ _ _ _ _ (T8.setTop (mkF m 58 #[.val (.ref p0)] [(.double w)]))
  exact own_retD X8 hx hlk Bd.returns (hb hby d37_58) (by decide) (by decide) ⟨rfl, N8, hh8⟩
theorem ef_37_2 (m : MethodId) (p0 : Addr) : entryFrame m #[(.ref p0)] 1 = mkF m 0 #[.val (.ref p0)] [] := by first | (simp [entryFrame, mkF, argsToLocals, Value.category]; done) | rfl
def Q37_2 (Z : State) (p0 : Addr) (em : Addr) (q : Addr) (d2 : Addr) (w : UInt64) (h0 : Heap) (n0 : Nat) (v : Option Value) (h : Heap) (L : List Loc) : Prop := v = some (.double w) ∧ Fr n0 L ∧ h = h0
theorem rm37_2 (l : Launch) (Z : State) (a0 : Array Value) (hw : ∀ d ∈ tables_1, d.before a0 Z = true) (ws : List Jvm.Cond) (p0 : Addr) (h0 : Heap) (n0 : Nat) (Z0 : n0 ≤ h0.size) (em : Addr) (SE : Sta Z Z.heap "java/util/ImmutableCollections" "EMPTY" "Ljava/lang/Object;" (.ref em)) (q : Addr) (d2 : Addr) (w : UInt64) (pm0 : Fld Z h0 p0 "com/example/inferlink/inferlink/LinkDelay" "probabilities" "Ljava/util/List;" (.ref q)) (pm1 : Exa Z h0 q "java/util/ImmutableCollections$List12") (pm2 : Fld Z h0 q "java/util/ImmutableCollections$List12" "e1" "Ljava/lang/Object;" (.ref d2)) (pm3 : Old Z n0 h0) (pm4 : ¬ d2 = em) (pm5 : Exa Z h0 d2 "java/lang/Double") (pm6 : Fld Z h0 d2 "java/lang/Double" "value" "D" (.double w)) :
    own_Met l Z (⟨"com/example/inferlink/inferlink/LinkDelay", "lost", "()D"⟩ : MethodName) prog_20_method_2_code 1 (some .double) ws ({ frames := 1, cells := 0, slots := 0, locals := 13 } : Room) #[(.ref p0)] h0 (Q37_2 Z p0 em q d2 w h0 n0) := by
  refine MetFree.of_bodySF pf_37 hisR ?_
  intro p e s m args below meth c s₁ Bd hml0 hP hK
  obtain ⟨rfl, hZ, hh⟩ := hP
  have hx := Bd.exec
  have hby := Bd.bytes
  have hlk : meth.locks = false := BodyLoose.notSynchronized Bd
  have hml : c.maxLocals = 1 := hml0
  have hown : s.vm.findClass "com/example/inferlink/inferlink/LinkDelay" = some m.cls := findClass_of_methodNamed Bd.named
  have hnm := (name_of_methodNamed Bd.named Bd.method).1
  have X0 : Stand p l e ({ frames := 1, cells := 0, slots := 0, locals := 13 } : Room) s m #[(.ref p0)] below meth c s₁ [] 0 0 := Stand.of_body Bd
  have e0 : s₁.heap = h0 := by rw [← hh, Bd.state]; rfl
  have N0 := Fr.nil n0
  show own_Go _ _ _ _ (Q37_2 Z p0 em q d2 w h0 n0) _ _ _
  refine own_by (fun _ k => castTop (ef_37_2 m p0) k) ?_
  show own_Go _ _ _ _ _ _ _ (s₁.setTop (mkF m 0 #[.val (.ref p0)] []))
  refine own_by (fun _ kz => XS.aloadN X0.here hx rfl (hb hby d37_0) rfl rfl kz) ?_
  obtain ⟨T1, X1, e1, st1⟩ := getF X0 hx hZ hown (host := "") (Or.inl (ow hw 276 rfl)) Via.refl e0 pm0 (g := (mkF m 1 #[.val (.ref p0)] [(.ref p0)])) rfl rfl (hb hby d37_1)
  refine own_by st1 ?_
  show own_Go _ _ _ _ _ _ _ (T1.setTop (mkF m 4 #[.val (.ref p0)] [(.ref q)]))
  obtain ⟨v2, T2, L2, X2, q2, st2⟩ := own_callF (xi := (⟨"java/util/List", "isEmpty", "()Z"⟩ : MethodName)) (y := (⟨"java/util/ImmutableCollections$List12", "isEmpty", "()Z"⟩ : MethodName)) X1 hx hZ hown (ow hw 120 rfl) (ow hw 121 rfl) (mvT hZ (ow hw 122 rfl)) (ow hw 283 rfl) (ow hw 284 rfl) (ow hw 285 rfl) (ow hw 286 rfl) (ow hw 287 rfl) (ow hw 245 rfl) (ow hw 288 rfl) (by decide) (rm38 l Z a0 hw [] q h0 n0 Z0 ) (W := 0) (by decide) (by decide) e1 pm1 (g := (mkF m 4 #[.val (.ref p0)] [(.ref q)])) rfl (by rw [hml]; rfl) (argsL := []) (rest := []) (lenOf pd_38 rfl) rfl rfl (by show 2 * 0 + _ ≤ _; exact Nat.le_of_eq rfl) (hb hby d37_4) (by decide) (by decide)
  obtain ⟨rfl, Nq2, hh2⟩ := q2
  have N2 := Fr.app N0 Nq2
  refine own_by st2 ?_
  show own_Go _ _ _ _ _ _ _ (T2.setTop (mkF m 9 #[.val (.ref p0)] [(.int (0 : Int32))]))
  refine own_by (fun _ kz => XS.ifYes X2.here hx rfl (pc0 := 9) (pc' := 32) rfl (hb hby d37_9) rfl ((if0 _ _).trans (teq (by decide : ((0 : Int32) = (0 : Int32)))).1) (by decide) (by decide) kz) ?_
  show own_Go _ _ _ _ _ _ _ (T2.setTop (mkF m 32 #[.val (.ref p0)] []))
  refine own_by (fun _ kz => XS.aloadN X2.here hx rfl (hb hby d37_32) rfl rfl kz) ?_
  obtain ⟨T3, X3, e3, st3⟩ := getF X2 hx hZ hown (host := "") (Or.inl (ow hw 276 rfl)) Via.refl hh2 pm0 (g := (mkF m 33 #[.val (.ref p0)] [(.ref p0)])) rfl rfl (hb hby d37_33)
  refine own_by st3 ?_
  show own_Go _ _ _ _ _ _ _ (T3.setTop (mkF m 36 #[.val (.ref p0)] [(.ref q)]))
  refine own_by (fun _ kz => XS.aloadN X3.here hx rfl (hb hby d37_36) rfl rfl kz) ?_
  obtain ⟨T4, X4, e4, st4⟩ := getF X3 hx hZ hown (host := "") (Or.inl (ow hw 276 rfl)) Via.refl e3 pm0 (g := (mkF m 37 #[.val (.ref p0)] [(.ref p0), (.ref q)])) rfl rfl (hb hby d37_37)
  refine own_by st4 ?_
  show own_Go _ _ _ _ _ _ _ (T4.setTop (mkF m 40 #[.val (.ref p0)] [(.ref q), (.ref q)]))
  obtain ⟨v5, T5, L5, X5, q5, st5⟩ := own_callF (xi := (⟨"java/util/List", "size", "()I"⟩ : MethodName)) (y := (⟨"java/util/ImmutableCollections$List12", "size", "()I"⟩ : MethodName)) X4 hx hZ hown (ow hw 289 rfl) (ow hw 290 rfl) (mvT hZ (ow hw 291 rfl)) (ow hw 292 rfl) (ow hw 293 rfl) (ow hw 294 rfl) (ow hw 295 rfl) (ow hw 287 rfl) (ow hw 245 rfl) (ow hw 296 rfl) (by decide) (rm39_2 l Z a0 hw [] q h0 n0 Z0 em SE d2 pm2 pm3 pm4) (W := 1) (by decide) (by decide) e4 pm1 (g := (mkF m 40 #[.val (.ref p0)] [(.ref q), (.ref q)])) rfl (by rw [hml]; rfl) (argsL := []) (rest := [(.ref q)]) (lenOf pd_39 rfl) rfl rfl (by show 2 * 0 + _ ≤ _; exact Nat.le_of_eq rfl) (hb hby d37_40) (by decide) (by decide)
  obtain ⟨rfl, Nq5, hh5⟩ := q5
  have N5 := Fr.app N2 Nq5
  refine own_by st5 ?_
  show own_Go _ _ _ _ _ _ _ (T5.setTop (mkF m 45 #[.val (.ref p0)] [(.int (2 : Int32)), (.ref q)]))
  refine own_by (fun _ kz => XS.iconst X5.here hx rfl (hb hby d37_45) kz) ?_
  show own_Go _ _ _ _ _ _ _ (T5.setTop (mkF m 46 #[.val (.ref p0)] [(.int (1 : Int32)), (.int (2 : Int32)), (.ref q)]))
  refine own_by (fun _ kz => XS.isub X5.here hx rfl (hb hby d37_46) rfl kz) ?_
  show own_Go _ _ _ _ _ _ _ (T5.setTop (mkF m 47 #[.val (.ref p0)] [(.int (1 : Int32)), (.ref q)]))
  obtain ⟨v6, T6, L6, X6, q6, st6⟩ := own_callF (xi := (⟨"java/util/List", "get", "(I)Ljava/lang/Object;"⟩ : MethodName)) (y := (⟨"java/util/ImmutableCollections$List12", "get", "(I)Ljava/lang/Object;"⟩ : MethodName)) X5 hx hZ hown (ow hw 298 rfl) (ow hw 299 rfl) (mvT hZ (ow hw 300 rfl)) (ow hw 301 rfl) (ow hw 302 rfl) (ow hw 303 rfl) (ow hw 304 rfl) (ow hw 287 rfl) (ow hw 245 rfl) (ow hw 305 rfl) (by decide) (rm40_2 l Z a0 hw [] q h0 n0 Z0 em SE d2 pm2 pm3 pm4) (W := 0) (by decide) (by decide) hh5 pm1 (g := (mkF m 47 #[.val (.ref p0)] [(.int (1 : Int32)), (.ref q)])) rfl (by rw [hml]; rfl) (argsL := [(.int (1 : Int32))]) (rest := []) (lenOf pd_40 rfl) rfl rfl (by show 2 * 0 + _ ≤ _; exact Nat.le_of_eq rfl) (hb hby d37_47) (by decide) (by decide)
  obtain ⟨rfl, Nq6, hh6⟩ := q6
  have N6 := Fr.app N5 Nq6
  refine own_by st6 ?_
  show own_Go _ _ _ _ _ _ _ (T6.setTop (mkF m 52 #[.val (.ref p0)] [(.ref d2)]))
  obtain ⟨T7, X7, e7, st7⟩ := castY X6 hx hZ hown (ow hw 185 rfl) hh6 (Ins.self pm5) (g := (mkF m 52 #[.val (.ref p0)] [(.ref d2)])) rfl rfl (hb hby d37_52)
  refine own_by st7 ?_
  show own_Go _ _ _ _ _ _ _ (T7.setTop (mkF m 55 #[.val (.ref p0)] [(.ref d2)]))
  obtain ⟨v8, T8, L8, X8, q8, st8⟩ := own_callV X7 hx hZ hown (ow hw 186 rfl) (ow hw 187 rfl) (ow hw 189 rfl) (ow hw 188 rfl) (ow hw 34 rfl) (ow hw 190 rfl) (by decide) (rm25 l Z a0 hw [] d2 h0 n0 Z0 w pm6) (W := 0) (by decide) (by decide) e7 pm5 (g := (mkF m 55 #[.val (.ref p0)] [(.ref d2)])) rfl (by rw [hml]; rfl) (argsL := []) (rest := []) (lenOf pd_25 rfl) rfl rfl (by show 2 * 0 + _ ≤ _; exact Nat.le_of_eq rfl) (hb hby d37_55) (by decide) (by decide)
  obtain ⟨rfl, Nq8, hh8⟩ := q8
  have N8 := Fr.app N6 Nq8
  refine own_by st8 ?_
  show own_Go _ _ _ _ _ _ _ (T8.setTop (mkF m 58 #[.val (.ref p0)] [(.double w)]))
  exact own_retD X8 hx hlk Bd.returns (hb hby d37_58) (by decide) (by decide) ⟨rfl, N8, hh8⟩
theorem ef_37_3 (m : MethodId) (p0 : Addr) : entryFrame m #[(.ref p0)] 1 = mkF m 0 #[.val (.ref p0)] [] := by first | (simp [entryFrame, mkF, argsToLocals, Value.category]; done) | rfl
def Q37_3 (Z : State) (p0 : Addr) (q : Addr) (ra : Addr) (kC : ClassId) (d1 : Addr) (d2 : Addr) (d3 : Addr) (w : UInt64) (h0 : Heap) (n0 : Nat) (v : Option Value) (h : Heap) (L : List Loc) : Prop := v = some (.double w) ∧ Fr n0 L ∧ h = h0
theorem rm37_3 (l : Launch) (Z : State) (a0 : Array Value) (hw : ∀ d ∈ tables_1, d.before a0 Z = true) (ws : List Jvm.Cond) (p0 : Addr) (h0 : Heap) (n0 : Nat) (Z0 : n0 ≤ h0.size) (q : Addr) (ra : Addr) (kC : ClassId) (d1 : Addr) (d2 : Addr) (d3 : Addr) (w : UInt64) (pm0 : Fld Z h0 p0 "com/example/inferlink/inferlink/LinkDelay" "probabilities" "Ljava/util/List;" (.ref q)) (pm1 : Exa Z h0 q "java/util/ImmutableCollections$ListN") (pm2 : Fld Z h0 q "java/util/ImmutableCollections$ListN" "elements" "[Ljava/lang/Object;" (.ref ra)) (pm3 : Arv Z h0 ra kC (.object "java/lang/Object") (3 : Int32) [(.ref d1), (.ref d2), (.ref d3)] .null) (pm4 : Exa Z h0 d3 "java/lang/Double") (pm5 : Fld Z h0 d3 "java/lang/Double" "value" "D" (.double w)) :
    own_Met l Z (⟨"com/example/inferlink/inferlink/LinkDelay", "lost", "()D"⟩ : MethodName) prog_20_method_2_code 1 (some .double) ws ({ frames := 1, cells := 0, slots := 0, locals := 13 } : Room) #[(.ref p0)] h0 (Q37_3 Z p0 q ra kC d1 d2 d3 w h0 n0) := by
  refine MetFree.of_bodySF pf_37 hisR ?_
  intro p e s m args below meth c s₁ Bd hml0 hP hK
  obtain ⟨rfl, hZ, hh⟩ := hP
  have hx := Bd.exec
  have hby := Bd.bytes
  have hlk : meth.locks = false := BodyLoose.notSynchronized Bd
  have hml : c.maxLocals = 1 := hml0
  have hown : s.vm.findClass "com/example/inferlink/inferlink/LinkDelay" = some m.cls := findClass_of_methodNamed Bd.named
  have hnm := (name_of_methodNamed Bd.named Bd.method).1
  have X0 : Stand p l e ({ frames := 1, cells := 0, slots := 0, locals := 13 } : Room) s m #[(.ref p0)] below meth c s₁ [] 0 0 := Stand.of_body Bd
  have e0 : s₁.heap = h0 := by rw [← hh, Bd.state]; rfl
  have N0 := Fr.nil n0
  show own_Go _ _ _ _ (Q37_3 Z p0 q ra kC d1 d2 d3 w h0 n0) _ _ _
  refine own_by (fun _ k => castTop (ef_37_3 m p0) k) ?_
  show own_Go _ _ _ _ _ _ _ (s₁.setTop (mkF m 0 #[.val (.ref p0)] []))
  refine own_by (fun _ kz => XS.aloadN X0.here hx rfl (hb hby d37_0) rfl rfl kz) ?_
  obtain ⟨T1, X1, e1, st1⟩ := getF X0 hx hZ hown (host := "") (Or.inl (ow hw 276 rfl)) Via.refl e0 pm0 (g := (mkF m 1 #[.val (.ref p0)] [(.ref p0)])) rfl rfl (hb hby d37_1)
  refine own_by st1 ?_
  show own_Go _ _ _ _ _ _ _ (T1.setTop (mkF m 4 #[.val (.ref p0)] [(.ref q)]))
  obtain ⟨v2, T2, L2, X2, q2, st2⟩ := own_callF (xi := (⟨"java/util/List", "isEmpty", "()Z"⟩ : MethodName)) (y := (⟨"java/util/ImmutableCollections$ListN", "isEmpty", "()Z"⟩ : MethodName)) X1 hx hZ hown (ow hw 120 rfl) (ow hw 121 rfl) (mvT hZ (ow hw 122 rfl)) (ow hw 330 rfl) (ow hw 331 rfl) (ow hw 332 rfl) (ow hw 333 rfl) (ow hw 334 rfl) (ow hw 317 rfl) (ow hw 335 rfl) (by decide) (rm44 l Z a0 hw [] q h0 n0 Z0 ra kC d1 d2 d3 pm2 pm3) (W := 0) (by decide) (by decide) e1 pm1 (g := (mkF m 4 #[.val (.ref p0)] [(.ref q)])) rfl (by rw [hml]; rfl) (argsL := []) (rest := []) (lenOf pd_44 rfl) rfl rfl (by show 2 * 0 + _ ≤ _; exact Nat.le_of_eq rfl) (hb hby d37_4) (by decide) (by decide)
  obtain ⟨rfl, Nq2, hh2⟩ := q2
  have N2 := Fr.app N0 Nq2
  refine own_by st2 ?_
  show own_Go _ _ _ _ _ _ _ (T2.setTop (mkF m 9 #[.val (.ref p0)] [(.int (0 : Int32))]))
  refine own_by (fun _ kz => XS.ifYes X2.here hx rfl (pc0 := 9) (pc' := 32) rfl (hb hby d37_9) rfl ((if0 _ _).trans (teq (by decide : ((0 : Int32) = (0 : Int32)))).1) (by decide) (by decide) kz) ?_
  show own_Go _ _ _ _ _ _ _ (T2.setTop (mkF m 32 #[.val (.ref p0)] []))
  refine own_by (fun _ kz => XS.aloadN X2.here hx rfl (hb hby d37_32) rfl rfl kz) ?_
  obtain ⟨T3, X3, e3, st3⟩ := getF X2 hx hZ hown (host := "") (Or.inl (ow hw 276 rfl)) Via.refl hh2 pm0 (g := (mkF m 33 #[.val (.ref p0)] [(.ref p0)])) rfl rfl (hb hby d37_33)
  refine own_by st3 ?_
  show own_Go _ _ _ _ _ _ _ (T3.setTop (mkF m 36 #[.val (.ref p0)] [(.ref q)]))
  refine own_by (fun _ kz => XS.aloadN X3.here hx rfl (hb hby d37_36) rfl rfl kz) ?_
  obtain ⟨T4, X4, e4, st4⟩ := getF X3 hx hZ hown (host := "") (Or.inl (ow hw 276 rfl)) Via.refl e3 pm0 (g := (mkF m 37 #[.val (.ref p0)] [(.ref p0), (.ref q)])) rfl rfl (hb hby d37_37)
  refine own_by st4 ?_
  show own_Go _ _ _ _ _ _ _ (T4.setTop (mkF m 40 #[.val (.ref p0)] [(.ref q), (.ref q)]))
  obtain ⟨v5, T5, L5, X5, q5, st5⟩ := own_callF (xi := (⟨"java/util/List", "size", "()I"⟩ : MethodName)) (y := (⟨"java/util/ImmutableCollections$ListN", "size", "()I"⟩ : MethodName)) X4 hx hZ hown (ow hw 289 rfl) (ow hw 290 rfl) (mvT hZ (ow hw 291 rfl)) (ow hw 336 rfl) (ow hw 337 rfl) (ow hw 338 rfl) (ow hw 339 rfl) (ow hw 334 rfl) (ow hw 317 rfl) (ow hw 340 rfl) (by decide) (rm45 l Z a0 hw [] q h0 n0 Z0 ra kC d1 d2 d3 pm2 pm3) (W := 1) (by decide) (by decide) e4 pm1 (g := (mkF m 40 #[.val (.ref p0)] [(.ref q), (.ref q)])) rfl (by rw [hml]; rfl) (argsL := []) (rest := [(.ref q)]) (lenOf pd_45 rfl) rfl rfl (by show 2 * 0 + _ ≤ _; exact Nat.le_of_eq rfl) (hb hby d37_40) (by decide) (by decide)
  obtain ⟨rfl, Nq5, hh5⟩ := q5
  have N5 := Fr.app N2 Nq5
  refine own_by st5 ?_
  show own_Go _ _ _ _ _ _ _ (T5.setTop (mkF m 45 #[.val (.ref p0)] [(.int (3 : Int32)), (.ref q)]))
  refine own_by (fun _ kz => XS.iconst X5.here hx rfl (hb hby d37_45) kz) ?_
  show own_Go _ _ _ _ _ _ _ (T5.setTop (mkF m 46 #[.val (.ref p0)] [(.int (1 : Int32)), (.int (3 : Int32)), (.ref q)]))
  refine own_by (fun _ kz => XS.isub X5.here hx rfl (hb hby d37_46) rfl kz) ?_
  show own_Go _ _ _ _ _ _ _ (T5.setTop (mkF m 47 #[.val (.ref p0)] [(.int (2 : Int32)), (.ref q)]))
  obtain ⟨v6, T6, L6, X6, q6, st6⟩ := own_callF (xi := (⟨"java/util/List", "get", "(I)Ljava/lang/Object;"⟩ : MethodName)) (y := (⟨"java/util/ImmutableCollections$ListN", "get", "(I)Ljava/lang/Object;"⟩ : MethodName)) X5 hx hZ hown (ow hw 298 rfl) (ow hw 299 rfl) (mvT hZ (ow hw 300 rfl)) (ow hw 341 rfl) (ow hw 342 rfl) (ow hw 343 rfl) (ow hw 344 rfl) (ow hw 334 rfl) (ow hw 317 rfl) (ow hw 345 rfl) (by decide) (rm46 l Z a0 hw [] q h0 n0 Z0 ra kC d1 d2 d3 pm2 pm3) (W := 0) (by decide) (by decide) hh5 pm1 (g := (mkF m 47 #[.val (.ref p0)] [(.int (2 : Int32)), (.ref q)])) rfl (by rw [hml]; rfl) (argsL := [(.int (2 : Int32))]) (rest := []) (lenOf pd_46 rfl) rfl rfl (by show 2 * 0 + _ ≤ _; exact Nat.le_of_eq rfl) (hb hby d37_47) (by decide) (by decide)
  obtain ⟨rfl, Nq6, hh6⟩ := q6
  have N6 := Fr.app N5 Nq6
  refine own_by st6 ?_
  show own_Go _ _ _ _ _ _ _ (T6.setTop (mkF m 52 #[.val (.ref p0)] [(.ref d3)]))
  obtain ⟨T7, X7, e7, st7⟩ := castY X6 hx hZ hown (ow hw 185 rfl) hh6 (Ins.self pm4) (g := (mkF m 52 #[.val (.ref p0)] [(.ref d3)])) rfl rfl (hb hby d37_52)
  refine own_by st7 ?_
  show own_Go _ _ _ _ _ _ _ (T7.setTop (mkF m 55 #[.val (.ref p0)] [(.ref d3)]))
  obtain ⟨v8, T8, L8, X8, q8, st8⟩ := own_callV X7 hx hZ hown (ow hw 186 rfl) (ow hw 187 rfl) (ow hw 189 rfl) (ow hw 188 rfl) (ow hw 34 rfl) (ow hw 190 rfl) (by decide) (rm25 l Z a0 hw [] d3 h0 n0 Z0 w pm5) (W := 0) (by decide) (by decide) e7 pm4 (g := (mkF m 55 #[.val (.ref p0)] [(.ref d3)])) rfl (by rw [hml]; rfl) (argsL := []) (rest := []) (lenOf pd_25 rfl) rfl rfl (by show 2 * 0 + _ ≤ _; exact Nat.le_of_eq rfl) (hb hby d37_55) (by decide) (by decide)
  obtain ⟨rfl, Nq8, hh8⟩ := q8
  have N8 := Fr.app N6 Nq8
  refine own_by st8 ?_
  show own_Go _ _ _ _ _ _ _ (T8.setTop (mkF m 58 #[.val (.ref p0)] [(.double w)]))
  exact own_retD X8 hx hlk Bd.returns (hb hby d37_58) (by decide) (by decide) ⟨rfl, N8, hh8⟩
/-- a probability -/
def own_In (w : UInt64) : Prop := (¬ (cmpValue (FP.dcmp w FP.dconst0) .l) < (0 : Int32)) ∧ ¬ (0 : Int32) < (cmpValue (FP.dcmp w FP.dconst1) .g)
theorem d17_0 : decode prog_20_method_1_code 0 = .ok (.aload_n 0, 1) := by decide +kernel
theorem d17_1 : decode prog_20_method_1_code 1 = .ok (.invokespecial 1, 3) := by decide +kernel
theorem d17_4 : decode prog_20_method_1_code 4 = .ok (.aload_n 3, 1) := by decide +kernel
theorem d17_5 : decode prog_20_method_1_code 5 = .ok (.invokeinterface 7 1, 5) := by decide +kernel
theorem d17_10 : decode prog_20_method_1_code 10 = .ok (.aload_n 2, 1) := by decide +kernel
theorem d17_11 : decode prog_20_method_1_code 11 = .ok (.invokevirtual 13, 3) := by decide +kernel
theorem d17_14 : decode prog_20_method_1_code 14 = .ok (.if_icmp .ne 24, 3) := by decide +kernel
theorem d17_38 : decode prog_20_method_1_code 38 = .ok (.aload_n 3, 1) := by decide +kernel
theorem d17_39 : decode prog_20_method_1_code 39 = .ok (.invokeinterface 37 1, 5) := by decide +kernel
theorem d17_44 : decode prog_20_method_1_code 44 = .ok (.astore 4, 2) := by decide +kernel
theorem d17_46 : decode prog_20_method_1_code 46 = .ok (.aload 4, 2) := by decide +kernel
theorem d17_48 : decode prog_20_method_1_code 48 = .ok (.invokeinterface 41 1, 5) := by decide +kernel
theorem d17_53 : decode prog_20_method_1_code 53 = .ok (.ifCond .eq 50, 3) := by decide +kernel
theorem d17_56 : decode prog_20_method_1_code 56 = .ok (.aload 4, 2) := by decide +kernel
theorem d17_58 : decode prog_20_method_1_code 58 = .ok (.invokeinterface 46 1, 5) := by decide +kernel
theorem d17_63 : decode prog_20_method_1_code 63 = .ok (.checkcast 50, 3) := by decide +kernel
theorem d17_66 : decode prog_20_method_1_code 66 = .ok (.invokevirtual 52, 3) := by decide +kernel
theorem d17_69 : decode prog_20_method_1_code 69 = .ok (.dstore 5, 2) := by decide +kernel
theorem d17_71 : decode prog_20_method_1_code 71 = .ok (.dload 5, 2) := by decide +kernel
theorem d17_73 : decode prog_20_method_1_code 73 = .ok (.dconst 0, 1) := by decide +kernel
theorem d17_74 : decode prog_20_method_1_code 74 = .ok (.dcmp .l, 1) := by decide +kernel
theorem d17_75 : decode prog_20_method_1_code 75 = .ok (.ifCond .lt 10, 3) := by decide +kernel
theorem d17_78 : decode prog_20_method_1_code 78 = .ok (.dload 5, 2) := by decide +kernel
theorem d17_80 : decode prog_20_method_1_code 80 = .ok (.dconst 1, 1) := by decide +kernel
theorem d17_81 : decode prog_20_method_1_code 81 = .ok (.dcmp .g, 1) := by decide +kernel
theorem d17_82 : decode prog_20_method_1_code 82 = .ok (.ifCond .le 18, 3) := by decide +kernel
theorem d17_100 : decode prog_20_method_1_code 100 = .ok (.goto (-54), 3) := by decide +kernel
theorem d17_103 : decode prog_20_method_1_code 103 = .ok (.aload_n 3, 1) := by decide +kernel
theorem d17_104 : decode prog_20_method_1_code 104 = .ok (.invokestatic 59, 3) := by decide +kernel
theorem d17_107 : decode prog_20_method_1_code 107 = .ok (.astore_n 3, 1) := by decide +kernel
theorem d17_108 : decode prog_20_method_1_code 108 = .ok (.aload_n 0, 1) := by decide +kernel
theorem d17_109 : decode prog_20_method_1_code 109 = .ok (.aload_n 1, 1) := by decide +kernel
theorem d17_110 : decode prog_20_method_1_code 110 = .ok (.putfield 63, 3) := by decide +kernel
theorem d17_113 : decode prog_20_method_1_code 113 = .ok (.aload_n 0, 1) := by decide +kernel
theorem d17_114 : decode prog_20_method_1_code 114 = .ok (.aload_n 2, 1) := by decide +kernel
theorem d17_115 : decode prog_20_method_1_code 115 = .ok (.putfield 69, 3) := by decide +kernel
theorem d17_118 : decode prog_20_method_1_code 118 = .ok (.aload_n 0, 1) := by decide +kernel
theorem d17_119 : decode prog_20_method_1_code 119 = .ok (.aload_n 3, 1) := by decide +kernel
theorem d17_120 : decode prog_20_method_1_code 120 = .ok (.putfield 73, 3) := by decide +kernel
theorem d17_123 : decode prog_20_method_1_code 123 = .ok (.return_, 1) := by decide +kernel
theorem pf_17 : plainFor (⟨"com/example/inferlink/inferlink/LinkDelay", "<init>", "(Lcom/example/inferlink/inferlink/Link;Lcom/example/inferlink/inferlink/LinkStatus;Ljava/util/List;)V"⟩ : MethodName) = true := by first | exact plainFor_of_name (by first | (simp [plainName, overriddenIn]; done) | decide +kernel) | decide +kernel
theorem pd_17 : parseMethodDescriptor "(Lcom/example/inferlink/inferlink/Link;Lcom/example/inferlink/inferlink/LinkStatus;Ljava/util/List;)V" = some ⟨[(.object "com/example/inferlink/inferlink/Link"), (.object "com/example/inferlink/inferlink/LinkStatus"), (.object "java/util/List")], none⟩ := by decide +kernel
theorem ef_17_1 (m : MethodId) (p0 : Addr) (p1 : Addr) (p2 : Addr) (p3 : Addr) : entryFrame m #[(.ref p0), (.ref p1), (.ref p2), (.ref p3)] 7 = mkF m 0 #[.val (.ref p0), .val (.ref p1), .val (.ref p2), .val (.ref p3), .unset, .unset, .unset] [] := by first | (simp [entryFrame, mkF, argsToLocals, Value.category]; done) | rfl
def Q17_1 (Z : State) (p0 : Addr) (p1 : Addr) (p2 : Addr) (p3 : Addr) (em : Addr) (mr : Addr) (ea : Addr) (kA : ClassId) (d1 : Addr) (w1 : UInt64) (h0 : Heap) (n0 : Nat) (v : Option Value) (h : Heap) (L : List Loc) : Prop := ∃ (r : Addr), v = none ∧ Fr n0 L ∧ Keep h0 h [p0] ∧ Fld Z h p0 "com/example/inferlink/inferlink/LinkDelay" "probabilities" "Ljava/util/List;" (.ref r) ∧ h0.size ≤ r ∧ Exa Z h r "java/util/ImmutableCollections$List12" ∧ Fld Z h r "java/util/ImmutableCollections$List12" "e0" "Ljava/lang/Object;" (.ref d1) ∧ Fld Z h r "java/util/ImmutableCollections$List12" "e1" "Ljava/lang/Object;" (.ref em)
theorem rm17_1 (l : Launch) (Z : State) (a0 : Array Value) (hw : ∀ d ∈ tables_1, d.before a0 Z = true) (ws : List Jvm.Cond) (p0 : Addr) (p1 : Addr) (p2 : Addr) (p3 : Addr) (h0 : Heap) (n0 : Nat) (Z0 : n0 ≤ h0.size) (em : Addr) (SE : Sta Z Z.heap "java/util/ImmutableCollections" "EMPTY" "Ljava/lang/Object;" (.ref em)) (mr : Addr) (MI : own_Mi Z "[Ljava/lang/Object;" mr) (ea : Addr) (kA : ClassId) (d1 : Addr) (w1 : UInt64) (pm0 : Exa Z h0 p0 "com/example/inferlink/inferlink/LinkDelay") (pm1 : Fld Z h0 p0 "com/example/inferlink/inferlink/LinkDelay" "link" "Lcom/example/inferlink/inferlink/Link;" .null) (pm2 : Fld Z h0 p0 "com/example/inferlink/inferlink/LinkDelay" "status" "Lcom/example/inferlink/inferlink/LinkStatus;" .null) (pm3 : Fld Z h0 p0 "com/example/inferlink/inferlink/LinkDelay" "probabilities" "Ljava/util/List;" .null) (pm4 : n0 ≤ p0) (pm5 : Exa Z h0 p2 "com/example/inferlink/inferlink/LinkStatus") (pm6 : Fld Z h0 p2 "com/example/inferlink/inferlink/LinkStatus" "hasSuccess" "Z" (.int (1 : Int32))) (pm7 : Exa Z h0 p3 "java/util/ArrayList") (pm8 : Fld Z h0 p3 "java/util/AbstractList" "modCount" "I" (.int (1 : Int32))) (pm9 : Fld Z h0 p3 "java/util/ArrayList" "elementData" "[Ljava/lang/Object;" (.ref ea)) (pm10 : Fld Z h0 p3 "java/util/ArrayList" "size" "I" (.int (1 : Int32))) (pm11 : Exa Z h0 ea "[Ljava/lang/Object;") (pm12 : Arv Z h0 ea kA (.object "java/lang/Object") (10 : Int32) [(.ref d1), .null, .null, .null, .null, .null, .null, .null, .null, .null] .null) (pm13 : Exa Z h0 d1 "java/lang/Double") (pm14 : Fld Z h0 d1 "java/lang/Double" "value" "D" (.double w1)) (pm15 : own_In w1) (pm16 : Old Z n0 h0) :
    own_Met l Z (⟨"com/example/inferlink/inferlink/LinkDelay", "<init>", "(Lcom/example/inferlink/inferlink/Link;Lcom/example/inferlink/inferlink/LinkStatus;Ljava/util/List;)V"⟩ : MethodName) prog_20_method_1_code 7 none ws ({ frames := 8, cells := 3, slots := 7, locals := 105 } : Room) #[(.ref p0), (.ref p1), (.ref p2), (.ref p3)] h0 (Q17_1 Z p0 p1 p2 p3 em mr ea kA d1 w1 h0 n0) := by
  refine MetFree.of_bodySF pf_17 hisR ?_
  intro p e s m args below meth c s₁ Bd hml0 hP hK
  obtain ⟨rfl, hZ, hh⟩ := hP
  have hx := Bd.exec
  have hby := Bd.bytes
  have hlk : meth.locks = false := BodyLoose.notSynchronized Bd
  have hml : c.maxLocals = 7 := hml0
  have hown : s.vm.findClass "com/example/inferlink/inferlink/LinkDelay" = some m.cls := findClass_of_methodNamed Bd.named
  have hnm := (name_of_methodNamed Bd.named Bd.method).1
  have X0 : Stand p l e ({ frames := 8, cells := 3, slots := 7, locals := 105 } : Room) s m #[(.ref p0), (.ref p1), (.ref p2), (.ref p3)] below meth c s₁ [] 0 0 := Stand.of_body Bd
  have e0 : s₁.heap = h0 := by rw [← hh, Bd.state]; rfl
  have N0 := Fr.nil n0
  have K0 := Keep.refl h0 [p0]
  show own_Go _ _ _ _ (Q17_1 Z p0 p1 p2 p3 em mr ea kA d1 w1 h0 n0) _ _ _
  refine own_by (fun _ k => castTop (ef_17_1 m p0 p1 p2 p3) k) ?_
  show own_Go _ _ _ _ _ _ _ (s₁.setTop (mkF m 0 #[.val (.ref p0), .val (.ref p1), .val (.ref p2), .val (.ref p3), .unset, .unset, .unset] []))
  refine own_by (fun _ kz => XS.aloadN X0.here hx rfl (hb hby d17_0) rfl rfl kz) ?_
  show own_Go _ _ _ _ _ _ _ (s₁.setTop (mkF m 1 #[.val (.ref p0), .val (.ref p1), .val (.ref p2), .val (.ref p3), .unset, .unset, .unset] [(.ref p0)]))
  obtain ⟨v1, T1, L1, X1, q1, st1⟩ := own_callI X0 hx hZ rfl hown (ow hw 119 rfl) (ow hw 101 rfl) (ow hw 103 rfl) (ow hw 104 rfl) (by decide) (rm15 l Z a0 hw [] p0 h0 n0 Z0 ) (W := 0) (by decide) (by decide) e0 (g := (mkF m 1 #[.val (.ref p0), .val (.ref p1), .val (.ref p2), .val (.ref p3), .unset, .unset, .unset] [(.ref p0)])) rfl (by rw [hml]; rfl) (a := p0) (argsL := []) (rest := []) (lenOf pd_15 rfl) rfl rfl (by show 2 * 0 + _ ≤ _; exact Nat.le_of_eq rfl) (hb hby d17_1) (by decide) (by decide)
  obtain ⟨rfl, Nq1, hh1⟩ := q1
  have N1 := Fr.app N0 Nq1
  refine own_by st1 ?_
  show own_Go _ _ _ _ _ _ _ (T1.setTop (mkF m 4 #[.val (.ref p0), .val (.ref p1), .val (.ref p2), .val (.ref p3), .unset, .unset, .unset] []))
  refine own_by (fun _ kz => XS.aloadN X1.here hx rfl (hb hby d17_4) rfl rfl kz) ?_
  show own_Go _ _ _ _ _ _ _ (T1.setTop (mkF m 5 #[.val (.ref p0), .val (.ref p1), .val (.ref p2), .val (.ref p3), .unset, .unset, .unset] [(.ref p3)]))
  obtain ⟨v2, T2, L2, X2, q2, st2⟩ := own_callF (xi := (⟨"java/util/List", "isEmpty", "()Z"⟩ : MethodName)) (y := (⟨"java/util/ArrayList", "isEmpty", "()Z"⟩ : MethodName)) X1 hx hZ hown (ow hw 120 rfl) (ow hw 121 rfl) (mvT hZ (ow hw 122 rfl)) (ow hw 123 rfl) (ow hw 124 rfl) (ow hw 125 rfl) (ow hw 126 rfl) (ow hw 127 rfl) (ow hw 8 rfl) (ow hw 128 rfl) (by decide) (rm18 l Z a0 hw [] p3 h0 n0 Z0 (1 : Int32) pm10 (by decide)) (W := 0) (by decide) (by decide) hh1 pm7 (g := (mkF m 5 #[.val (.ref p0), .val (.ref p1), .val (.ref p2), .val (.ref p3), .unset, .unset, .unset] [(.ref p3)])) rfl (by rw [hml]; rfl) (argsL := []) (rest := []) (lenOf pd_18 rfl) rfl rfl (by show 2 * 0 + _ ≤ _; exact Nat.le_of_eq rfl) (hb hby d17_5) (by decide) (by decide)
  obtain ⟨rfl, Nq2, hh2⟩ := q2
  have N2 := Fr.app N1 Nq2
  refine own_by st2 ?_
  show own_Go _ _ _ _ _ _ _ (T2.setTop (mkF m 10 #[.val (.ref p0), .val (.ref p1), .val (.ref p2), .val (.ref p3), .unset, .unset, .unset] [(.int (0 : Int32))]))
  refine own_by (fun _ kz => XS.aloadN X2.here hx rfl (hb hby d17_10) rfl rfl kz) ?_
  show own_Go _ _ _ _ _ _ _ (T2.setTop (mkF m 11 #[.val (.ref p0), .val (.ref p1), .val (.ref p2), .val (.ref p3), .unset, .unset, .unset] [(.ref p2), (.int (0 : Int32))]))
  obtain ⟨v3, T3, L3, X3, q3, st3⟩ := own_callV X2 hx hZ hown (ow hw 129 rfl) (ow hw 130 rfl) (ow hw 132 rfl) (ow hw 131 rfl) (ow hw 114 rfl) (ow hw 133 rfl) (by decide) (rm19 l Z a0 hw [] p2 h0 n0 Z0 pm6) (W := 1) (by decide) (by decide) hh2 pm5 (g := (mkF m 11 #[.val (.ref p0), .val (.ref p1), .val (.ref p2), .val (.ref p3), .unset, .unset, .unset] [(.ref p2), (.int (0 : Int32))])) rfl (by rw [hml]; rfl) (argsL := []) (rest := [(.int (0 : Int32))]) (lenOf pd_19 rfl) rfl rfl (by show 2 * 0 + _ ≤ _; exact Nat.le_of_eq rfl) (hb hby d17_11) (by decide) (by decide)
  obtain ⟨rfl, Nq3, hh3⟩ := q3
  have N3 := Fr.app N2 Nq3
  refine own_by st3 ?_
  show own_Go _ _ _ _ _ _ _ (T3.setTop (mkF m 14 #[.val (.ref p0), .val (.ref p1), .val (.ref p2), .val (.ref p3), .unset, .unset, .unset] [(.int (1 : Int32)), (.int (0 : Int32))]))
  refine own_by (fun _ kz => XS.icmpYes X3.here hx rfl (pc0 := 14) (pc' := 38) rfl (hb hby d17_14) rfl (feq (by decide : ¬ ((0 : Int32) = (1 : Int32)))).2 (by decide) (by decide) kz) ?_
  show own_Go _ _ _ _ _ _ _ (T3.setTop (mkF m 38 #[.val (.ref p0), .val (.ref p1), .val (.ref p2), .val (.ref p3), .unset, .unset, .unset] []))
  refine own_by (fun _ kz => XS.aloadN X3.here hx rfl (hb hby d17_38) rfl rfl kz) ?_
  show own_Go _ _ _ _ _ _ _ (T3.setTop (mkF m 39 #[.val (.ref p0), .val (.ref p1), .val (.ref p2), .val (.ref p3), .unset, .unset, .unset] [(.ref p3)]))
  obtain ⟨v4, T4, L4, X4, q4, st4⟩ := own_callF (xi := (⟨"java/util/List", "iterator", "()Ljava/util/Iterator;"⟩ : MethodName)) (y := (⟨"java/util/ArrayList", "iterator", "()Ljava/util/Iterator;"⟩ : MethodName)) X3 hx hZ hown (ow hw 136 rfl) (ow hw 137 rfl) (mvT hZ (ow hw 138 rfl)) (ow hw 139 rfl) (ow hw 140 rfl) (ow hw 141 rfl) (ow hw 142 rfl) (ow hw 127 rfl) (ow hw 8 rfl) (ow hw 143 rfl) (by decide) (rm20 l Z a0 hw [] p3 h0 n0 Z0 (1 : Int32) pm8) (W := 0) (by decide) (by decide) hh3 pm7 (g := (mkF m 39 #[.val (.ref p0), .val (.ref p1), .val (.ref p2), .val (.ref p3), .unset, .unset, .unset] [(.ref p3)])) rfl (by rw [hml]; rfl) (argsL := []) (rest := []) (lenOf pd_20 rfl) rfl rfl (by show 2 * 0 + _ ≤ _; exact Nat.le_of_eq rfl) (hb hby d17_39) (by decide) (by decide)
  obtain ⟨r4, rfl, Nq4, Kq4, o4_0, o4_1, o4_2, o4_3, o4_4, o4_5⟩ := q4
  have N4 := Fr.app N3 Nq4
  have Z4 : n0 ≤ T4.heap.size := Nat.le_trans Z0 Kq4.1
  have K4 := K0.trans Kq4 all0
  have O4 := pm16.keep Kq4 all0
  have pm0_h4 := pm0.keep Kq4
  have pm1_h4 := pm1.keep Kq4 nin0
  have pm2_h4 := pm2.keep Kq4 nin0
  have pm3_h4 := pm3.keep Kq4 nin0
  have pm7_h4 := pm7.keep Kq4
  have pm8_h4 := pm8.keep Kq4 nin0
  have pm9_h4 := pm9.keep Kq4 nin0
  have pm10_h4 := pm10.keep Kq4 nin0
  have pm11_h4 := pm11.keep Kq4
  have pm12_h4 := pm12.keep Kq4 nin0
  have pm13_h4 := pm13.keep Kq4
  have pm14_h4 := pm14.keep Kq4 nin0
  have ge_r4 : n0 ≤ r4 := Nat.le_trans Z0 o4_0
  have sz_r4 : h0.size ≤ r4 := Nat.le_trans K0.1 o4_0
  have ne_p0_r4 : p0 ≠ r4 := Nat.ne_of_lt (Nat.lt_of_lt_of_le pm0.lt o4_0)
  have ne_p3_r4 : p3 ≠ r4 := Nat.ne_of_lt (Nat.lt_of_lt_of_le pm7.lt o4_0)
  have ne_ea_r4 : ea ≠ r4 := Nat.ne_of_lt (Nat.lt_of_lt_of_le pm11.lt o4_0)
  have ne_d1_r4 : d1 ≠ r4 := Nat.ne_of_lt (Nat.lt_of_lt_of_le pm13.lt o4_0)
  refine own_by st4 ?_
  show own_Go _ _ _ _ _ _ _ (T4.setTop (mkF m 44 #[.val (.ref p0), .val (.ref p1), .val (.ref p2), .val (.ref p3), .unset, .unset, .unset] [(.ref r4)]))
  refine own_by (fun _ kz => XS.astore X4.here hx rfl (hb hby d17_44) rfl rfl (l' := #[.val (.ref p0), .val (.ref p1), .val (.ref p2), .val (.ref p3), .val (.ref r4), .unset, .unset]) rfl kz) ?_
  show own_Go _ _ _ _ _ _ _ (T4.setTop (mkF m 46 #[.val (.ref p0), .val (.ref p1), .val (.ref p2), .val (.ref p3), .val (.ref r4), .unset, .unset] []))
  refine own_by (fun _ kz => XS.aload X4.here hx rfl (hb hby d17_46) rfl rfl kz) ?_
  show own_Go _ _ _ _ _ _ _ (T4.setTop (mkF m 48 #[.val (.ref p0), .val (.ref p1), .val (.ref p2), .val (.ref p3), .val (.ref r4), .unset, .unset] [(.ref r4)]))
  obtain ⟨v5, T5, L5, X5, q5, st5⟩ := own_callF (xi := (⟨"java/util/Iterator", "hasNext", "()Z"⟩ : MethodName)) (y := (⟨"java/util/ArrayList$Itr", "hasNext", "()Z"⟩ : MethodName)) X4 hx hZ hown (ow hw 159 rfl) (ow hw 160 rfl) (mvT hZ (ow hw 161 rfl)) (ow hw 162 rfl) (ow hw 163 rfl) (ow hw 164 rfl) (ow hw 165 rfl) (ow hw 166 rfl) (ow hw 146 rfl) (ow hw 167 rfl) (by decide) (rm22_0_1 l Z a0 hw [] r4 T4.heap n0 Z4 p3 o4_3 o4_2 pm10_h4) (W := 0) (by decide) (by decide) rfl o4_1 (g := (mkF m 48 #[.val (.ref p0), .val (.ref p1), .val (.ref p2), .val (.ref p3), .val (.ref r4), .unset, .unset] [(.ref r4)])) rfl (by rw [hml]; rfl) (argsL := []) (rest := []) (lenOf pd_22 rfl) rfl rfl (by show 2 * 0 + _ ≤ _; exact Nat.le_of_eq rfl) (hb hby d17_48) (by decide) (by decide)
  obtain ⟨rfl, Nq5, hh5⟩ := q5
  have N5 := Fr.app N4 Nq5
  refine own_by st5 ?_
  show own_Go _ _ _ _ _ _ _ (T5.setTop (mkF m 53 #[.val (.ref p0), .val (.ref p1), .val (.ref p2), .val (.ref p3), .val (.ref r4), .unset, .unset] [(.int (1 : Int32))]))
  refine own_by (fun _ kz => XS.ifNo X5.here hx rfl (hb hby d17_53) rfl ((if0 _ _).trans (feq (by decide : ¬ ((1 : Int32) = (0 : Int32)))).1) kz) ?_
  show own_Go _ _ _ _ _ _ _ (T5.setTop (mkF m 56 #[.val (.ref p0), .val (.ref p1), .val (.ref p2), .val (.ref p3), .val (.ref r4), .unset, .unset] []))
  refine own_by (fun _ kz => XS.aload X5.here hx rfl (hb hby d17_56) rfl rfl kz) ?_
  show own_Go _ _ _ _ _ _ _ (T5.setTop (mkF m 58 #[.val (.ref p0), .val (.ref p1), .val (.ref p2), .val (.ref p3), .val (.ref r4), .unset, .unset] [(.ref r4)]))
  obtain ⟨v6, T6, L6, X6, q6, st6⟩ := own_callF (xi := (⟨"java/util/Iterator", "next", "()Ljava/lang/Object;"⟩ : MethodName)) (y := (⟨"java/util/ArrayList$Itr", "next", "()Ljava/lang/Object;"⟩ : MethodName)) X5 hx hZ hown (ow hw 171 rfl) (ow hw 172 rfl) (mvT hZ (ow hw 173 rfl)) (ow hw 174 rfl) (ow hw 175 rfl) (ow hw 176 rfl) (ow hw 177 rfl) (ow hw 166 rfl) (ow hw 146 rfl) (ow hw 178 rfl) (by decide) (rm23_0_1 l Z a0 hw [] r4 T4.heap n0 Z4 p3 (1 : Int32) ea kA d1 o4_1 o4_2 o4_3 o4_4 o4_5 pm8_h4 pm10_h4 pm9_h4 pm12_h4 ne_p3_r4 ne_ea_r4 ge_r4) (W := 0) (by decide) (by decide) hh5 o4_1 (g := (mkF m 58 #[.val (.ref p0), .val (.ref p1), .val (.ref p2), .val (.ref p3), .val (.ref r4), .unset, .unset] [(.ref r4)])) rfl (by rw [hml]; rfl) (argsL := []) (rest := []) (lenOf pd_23 rfl) rfl rfl (by show 2 * 0 + _ ≤ _; exact Nat.le_of_eq rfl) (hb hby d17_58) (by decide) (by decide)
  obtain ⟨rfl, Nq6, Kq6, o6_0, o6_1, o6_2, o6_3⟩ := q6
  have N6 := Fr.app N5 Nq6
  have Z6 : n0 ≤ T6.heap.size := Nat.le_trans Z4 Kq6.1
  have K6 := K4.trans Kq6 (allS (Or.inr sz_r4) all0)
  have O6 := O4.keep Kq6 (allS ge_r4 all0)
  have pm0_h6 := pm0_h4.keep Kq6
  have pm1_h6 := pm1_h4.keep Kq6 (ninS ne_p0_r4 nin0)
  have pm2_h6 := pm2_h4.keep Kq6 (ninS ne_p0_r4 nin0)
  have pm3_h6 := pm3_h4.keep Kq6 (ninS ne_p0_r4 nin0)
  have pm7_h6 := pm7_h4.keep Kq6
  have pm8_h6 := pm8_h4.keep Kq6 (ninS ne_p3_r4 nin0)
  have pm9_h6 := pm9_h4.keep Kq6 (ninS ne_p3_r4 nin0)
  have pm10_h6 := pm10_h4.keep Kq6 (ninS ne_p3_r4 nin0)
  have pm11_h6 := pm11_h4.keep Kq6
  have pm12_h6 := pm12_h4.keep Kq6 (ninS ne_ea_r4 nin0)
  have pm13_h6 := pm13_h4.keep Kq6
  have pm14_h6 := pm14_h4.keep Kq6 (ninS ne_d1_r4 nin0)
  have o4_1_h6 := o4_1.keep Kq6
  refine own_by st6 ?_
  show own_Go _ _ _ _ _ _ _ (T6.setTop (mkF m 63 #[.val (.ref p0), .val (.ref p1), .val (.ref p2), .val (.ref p3), .val (.ref r4), .unset, .unset] [(.ref d1)]))
  obtain ⟨T7, X7, e7, st7⟩ := castY X6 hx hZ hown (ow hw 185 rfl) rfl (Ins.self pm13_h6) (g := (mkF m 63 #[.val (.ref p0), .val (.ref p1), .val (.ref p2), .val (.ref p3), .val (.ref r4), .unset, .unset] [(.ref d1)])) rfl rfl (hb hby d17_63)
  refine own_by st7 ?_
  show own_Go _ _ _ _ _ _ _ (T7.setTop (mkF m 66 #[.val (.ref p0), .val (.ref p1), .val (.ref p2), .val (.ref p3), .val (.ref r4), .unset, .unset] [(.ref d1)]))
  obtain ⟨v8, T8, L8, X8, q8, st8⟩ := own_callV X7 hx hZ hown (ow hw 186 rfl) (ow hw 187 rfl) (ow hw 189 rfl) (ow hw 188 rfl) (ow hw 34 rfl) (ow hw 190 rfl) (by decide) (rm25 l Z a0 hw [] d1 T6.heap n0 Z6 w1 pm14_h6) (W := 0) (by decide) (by decide) e7 pm13_h6 (g := (mkF m 66 #[.val (.ref p0), .val (.ref p1), .val (.ref p2), .val (.ref p3), .val (.ref r4), .unset, .unset] [(.ref d1)])) rfl (by rw [hml]; rfl) (argsL := []) (rest := []) (lenOf pd_25 rfl) rfl rfl (by show 2 * 0 + _ ≤ _; exact Nat.le_of_eq rfl) (hb hby d17_66) (by decide) (by decide)
  obtain ⟨rfl, Nq8, hh8⟩ := q8
  have N8 := Fr.app N6 Nq8
  refine own_by st8 ?_
  show own_Go _ _ _ _ _ _ _ (T8.setTop (mkF m 69 #[.val (.ref p0), .val (.ref p1), .val (.ref p2), .val (.ref p3), .val (.ref r4), .unset, .unset] [(.double w1)]))
  refine own_by (fun _ kz => XS.dstore X8.here hx rfl (hb hby d17_69) rfl (l' := #[.val (.ref p0), .val (.ref p1), .val (.ref p2), .val (.ref p3), .val (.ref r4), .val (.double w1), .second]) rfl kz) ?_
  show own_Go _ _ _ _ _ _ _ (T8.setTop (mkF m 71 #[.val (.ref p0), .val (.ref p1), .val (.ref p2), .val (.ref p3), .val (.ref r4), .val (.double w1), .second] []))
  refine own_by (fun _ kz => XS.dload X8.here hx rfl (hb hby d17_71) rfl kz) ?_
  refine own_by (fun _ kz => XS.dconst0 X8.here hx rfl (hb hby d17_73) rfl kz) ?_
  show own_Go _ _ _ _ _ _ _ (T8.setTop (mkF m 74 #[.val (.ref p0), .val (.ref p1), .val (.ref p2), .val (.ref p3), .val (.ref r4), .val (.double w1), .second] [(.double FP.dconst0), (.double w1)]))
  refine own_by (fun _ kz => XS.dcmpS X8.here hx rfl (hb hby d17_74) rfl rfl kz) ?_
  show own_Go _ _ _ _ _ _ _ (T8.setTop (mkF m 75 #[.val (.ref p0), .val (.ref p1), .val (.ref p2), .val (.ref p3), .val (.ref r4), .val (.double w1), .second] [(.int (cmpValue (FP.dcmp w1 FP.dconst0) .l))]))
  refine own_by (fun _ kz => XS.ifNo X8.here hx rfl (hb hby d17_75) rfl ((if0 _ _).trans (flt pm15.1).1) kz) ?_
  show own_Go _ _ _ _ _ _ _ (T8.setTop (mkF m 78 #[.val (.ref p0), .val (.ref p1), .val (.ref p2), .val (.ref p3), .val (.ref r4), .val (.double w1), .second] []))
  refine own_by (fun _ kz => XS.dload X8.here hx rfl (hb hby d17_78) rfl kz) ?_
  refine own_by (fun _ kz => XS.dconst1 X8.here hx rfl (hb hby d17_80) rfl kz) ?_
  show own_Go _ _ _ _ _ _ _ (T8.setTop (mkF m 81 #[.val (.ref p0), .val (.ref p1), .val (.ref p2), .val (.ref p3), .val (.ref r4), .val (.double w1), .second] [(.double FP.dconst1), (.double w1)]))
  refine own_by (fun _ kz => XS.dcmpS X8.here hx rfl (hb hby d17_81) rfl rfl kz) ?_
  show own_Go _ _ _ _ _ _ _ (T8.setTop (mkF m 82 #[.val (.ref p0), .val (.ref p1), .val (.ref p2), .val (.ref p3), .val (.ref r4), .val (.double w1), .second] [(.int (cmpValue (FP.dcmp w1 FP.dconst1) .g))]))
  refine own_by (fun _ kz => XS.ifYes X8.here hx rfl (pc0 := 82) (pc' := 100) rfl (hb hby d17_82) rfl ((if0 _ _).trans (flt pm15.2).2.2.2) (by decide) (by decide) kz) ?_
  show own_Go _ _ _ _ _ _ _ (T8.setTop (mkF m 100 #[.val (.ref p0), .val (.ref p1), .val (.ref p2), .val (.ref p3), .val (.ref r4), .val (.double w1), .second] []))
  refine own_by (fun _ kz => XS.goto X8.here hx rfl (pc0 := 100) (pc' := 46) rfl (hb hby d17_100) (by decide) (by decide) kz) ?_
  show own_Go _ _ _ _ _ _ _ (T8.setTop (mkF m 46 #[.val (.ref p0), .val (.ref p1), .val (.ref p2), .val (.ref p3), .val (.ref r4), .val (.double w1), .second] []))
  refine own_by (fun _ kz => XS.aload X8.here hx rfl (hb hby d17_46) rfl rfl kz) ?_
  show own_Go _ _ _ _ _ _ _ (T8.setTop (mkF m 48 #[.val (.ref p0), .val (.ref p1), .val (.ref p2), .val (.ref p3), .val (.ref r4), .val (.double w1), .second] [(.ref r4)]))
  obtain ⟨v9, T9, L9, X9, q9, st9⟩ := own_callF (xi := (⟨"java/util/Iterator", "hasNext", "()Z"⟩ : MethodName)) (y := (⟨"java/util/ArrayList$Itr", "hasNext", "()Z"⟩ : MethodName)) X8 hx hZ hown (ow hw 159 rfl) (ow hw 160 rfl) (mvT hZ (ow hw 161 rfl)) (ow hw 162 rfl) (ow hw 163 rfl) (ow hw 164 rfl) (ow hw 165 rfl) (ow hw 166 rfl) (ow hw 146 rfl) (ow hw 167 rfl) (by decide) (rm22_1_1 l Z a0 hw [] r4 T6.heap n0 Z6 p3 o6_1 o6_0 pm10_h6) (W := 0) (by decide) (by decide) hh8 o4_1_h6 (g := (mkF m 48 #[.val (.ref p0), .val (.ref p1), .val (.ref p2), .val (.ref p3), .val (.ref r4), .val (.double w1), .second] [(.ref r4)])) rfl (by rw [hml]; rfl) (argsL := []) (rest := []) (lenOf pd_22 rfl) rfl rfl (by show 2 * 0 + _ ≤ _; exact Nat.le_of_eq rfl) (hb hby d17_48) (by decide) (by decide)
  obtain ⟨rfl, Nq9, hh9⟩ := q9
  have N9 := Fr.app N8 Nq9
  refine own_by st9 ?_
  show own_Go _ _ _ _ _ _ _ (T9.setTop (mkF m 53 #[.val (.ref p0), .val (.ref p1), .val (.ref p2), .val (.ref p3), .val (.ref r4), .val (.double w1), .second] [(.int (0 : Int32))]))
  refine own_by (fun _ kz => XS.ifYes X9.here hx rfl (pc0 := 53) (pc' := 103) rfl (hb hby d17_53) rfl ((if0 _ _).trans (teq (by decide : ((0 : Int32) = (0 : Int32)))).1) (by decide) (by decide) kz) ?_
  show own_Go _ _ _ _ _ _ _ (T9.setTop (mkF m 103 #[.val (.ref p0), .val (.ref p1), .val (.ref p2), .val (.ref p3), .val (.ref r4), .val (.double w1), .second] []))
  refine own_by (fun _ kz => XS.aloadN X9.here hx rfl (hb hby d17_103) rfl rfl kz) ?_
  show own_Go _ _ _ _ _ _ _ (T9.setTop (mkF m 104 #[.val (.ref p0), .val (.ref p1), .val (.ref p2), .val (.ref p3), .val (.ref r4), .val (.double w1), .second] [(.ref p3)]))
  obtain ⟨v10, T10, L10, X10, q10, st10⟩ := own_callS X9 hx hZ hown (ow hw 191 rfl) (ow hw 192 rfl) (ow hw 193 rfl) (ow hw 194 rfl) (by decide) (rm26_1 l Z a0 hw [] p3 T6.heap n0 Z6 em SE mr MI ea kA d1 pm7_h6 pm9_h6 pm10_h6 pm11_h6 pm12_h6 pm13_h6 O6) (W := 0) (by decide) (by decide) hh9 (g := (mkF m 104 #[.val (.ref p0), .val (.ref p1), .val (.ref p2), .val (.ref p3), .val (.ref r4), .val (.double w1), .second] [(.ref p3)])) rfl (by rw [hml]; rfl) (argsL := [(.ref p3)]) (rest := []) (lenOf pd_26 rfl) rfl rfl (by show 2 * 0 + _ ≤ _; exact Nat.le_of_eq rfl) (hb hby d17_104) (by decide) (by decide)
  obtain ⟨r10, rfl, Nq10, Kq10, o10_0, o10_1, o10_2, o10_3⟩ := q10
  have N10 := Fr.app N9 Nq10
  have Z10 : n0 ≤ T10.heap.size := Nat.le_trans Z6 Kq10.1
  have K10 := K6.trans Kq10 all0
  have O10 := O6.keep Kq10 all0
  have pm0_h10 := pm0_h6.keep Kq10
  have pm1_h10 := pm1_h6.keep Kq10 nin0
  have pm2_h10 := pm2_h6.keep Kq10 nin0
  have pm3_h10 := pm3_h6.keep Kq10 nin0
  have ge_r10 : n0 ≤ r10 := Nat.le_trans Z6 o10_0
  have sz_r10 : h0.size ≤ r10 := Nat.le_trans K6.1 o10_0
  have ne_p0_r10 : p0 ≠ r10 := Nat.ne_of_lt (Nat.lt_of_lt_of_le pm0_h6.lt o10_0)
  have ne_p3_r10 : p3 ≠ r10 := Nat.ne_of_lt (Nat.lt_of_lt_of_le pm7_h6.lt o10_0)
  have ne_ea_r10 : ea ≠ r10 := Nat.ne_of_lt (Nat.lt_of_lt_of_le pm11_h6.lt o10_0)
  have ne_d1_r10 : d1 ≠ r10 := Nat.ne_of_lt (Nat.lt_of_lt_of_le pm13_h6.lt o10_0)
  have ne_r4_r10 : r4 ≠ r10 := Nat.ne_of_lt (Nat.lt_of_lt_of_le o4_1_h6.lt o10_0)
  refine own_by st10 ?_
  show own_Go _ _ _ _ _ _ _ (T10.setTop (mkF m 107 #[.val (.ref p0), .val (.ref p1), .val (.ref p2), .val (.ref p3), .val (.ref r4), .val (.double w1), .second] [(.ref r10)]))
  refine own_by (fun _ kz => XS.astoreN X10.here hx rfl (hb hby d17_107) rfl rfl (l' := #[.val (.ref p0), .val (.ref p1), .val (.ref p2), .val (.ref r10), .val (.ref r4), .val (.double w1), .second]) rfl kz) ?_
  show own_Go _ _ _ _ _ _ _ (T10.setTop (mkF m 108 #[.val (.ref p0), .val (.ref p1), .val (.ref p2), .val (.ref r10), .val (.ref r4), .val (.double w1), .second] []))
  refine own_by (fun _ kz => XS.aloadN X10.here hx rfl (hb hby d17_108) rfl rfl kz) ?_
  refine own_by (fun _ kz => XS.aloadN X10.here hx rfl (hb hby d17_109) rfl rfl kz) ?_
  obtain ⟨T11, h11, X11, e11, W11, st11⟩ := putF X10 hx hZ hown (host := "") (Or.inl (ow hw 272 rfl)) Via.refl rfl pm1_h10 pm0_h10 (Or.inr ⟨ (ow hw 273 rfl), rfl, hnm⟩) (ow hw 83 rfl) (ty := (.object "com/example/inferlink/inferlink/Link")) (by decide) rfl rfl (g := (mkF m 110 #[.val (.ref p0), .val (.ref p1), .val (.ref p2), .val (.ref r10), .val (.ref r4), .val (.double w1), .second] [(.ref p1), (.ref p0)])) rfl rfl (hb hby d17_110)
  have N11 := Fr.snoc X11 N10 pm4
  have Z11 : n0 ≤ h11.size := by rw [W11.size]; exact Z10
  have K11 := K10.wr W11 (Or.inl (List.mem_of_getElem? (i := 0) rfl))
  have O11 := O10.wr W11 pm4
  have pm0_h11 := pm0_h10.wr W11
  have pm1_h11 := pm1_h10.same W11
  have pm2_h11 := pm2_h10.other W11 (Or.inr (slot_ne (Or.inr (ow hw 275 rfl)) (Or.inr (ow hw 273 rfl)) (by decide) (by decide : parseFieldDescriptor "Lcom/example/inferlink/inferlink/LinkStatus;" = some (.object "com/example/inferlink/inferlink/LinkStatus")) (by decide : parseFieldDescriptor "Lcom/example/inferlink/inferlink/Link;" = some (.object "com/example/inferlink/inferlink/Link"))))
  have pm3_h11 := pm3_h10.other W11 (Or.inr (slot_ne (Or.inr (ow hw 277 rfl)) (Or.inr (ow hw 273 rfl)) (by decide) (by decide : parseFieldDescriptor "Ljava/util/List;" = some (.object "java/util/List")) (by decide : parseFieldDescriptor "Lcom/example/inferlink/inferlink/Link;" = some (.object "com/example/inferlink/inferlink/Link"))))
  have o10_1_h11 := o10_1.wr W11
  have o10_2_h11 := o10_2.other W11 (Or.inl (Ne.symm ne_p0_r10))
  have o10_3_h11 := o10_3.other W11 (Or.inl (Ne.symm ne_p0_r10))
  refine own_by st11 ?_
  show own_Go _ _ _ _ _ _ _ (T11.setTop (mkF m 113 #[.val (.ref p0), .val (.ref p1), .val (.ref p2), .val (.ref r10), .val (.ref r4), .val (.double w1), .second] []))
  refine own_by (fun _ kz => XS.aloadN X11.here hx rfl (hb hby d17_113) rfl rfl kz) ?_
  refine own_by (fun _ kz => XS.aloadN X11.here hx rfl (hb hby d17_114) rfl rfl kz) ?_
  obtain ⟨T12, h12, X12, e12, W12, st12⟩ := putF X11 hx hZ hown (host := "") (Or.inl (ow hw 274 rfl)) Via.refl e11 pm2_h11 pm0_h11 (Or.inr ⟨ (ow hw 275 rfl), rfl, hnm⟩) (ow hw 83 rfl) (ty := (.object "com/example/inferlink/inferlink/LinkStatus")) (by decide) rfl rfl (g := (mkF m 115 #[.val (.ref p0), .val (.ref p1), .val (.ref p2), .val (.ref r10), .val (.ref r4), .val (.double w1), .second] [(.ref p2), (.ref p0)])) rfl rfl (hb hby d17_115)
  have N12 := Fr.snoc X12 N11 pm4
  have Z12 : n0 ≤ h12.size := by rw [W12.size]; exact Z11
  have K12 := K11.wr W12 (Or.inl (List.mem_of_getElem? (i := 0) rfl))
  have O12 := O11.wr W12 pm4
  have pm0_h12 := pm0_h11.wr W12
  have pm1_h12 := pm1_h11.other W12 (Or.inr (slot_ne (Or.inr (ow hw 273 rfl)) (Or.inr (ow hw 275 rfl)) (by decide) (by decide : parseFieldDescriptor "Lcom/example/inferlink/inferlink/Link;" = some (.object "com/example/inferlink/inferlink/Link")) (by decide : parseFieldDescriptor "Lcom/example/inferlink/inferlink/LinkStatus;" = some (.object "com/example/inferlink/inferlink/LinkStatus"))))
  have pm2_h12 := pm2_h11.same W12
  have pm3_h12 := pm3_h11.other W12 (Or.inr (slot_ne (Or.inr (ow hw 277 rfl)) (Or.inr (ow hw 275 rfl)) (by decide) (by decide : parseFieldDescriptor "Ljava/util/List;" = some (.object "java/util/List")) (by decide : parseFieldDescriptor "Lcom/example/inferlink/inferlink/LinkStatus;" = some (.object "com/example/inferlink/inferlink/LinkStatus"))))
  have o10_1_h12 := o10_1_h11.wr W12
  have o10_2_h12 := o10_2_h11.other W12 (Or.inl (Ne.symm ne_p0_r10))
  have o10_3_h12 := o10_3_h11.other W12 (Or.inl (Ne.symm ne_p0_r10))
  refine own_by st12 ?_
  show own_Go _ _ _ _ _ _ _ (T12.setTop (mkF m 118 #[.val (.ref p0), .val (.ref p1), .val (.ref p2), .val (.ref r10), .val (.ref r4), .val (.double w1), .second] []))
  refine own_by (fun _ kz => XS.aloadN X12.here hx rfl (hb hby d17_118) rfl rfl kz) ?_
  refine own_by (fun _ kz => XS.aloadN X12.here hx rfl (hb hby d17_119) rfl rfl kz) ?_
  obtain ⟨T13, h13, X13, e13, W13, st13⟩ := putF X12 hx hZ hown (host := "") (Or.inl (ow hw 276 rfl)) Via.refl e12 pm3_h12 pm0_h12 (Or.inr ⟨ (ow hw 277 rfl), rfl, hnm⟩) (ow hw 83 rfl) (ty := (.object "java/util/List")) (by decide) rfl rfl (g := (mkF m 120 #[.val (.ref p0), .val (.ref p1), .val (.ref p2), .val (.ref r10), .val (.ref r4), .val (.double w1), .second] [(.ref r10), (.ref p0)])) rfl rfl (hb hby d17_120)
  have N13 := Fr.snoc X13 N12 pm4
  have Z13 : n0 ≤ h13.size := by rw [W13.size]; exact Z12
  have K13 := K12.wr W13 (Or.inl (List.mem_of_getElem? (i := 0) rfl))
  have O13 := O12.wr W13 pm4
  have pm0_h13 := pm0_h12.wr W13
  have pm1_h13 := pm1_h12.other W13 (Or.inr (slot_ne (Or.inr (ow hw 273 rfl)) (Or.inr (ow hw 277 rfl)) (by decide) (by decide : parseFieldDescriptor "Lcom/example/inferlink/inferlink/Link;" = some (.object "com/example/inferlink/inferlink/Link")) (by decide : parseFieldDescriptor "Ljava/util/List;" = some (.object "java/util/List"))))
  have pm2_h13 := pm2_h12.other W13 (Or.inr (slot_ne (Or.inr (ow hw 275 rfl)) (Or.inr (ow hw 277 rfl)) (by decide) (by decide : parseFieldDescriptor "Lcom/example/inferlink/inferlink/LinkStatus;" = some (.object "com/example/inferlink/inferlink/LinkStatus")) (by decide : parseFieldDescriptor "Ljava/util/List;" = some (.object "java/util/List"))))
  have pm3_h13 := pm3_h12.same W13
  have o10_1_h13 := o10_1_h12.wr W13
  have o10_2_h13 := o10_2_h12.other W13 (Or.inl (Ne.symm ne_p0_r10))
  have o10_3_h13 := o10_3_h12.other W13 (Or.inl (Ne.symm ne_p0_r10))
  refine own_by st13 ?_
  show own_Go _ _ _ _ _ _ _ (T13.setTop (mkF m 123 #[.val (.ref p0), .val (.ref p1), .val (.ref p2), .val (.ref r10), .val (.ref r4), .val (.double w1), .second] []))
  exact own_retV X13 hx hlk Bd.returns (hb hby d17_123) (by decide) (by decide) ⟨r10, rfl, N13, by rw [e13]; exact K13, by rw [e13]; exact pm3_h13, sz_r10, by rw [e13]; exact o10_1_h13, by rw [e13]; exact o10_2_h13, by rw [e13]; exact o10_3_h13⟩
theorem ef_17_2 (m : MethodId) (p0 : Addr) (p1 : Addr) (p2 : Addr) (p3 : Addr) : entryFrame m #[(.ref p0), (.ref p1), (.ref p2), (.ref p3)] 7 = mkF m 0 #[.val (.ref p0), .val (.ref p1), .val (.ref p2), .val (.ref p3), .unset, .unset, .unset] [] := by first | (simp [entryFrame, mkF, argsToLocals, Value.category]; done) | rfl
def Q17_2 (Z : State) (p0 : Addr) (p1 : Addr) (p2 : Addr) (p3 : Addr) (mr : Addr) (ea : Addr) (kA : ClassId) (d1 : Addr) (d2 : Addr) (w1 : UInt64) (w2 : UInt64) (h0 : Heap) (n0 : Nat) (v : Option Value) (h : Heap) (L : List Loc) : Prop := ∃ (r : Addr), v = none ∧ Fr n0 L ∧ Keep h0 h [p0] ∧ Fld Z h p0 "com/example/inferlink/inferlink/LinkDelay" "probabilities" "Ljava/util/List;" (.ref r) ∧ h0.size ≤ r ∧ Exa Z h r "java/util/ImmutableCollections$List12" ∧ Fld Z h r "java/util/ImmutableCollections$List12" "e0" "Ljava/lang/Object;" (.ref d1) ∧ Fld Z h r "java/util/ImmutableCollections$List12" "e1" "Ljava/lang/Object;" (.ref d2)
theorem rm17_2 (l : Launch) (Z : State) (a0 : Array Value) (hw : ∀ d ∈ tables_1, d.before a0 Z = true) (ws : List Jvm.Cond) (p0 : Addr) (p1 : Addr) (p2 : Addr) (p3 : Addr) (h0 : Heap) (n0 : Nat) (Z0 : n0 ≤ h0.size) (mr : Addr) (MI : own_Mi Z "[Ljava/lang/Object;" mr) (ea : Addr) (kA : ClassId) (d1 : Addr) (d2 : Addr) (w1 : UInt64) (w2 : UInt64) (pm0 : Exa Z h0 p0 "com/example/inferlink/inferlink/LinkDelay") (pm1 : Fld Z h0 p0 "com/example/inferlink/inferlink/LinkDelay" "link" "Lcom/example/inferlink/inferlink/Link;" .null) (pm2 : Fld Z h0 p0 "com/example/inferlink/inferlink/LinkDelay" "status" "Lcom/example/inferlink/inferlink/LinkStatus;" .null) (pm3 : Fld Z h0 p0 "com/example/inferlink/inferlink/LinkDelay" "probabilities" "Ljava/util/List;" .null) (pm4 : n0 ≤ p0) (pm5 : Exa Z h0 p2 "com/example/inferlink/inferlink/LinkStatus") (pm6 : Fld Z h0 p2 "com/example/inferlink/inferlink/LinkStatus" "hasSuccess" "Z" (.int (1 : Int32))) (pm7 : Exa Z h0 p3 "java/util/ArrayList") (pm8 : Fld Z h0 p3 "java/util/AbstractList" "modCount" "I" (.int (2 : Int32))) (pm9 : Fld Z h0 p3 "java/util/ArrayList" "elementData" "[Ljava/lang/Object;" (.ref ea)) (pm10 : Fld Z h0 p3 "java/util/ArrayList" "size" "I" (.int (2 : Int32))) (pm11 : Exa Z h0 ea "[Ljava/lang/Object;") (pm12 : Arv Z h0 ea kA (.object "java/lang/Object") (10 : Int32) [(.ref d1), (.ref d2), .null, .null, .null, .null, .null, .null, .null, .null] .null) (pm13 : Exa Z h0 d1 "java/lang/Double") (pm14 : Fld Z h0 d1 "java/lang/Double" "value" "D" (.double w1)) (pm15 : own_In w1) (pm16 : Exa Z h0 d2 "java/lang/Double") (pm17 : Fld Z h0 d2 "java/lang/Double" "value" "D" (.double w2)) (pm18 : own_In w2) :
    own_Met l Z (⟨"com/example/inferlink/inferlink/LinkDelay", "<init>", "(Lcom/example/inferlink/inferlink/Link;Lcom/example/inferlink/inferlink/LinkStatus;Ljava/util/List;)V"⟩ : MethodName) prog_20_method_1_code 7 none ws ({ frames := 8, cells := 3, slots := 8, locals := 105 } : Room) #[(.ref p0), (.ref p1), (.ref p2), (.ref p3)] h0 (Q17_2 Z p0 p1 p2 p3 mr ea kA d1 d2 w1 w2 h0 n0) := by
  refine MetFree.of_bodySF pf_17 hisR ?_
  intro p e s m args below meth c s₁ Bd hml0 hP hK
  obtain ⟨rfl, hZ, hh⟩ := hP
  have hx := Bd.exec
  have hby := Bd.bytes
  have hlk : meth.locks = false := BodyLoose.notSynchronized Bd
  have hml : c.maxLocals = 7 := hml0
  have hown : s.vm.findClass "com/example/inferlink/inferlink/LinkDelay" = some m.cls := findClass_of_methodNamed Bd.named
  have hnm := (name_of_methodNamed Bd.named Bd.method).1
  have X0 : Stand p l e ({ frames := 8, cells := 3, slots := 8, locals := 105 } : Room) s m #[(.ref p0), (.ref p1), (.ref p2), (.ref p3)] below meth c s₁ [] 0 0 := Stand.of_body Bd
  have e0 : s₁.heap = h0 := by rw [← hh, Bd.state]; rfl
  have N0 := Fr.nil n0
  have K0 := Keep.refl h0 [p0]
  show own_Go _ _ _ _ (Q17_2 Z p0 p1 p2 p3 mr ea kA d1 d2 w1 w2 h0 n0) _ _ _
  refine own_by (fun _ k => castTop (ef_17_2 m p0 p1 p2 p3) k) ?_
  show own_Go _ _ _ _ _ _ _ (s₁.setTop (mkF m 0 #[.val (.ref p0), .val (.ref p1), .val (.ref p2), .val (.ref p3), .unset, .unset, .unset] []))
  refine own_by (fun _ kz => XS.aloadN X0.here hx rfl (hb hby d17_0) rfl rfl kz) ?_
  show own_Go _ _ _ _ _ _ _ (s₁.setTop (mkF m 1 #[.val (.ref p0), .val (.ref p1), .val (.ref p2), .val (.ref p3), .unset, .unset, .unset] [(.ref p0)]))
  obtain ⟨v1, T1, L1, X1, q1, st1⟩ := own_callI X0 hx hZ rfl hown (ow hw 119 rfl) (ow hw 101 rfl) (ow hw 103 rfl) (ow hw 104 rfl) (by decide) (rm15 l Z a0 hw [] p0 h0 n0 Z0 ) (W := 0) (by decide) (by decide) e0 (g := (mkF m 1 #[.val (.ref p0), .val (.ref p1), .val (.ref p2), .val (.ref p3), .unset, .unset, .unset] [(.ref p0)])) rfl (by rw [hml]; rfl) (a := p0) (argsL := []) (rest := []) (lenOf pd_15 rfl) rfl rfl (by show 2 * 0 + _ ≤ _; exact Nat.le_of_eq rfl) (hb hby d17_1) (by decide) (by decide)
  obtain ⟨rfl, Nq1, hh1⟩ := q1
  have N1 := Fr.app N0 Nq1
  refine own_by st1 ?_
  show own_Go _ _ _ _ _ _ _ (T1.setTop (mkF m 4 #[.val (.ref p0), .val (.ref p1), .val (.ref p2), .val (.ref p3), .unset, .unset, .unset] []))
  refine own_by (fun _ kz => XS.aloadN X1.here hx rfl (hb hby d17_4) rfl rfl kz) ?_
  show own_Go _ _ _ _ _ _ _ (T1.setTop (mkF m 5 #[.val (.ref p0), .val (.ref p1), .val (.ref p2), .val (.ref p3), .unset, .unset, .unset] [(.ref p3)]))
  obtain ⟨v2, T2, L2, X2, q2, st2⟩ := own_callF (xi := (⟨"java/util/List", "isEmpty", "()Z"⟩ : MethodName)) (y := (⟨"java/util/ArrayList", "isEmpty", "()Z"⟩ : MethodName)) X1 hx hZ hown (ow hw 120 rfl) (ow hw 121 rfl) (mvT hZ (ow hw 122 rfl)) (ow hw 123 rfl) (ow hw 124 rfl) (ow hw 125 rfl) (ow hw 126 rfl) (ow hw 127 rfl) (ow hw 8 rfl) (ow hw 128 rfl) (by decide) (rm18 l Z a0 hw [] p3 h0 n0 Z0 (2 : Int32) pm10 (by decide)) (W := 0) (by decide) (by decide) hh1 pm7 (g := (mkF m 5 #[.val (.ref p0), .val (.ref p1), .val (.ref p2), .val (.ref p3), .unset, .unset, .unset] [(.ref p3)])) rfl (by rw [hml]; rfl) (argsL := []) (rest := []) (lenOf pd_18 rfl) rfl rfl (by show 2 * 0 + _ ≤ _; exact Nat.le_of_eq rfl) (hb hby d17_5) (by decide) (by decide)
  obtain ⟨rfl, Nq2, hh2⟩ := q2
  have N2 := Fr.app N1 Nq2
  refine own_by st2 ?_
  show own_Go _ _ _ _ _ _ _ (T2.setTop (mkF m 10 #[.val (.ref p0), .val (.ref p1), .val (.ref p2), .val (.ref p3), .unset, .unset, .unset] [(.int (0 : Int32))]))
  refine own_by (fun _ kz => XS.aloadN X2.here hx rfl (hb hby d17_10) rfl rfl kz) ?_
  show own_Go _ _ _ _ _ _ _ (T2.setTop (mkF m 11 #[.val (.ref p0), .val (.ref p1), .val (.ref p2), .val (.ref p3), .unset, .unset, .unset] [(.ref p2), (.int (0 : Int32))]))
  obtain ⟨v3, T3, L3, X3, q3, st3⟩ := own_callV X2 hx hZ hown (ow hw 129 rfl) (ow hw 130 rfl) (ow hw 132 rfl) (ow hw 131 rfl) (ow hw 114 rfl) (ow hw 133 rfl) (by decide) (rm19 l Z a0 hw [] p2 h0 n0 Z0 pm6) (W := 1) (by decide) (by decide) hh2 pm5 (g := (mkF m 11 #[.val (.ref p0), .val (.ref p1), .val (.ref p2), .val (.ref p3), .unset, .unset, .unset] [(.ref p2), (.int (0 : Int32))])) rfl (by rw [hml]; rfl) (argsL := []) (rest := [(.int (0 : Int32))]) (lenOf pd_19 rfl) rfl rfl (by show 2 * 0 + _ ≤ _; exact Nat.le_of_eq rfl) (hb hby d17_11) (by decide) (by decide)
  obtain ⟨rfl, Nq3, hh3⟩ := q3
  have N3 := Fr.app N2 Nq3
  refine own_by st3 ?_
  show own_Go _ _ _ _ _ _ _ (T3.setTop (mkF m 14 #[.val (.ref p0), .val (.ref p1), .val (.ref p2), .val (.ref p3), .unset, .unset, .unset] [(.int (1 : Int32)), (.int (0 : Int32))]))
  refine own_by (fun _ kz => XS.icmpYes X3.here hx rfl (pc0 := 14) (pc' := 38) rfl (hb hby d17_14) rfl (feq (by decide : ¬ ((0 : Int32) = (1 : Int32)))).2 (by decide) (by decide) kz) ?_
  show own_Go _ _ _ _ _ _ _ (T3.setTop (mkF m 38 #[.val (.ref p0), .val (.ref p1), .val (.ref p2), .val (.ref p3), .unset, .unset, .unset] []))
  refine own_by (fun _ kz => XS.aloadN X3.here hx rfl (hb hby d17_38) rfl rfl kz) ?_
  show own_Go _ _ _ _ _ _ _ (T3.setTop (mkF m 39 #[.val (.ref p0), .val (.ref p1), .val (.ref p2), .val (.ref p3), .unset, .unset, .unset] [(.ref p3)]))
  obtain ⟨v4, T4, L4, X4, q4, st4⟩ := own_callF (xi := (⟨"java/util/List", "iterator", "()Ljava/util/Iterator;"⟩ : MethodName)) (y := (⟨"java/util/ArrayList", "iterator", "()Ljava/util/Iterator;"⟩ : MethodName)) X3 hx hZ hown (ow hw 136 rfl) (ow hw 137 rfl) (mvT hZ (ow hw 138 rfl)) (ow hw 139 rfl) (ow hw 140 rfl) (ow hw 141 rfl) (ow hw 142 rfl) (ow hw 127 rfl) (ow hw 8 rfl) (ow hw 143 rfl) (by decide) (rm20 l Z a0 hw [] p3 h0 n0 Z0 (2 : Int32) pm8) (W := 0) (by decide) (by decide) hh3 pm7 (g := (mkF m 39 #[.val (.ref p0), .val (.ref p1), .val (.ref p2), .val (.ref p3), .unset, .unset, .unset] [(.ref p3)])) rfl (by rw [hml]; rfl) (argsL := []) (rest := []) (lenOf pd_20 rfl) rfl rfl (by show 2 * 0 + _ ≤ _; exact Nat.le_of_eq rfl) (hb hby d17_39) (by decide) (by decide)
  obtain ⟨r4, rfl, Nq4, Kq4, o4_0, o4_1, o4_2, o4_3, o4_4, o4_5⟩ := q4
  have N4 := Fr.app N3 Nq4
  have Z4 : n0 ≤ T4.heap.size := Nat.le_trans Z0 Kq4.1
  have K4 := K0.trans Kq4 all0
  have pm0_h4 := pm0.keep Kq4
  have pm1_h4 := pm1.keep Kq4 nin0
  have pm2_h4 := pm2.keep Kq4 nin0
  have pm3_h4 := pm3.keep Kq4 nin0
  have pm7_h4 := pm7.keep Kq4
  have pm8_h4 := pm8.keep Kq4 nin0
  have pm9_h4 := pm9.keep Kq4 nin0
  have pm10_h4 := pm10.keep Kq4 nin0
  have pm11_h4 := pm11.keep Kq4
  have pm12_h4 := pm12.keep Kq4 nin0
  have pm13_h4 := pm13.keep Kq4
  have pm14_h4 := pm14.keep Kq4 nin0
  have pm16_h4 := pm16.keep Kq4
  have pm17_h4 := pm17.keep Kq4 nin0
  have ge_r4 : n0 ≤ r4 := Nat.le_trans Z0 o4_0
  have sz_r4 : h0.size ≤ r4 := Nat.le_trans K0.1 o4_0
  have ne_p0_r4 : p0 ≠ r4 := Nat.ne_of_lt (Nat.lt_of_lt_of_le pm0.lt o4_0)
  have ne_p3_r4 : p3 ≠ r4 := Nat.ne_of_lt (Nat.lt_of_lt_of_le pm7.lt o4_0)
  have ne_ea_r4 : ea ≠ r4 := Nat.ne_of_lt (Nat.lt_of_lt_of_le pm11.lt o4_0)
  have ne_d1_r4 : d1 ≠ r4 := Nat.ne_of_lt (Nat.lt_of_lt_of_le pm13.lt o4_0)
  have ne_d2_r4 : d2 ≠ r4 := Nat.ne_of_lt (Nat.lt_of_lt_of_le pm16.lt o4_0)
  refine own_by st4 ?_
  show own_Go _ _ _ _ _ _ _ (T4.setTop (mkF m 44 #[.val (.ref p0), .val (.ref p1), .val (.ref p2), .val (.ref p3), .unset, .unset, .unset] [(.ref r4)]))
  refine own_by (fun _ kz => XS.astore X4.here hx rfl (hb hby d17_44) rfl rfl (l' := #[.val (.ref p0), .val (.ref p1), .val (.ref p2), .val (.ref p3), .val (.ref r4), .unset, .unset]) rfl kz) ?_
  show own_Go _ _ _ _ _ _ _ (T4.setTop (mkF m 46 #[.val (.ref p0), .val (.ref p1), .val (.ref p2), .val (.ref p3), .val (.ref r4), .unset, .unset] []))
  refine own_by (fun _ kz => XS.aload X4.here hx rfl (hb hby d17_46) rfl rfl kz) ?_
  show own_Go _ _ _ _ _ _ _ (T4.setTop (mkF m 48 #[.val (.ref p0), .val (.ref p1), .val (.ref p2), .val (.ref p3), .val (.ref r4), .unset, .unset] [(.ref r4)]))
  obtain ⟨v5, T5, L5, X5, q5, st5⟩ := own_callF (xi := (⟨"java/util/Iterator", "hasNext", "()Z"⟩ : MethodName)) (y := (⟨"java/util/ArrayList$Itr", "hasNext", "()Z"⟩ : MethodName)) X4 hx hZ hown (ow hw 159 rfl) (ow hw 160 rfl) (mvT hZ (ow hw 161 rfl)) (ow hw 162 rfl) (ow hw 163 rfl) (ow hw 164 rfl) (ow hw 165 rfl) (ow hw 166 rfl) (ow hw 146 rfl) (ow hw 167 rfl) (by decide) (rm22_0_2 l Z a0 hw [] r4 T4.heap n0 Z4 p3 o4_3 o4_2 pm10_h4) (W := 0) (by decide) (by decide) rfl o4_1 (g := (mkF m 48 #[.val (.ref p0), .val (.ref p1), .val (.ref p2), .val (.ref p3), .val (.ref r4), .unset, .unset] [(.ref r4)])) rfl (by rw [hml]; rfl) (argsL := []) (rest := []) (lenOf pd_22 rfl) rfl rfl (by show 2 * 0 + _ ≤ _; exact Nat.le_of_eq rfl) (hb hby d17_48) (by decide) (by decide)
  obtain ⟨rfl, Nq5, hh5⟩ := q5
  have N5 := Fr.app N4 Nq5
  refine own_by st5 ?_
  show own_Go _ _ _ _ _ _ _ (T5.setTop (mkF m 53 #[.val (.ref p0), .val (.ref p1), .val (.ref p2), .val (.ref p3), .val (.ref r4), .unset, .unset] [(.int (1 : Int32))]))
  refine own_by (fun _ kz => XS.ifNo X5.here hx rfl (hb hby d17_53) rfl ((if0 _ _).trans (feq (by decide : ¬ ((1 : Int32) = (0 : Int32)))).1) kz) ?_
  show own_Go _ _ _ _ _ _ _ (T5.setTop (mkF m 56 #[.val (.ref p0), .val (.ref p1), .val (.ref p2), .val (.ref p3), .val (.ref r4), .unset, .unset] []))
  refine own_by (fun _ kz => XS.aload X5.here hx rfl (hb hby d17_56) rfl rfl kz) ?_
  show own_Go _ _ _ _ _ _ _ (T5.setTop (mkF m 58 #[.val (.ref p0), .val (.ref p1), .val (.ref p2), .val (.ref p3), .val (.ref r4), .unset, .unset] [(.ref r4)]))
  obtain ⟨v6, T6, L6, X6, q6, st6⟩ := own_callF (xi := (⟨"java/util/Iterator", "next", "()Ljava/lang/Object;"⟩ : MethodName)) (y := (⟨"java/util/ArrayList$Itr", "next", "()Ljava/lang/Object;"⟩ : MethodName)) X5 hx hZ hown (ow hw 171 rfl) (ow hw 172 rfl) (mvT hZ (ow hw 173 rfl)) (ow hw 174 rfl) (ow hw 175 rfl) (ow hw 176 rfl) (ow hw 177 rfl) (ow hw 166 rfl) (ow hw 146 rfl) (ow hw 178 rfl) (by decide) (rm23_0_2 l Z a0 hw [] r4 T4.heap n0 Z4 p3 (2 : Int32) ea kA d1 d2 o4_1 o4_2 o4_3 o4_4 o4_5 pm8_h4 pm10_h4 pm9_h4 pm12_h4 ne_p3_r4 ne_ea_r4 ge_r4) (W := 0) (by decide) (by decide) hh5 o4_1 (g := (mkF m 58 #[.val (.ref p0), .val (.ref p1), .val (.ref p2), .val (.ref p3), .val (.ref r4), .unset, .unset] [(.ref r4)])) rfl (by rw [hml]; rfl) (argsL := []) (rest := []) (lenOf pd_23 rfl) rfl rfl (by show 2 * 0 + _ ≤ _; exact Nat.le_of_eq rfl) (hb hby d17_58) (by decide) (by decide)
  obtain ⟨rfl, Nq6, Kq6, o6_0, o6_1, o6_2, o6_3⟩ := q6
  have N6 := Fr.app N5 Nq6
  have Z6 : n0 ≤ T6.heap.size := Nat.le_trans Z4 Kq6.1
  have K6 := K4.trans Kq6 (allS (Or.inr sz_r4) all0)
  have pm0_h6 := pm0_h4.keep Kq6
  have pm1_h6 := pm1_h4.keep Kq6 (ninS ne_p0_r4 nin0)
  have pm2_h6 := pm2_h4.keep Kq6 (ninS ne_p0_r4 nin0)
  have pm3_h6 := pm3_h4.keep Kq6 (ninS ne_p0_r4 nin0)
  have pm7_h6 := pm7_h4.keep Kq6
  have pm8_h6 := pm8_h4.keep Kq6 (ninS ne_p3_r4 nin0)
  have pm9_h6 := pm9_h4.keep Kq6 (ninS ne_p3_r4 nin0)
  have pm10_h6 := pm10_h4.keep Kq6 (ninS ne_p3_r4 nin0)
  have pm11_h6 := pm11_h4.keep Kq6
  have pm12_h6 := pm12_h4.keep Kq6 (ninS ne_ea_r4 nin0)
  have pm13_h6 := pm13_h4.keep Kq6
  have pm14_h6 := pm14_h4.keep Kq6 (ninS ne_d1_r4 nin0)
  have pm16_h6 := pm16_h4.keep Kq6
  have pm17_h6 := pm17_h4.keep Kq6 (ninS ne_d2_r4 nin0)
  have o4_1_h6 := o4_1.keep Kq6
  refine own_by st6 ?_
  show own_Go _ _ _ _ _ _ _ (T6.setTop (mkF m 63 #[.val (.ref p0), .val (.ref p1), .val (.ref p2), .val (.ref p3), .val (.ref r4), .unset, .unset] [(.ref d1)]))
  obtain ⟨T7, X7, e7, st7⟩ := castY X6 hx hZ hown (ow hw 185 rfl) rfl (Ins.self pm13_h6) (g := (mkF m 63 #[.val (.ref p0), .val (.ref p1), .val (.ref p2), .val (.ref p3), .val (.ref r4), .unset, .unset] [(.ref d1)])) rfl rfl (hb hby d17_63)
  refine own_by st7 ?_
  show own_Go _ _ _ _ _ _ _ (T7.setTop (mkF m 66 #[.val (.ref p0), .val (.ref p1), .val (.ref p2), .val (.ref p3), .val (.ref r4), .unset, .unset] [(.ref d1)]))
  obtain ⟨v8, T8, L8, X8, q8, st8⟩ := own_callV X7 hx hZ hown (ow hw 186 rfl) (ow hw 187 rfl) (ow hw 189 rfl) (ow hw 188 rfl) (ow hw 34 rfl) (ow hw 190 rfl) (by decide) (rm25 l Z a0 hw [] d1 T6.heap n0 Z6 w1 pm14_h6) (W := 0) (by decide) (by decide) e7 pm13_h6 (g := (mkF m 66 #[.val (.ref p0), .val (.ref p1), .val (.ref p2), .val (.ref p3), .val (.ref r4), .unset, .unset] [(.ref d1)])) rfl (by rw [hml]; rfl) (argsL := []) (rest := []) (lenOf pd_25 rfl) rfl rfl (by show 2 * 0 + _ ≤ _; exact Nat.le_of_eq rfl) (hb hby d17_66) (by decide) (by decide)
  obtain ⟨rfl, Nq8, hh8⟩ := q8
  have N8 := Fr.app N6 Nq8
  refine own_by st8 ?_
  show own_Go _ _ _ _ _ _ _ (T8.setTop (mkF m 69 #[.val (.ref p0), .val (.ref p1), .val (.ref p2), .val (.ref p3), .val (.ref r4), .unset, .unset] [(.double w1)]))
  refine own_by (fun _ kz => XS.dstore X8.here hx rfl (hb hby d17_69) rfl (l' := #[.val (.ref p0), .val (.ref p1), .val (.ref p2), .val (.ref p3), .val (.ref r4), .val (.double w1), .second]) rfl kz) ?_
  show own_Go _ _ _ _ _ _ _ (T8.setTop (mkF m 71 #[.val (.ref p0), .val (.ref p1), .val (.ref p2), .val (.ref p3), .val (.ref r4), .val (.double w1), .second] []))
  refine own_by (fun _ kz => XS.dload X8.here hx rfl (hb hby d17_71) rfl kz) ?_
  refine own_by (fun _ kz => XS.dconst0 X8.here hx rfl (hb hby d17_73) rfl kz) ?_
  show own_Go _ _ _ _ _ _ _ (T8.setTop (mkF m 74 #[.val (.ref p0), .val (.ref p1), .val (.ref p2), .val (.ref p3), .val (.ref r4), .val (.double w1), .second] [(.double FP.dconst0), (.double w1)]))
  refine own_by (fun _ kz => XS.dcmpS X8.here hx rfl (hb hby d17_74) rfl rfl kz) ?_
  show own_Go _ _ _ _ _ _ _ (T8.setTop (mkF m 75 #[.val (.ref p0), .val (.ref p1), .val (.ref p2), .val (.ref p3), .val (.ref r4), .val (.double w1), .second] [(.int (cmpValue (FP.dcmp w1 FP.dconst0) .l))]))
  refine own_by (fun _ kz => XS.ifNo X8.here hx rfl (hb hby d17_75) rfl ((if0 _ _).trans (flt pm15.1).1) kz) ?_
  show own_Go _ _ _ _ _ _ _ (T8.setTop (mkF m 78 #[.val (.ref p0), .val (.ref p1), .val (.ref p2), .val (.ref p3), .val (.ref r4), .val (.double w1), .second] []))
  refine own_by (fun _ kz => XS.dload X8.here hx rfl (hb hby d17_78) rfl kz) ?_
  refine own_by (fun _ kz => XS.dconst1 X8.here hx rfl (hb hby d17_80) rfl kz) ?_
  show own_Go _ _ _ _ _ _ _ (T8.setTop (mkF m 81 #[.val (.ref p0), .val (.ref p1), .val (.ref p2), .val (.ref p3), .val (.ref r4), .val (.double w1), .second] [(.double FP.dconst1), (.double w1)]))
  refine own_by (fun _ kz => XS.dcmpS X8.here hx rfl (hb hby d17_81) rfl rfl kz) ?_
  show own_Go _ _ _ _ _ _ _ (T8.setTop (mkF m 82 #[.val (.ref p0), .val (.ref p1), .val (.ref p2), .val (.ref p3), .val (.ref r4), .val (.double w1), .second] [(.int (cmpValue (FP.dcmp w1 FP.dconst1) .g))]))
  refine own_by (fun _ kz => XS.ifYes X8.here hx rfl (pc0 := 82) (pc' := 100) rfl (hb hby d17_82) rfl ((if0 _ _).trans (flt pm15.2).2.2.2) (by decide) (by decide) kz) ?_
  show own_Go _ _ _ _ _ _ _ (T8.setTop (mkF m 100 #[.val (.ref p0), .val (.ref p1), .val (.ref p2), .val (.ref p3), .val (.ref r4), .val (.double w1), .second] []))
  refine own_by (fun _ kz => XS.goto X8.here hx rfl (pc0 := 100) (pc' := 46) rfl (hb hby d17_100) (by decide) (by decide) kz) ?_
  show own_Go _ _ _ _ _ _ _ (T8.setTop (mkF m 46 #[.val (.ref p0), .val (.ref p1), .val (.ref p2), .val (.ref p3), .val (.ref r4), .val (.double w1), .second] []))
  refine own_by (fun _ kz => XS.aload X8.here hx rfl (hb hby d17_46) rfl rfl kz) ?_
  show own_Go _ _ _ _ _ _ _ (T8.setTop (mkF m 48 #[.val (.ref p0), .val (.ref p1), .val (.ref p2), .val (.ref p3), .val (.ref r4), .val (.double w1), .second] [(.ref r4)]))
  obtain ⟨v9, T9, L9, X9, q9, st9⟩ := own_callF (xi := (⟨"java/util/Iterator", "hasNext", "()Z"⟩ : MethodName)) (y := (⟨"java/util/ArrayList$Itr", "hasNext", "()Z"⟩ : MethodName)) X8 hx hZ hown (ow hw 159 rfl) (ow hw 160 rfl) (mvT hZ (ow hw 161 rfl)) (ow hw 162 rfl) (ow hw 163 rfl) (ow hw 164 rfl) (ow hw 165 rfl) (ow hw 166 rfl) (ow hw 146 rfl) (ow hw 167 rfl) (by decide) (rm22_1_2 l Z a0 hw [] r4 T6.heap n0 Z6 p3 o6_1 o6_0 pm10_h6) (W := 0) (by decide) (by decide) hh8 o4_1_h6 (g := (mkF m 48 #[.val (.ref p0), .val (.ref p1), .val (.ref p2), .val (.ref p3), .val (.ref r4), .val (.double w1), .second] [(.ref r4)])) rfl (by rw [hml]; rfl) (argsL := []) (rest := []) (lenOf pd_22 rfl) rfl rfl (by show 2 * 0 + _ ≤ _; exact Nat.le_of_eq rfl) (hb hby d17_48) (by decide) (by decide)
  obtain ⟨rfl, Nq9, hh9⟩ := q9
  have N9 := Fr.app N8 Nq9
  refine own_by st9 ?_
  show own_Go _ _ _ _ _ _ _ (T9.setTop (mkF m 53 #[.val (.ref p0), .val (.ref p1), .val (.ref p2), .val (.ref p3), .val (.ref r4), .val (.double w1), .second] [(.int (1 : Int32))]))
  refine own_by (fun _ kz => XS.ifNo X9.here hx rfl (hb hby d17_53) rfl ((if0 _ _).trans (feq (by decide : ¬ ((1 : Int32) = (0 : Int32)))).1) kz) ?_
  show own_Go _ _ _ _ _ _ _ (T9.setTop (mkF m 56 #[.val (.ref p0), .val (.ref p1), .val (.ref p2), .val (.ref p3), .val (.ref r4), .val (.double w1), .second] []))
  refine own_by (fun _ kz => XS.aload X9.here hx rfl (hb hby d17_56) rfl rfl kz) ?_
  show own_Go _ _ _ _ _ _ _ (T9.setTop (mkF m 58 #[.val (.ref p0), .val (.ref p1), .val (.ref p2), .val (.ref p3), .val (.ref r4), .val (.double w1), .second] [(.ref r4)]))
  obtain ⟨v10, T10, L10, X10, q10, st10⟩ := own_callF (xi := (⟨"java/util/Iterator", "next", "()Ljava/lang/Object;"⟩ : MethodName)) (y := (⟨"java/util/ArrayList$Itr", "next", "()Ljava/lang/Object;"⟩ : MethodName)) X9 hx hZ hown (ow hw 171 rfl) (ow hw 172 rfl) (mvT hZ (ow hw 173 rfl)) (ow hw 174 rfl) (ow hw 175 rfl) (ow hw 176 rfl) (ow hw 177 rfl) (ow hw 166 rfl) (ow hw 146 rfl) (ow hw 178 rfl) (by decide) (rm23_1_2 l Z a0 hw [] r4 T6.heap n0 Z6 p3 (2 : Int32) ea kA d1 d2 o4_1_h6 o6_0 o6_1 o6_2 o6_3 pm8_h6 pm10_h6 pm9_h6 pm12_h6 ne_p3_r4 ne_ea_r4 ge_r4) (W := 0) (by decide) (by decide) hh9 o4_1_h6 (g := (mkF m 58 #[.val (.ref p0), .val (.ref p1), .val (.ref p2), .val (.ref p3), .val (.ref r4), .val (.double w1), .second] [(.ref r4)])) rfl (by rw [hml]; rfl) (argsL := []) (rest := []) (lenOf pd_23 rfl) rfl rfl (by show 2 * 0 + _ ≤ _; exact Nat.le_of_eq rfl) (hb hby d17_58) (by decide) (by decide)
  obtain ⟨rfl, Nq10, Kq10, o10_0, o10_1, o10_2, o10_3⟩ := q10
  have N10 := Fr.app N9 Nq10
  have Z10 : n0 ≤ T10.heap.size := Nat.le_trans Z6 Kq10.1
  have K10 := K6.trans Kq10 (allS (Or.inr sz_r4) all0)
  have pm0_h10 := pm0_h6.keep Kq10
  have pm1_h10 := pm1_h6.keep Kq10 (ninS ne_p0_r4 nin0)
  have pm2_h10 := pm2_h6.keep Kq10 (ninS ne_p0_r4 nin0)
  have pm3_h10 := pm3_h6.keep Kq10 (ninS ne_p0_r4 nin0)
  have pm7_h10 := pm7_h6.keep Kq10
  have pm8_h10 := pm8_h6.keep Kq10 (ninS ne_p3_r4 nin0)
  have pm9_h10 := pm9_h6.keep Kq10 (ninS ne_p3_r4 nin0)
  have pm10_h10 := pm10_h6.keep Kq10 (ninS ne_p3_r4 nin0)
  have pm11_h10 := pm11_h6.keep Kq10
  have pm12_h10 := pm12_h6.keep Kq10 (ninS ne_ea_r4 nin0)
  have pm13_h10 := pm13_h6.keep Kq10
  have pm14_h10 := pm14_h6.keep Kq10 (ninS ne_d1_r4 nin0)
  have pm16_h10 := pm16_h6.keep Kq10
  have pm17_h10 := pm17_h6.keep Kq10 (ninS ne_d2_r4 nin0)
  have o4_1_h10 := o4_1_h6.keep Kq10
  refine own_by st10 ?_
  show own_Go _ _ _ _ _ _ _ (T10.setTop (mkF m 63 #[.val (.ref p0), .val (.ref p1), .val (.ref p2), .val (.ref p3), .val (.ref r4), .val (.double w1), .second] [(.ref d2)]))
  obtain ⟨T11, X11, e11, st11⟩ := castY X10 hx hZ hown (ow hw 185 rfl) rfl (Ins.self pm16_h10) (g := (mkF m 63 #[.val (.ref p0), .val (.ref p1), .val (.ref p2), .val (.ref p3), .val (.ref r4), .val (.double w1), .second] [(.ref d2)])) rfl rfl (hb hby d17_63)
  refine own_by st11 ?_
  show own_Go _ _ _ _ _ _ _ (T11.setTop (mkF m 66 #[.val (.ref p0), .val (.ref p1), .val (.ref p2), .val (.ref p3), .val (.ref r4), .val (.double w1), .second] [(.ref d2)]))
  obtain ⟨v12, T12, L12, X12, q12, st12⟩ := own_callV X11 hx hZ hown (ow hw 186 rfl) (ow hw 187 rfl) (ow hw 189 rfl) (ow hw 188 rfl) (ow hw 34 rfl) (ow hw 190 rfl) (by decide) (rm25 l Z a0 hw [] d2 T10.heap n0 Z10 w2 pm17_h10) (W := 0) (by decide) (by decide) e11 pm16_h10 (g := (mkF m 66 #[.val (.ref p0), .val (.ref p1), .val (.ref p2), .val (.ref p3), .val (.ref r4), .val (.double w1), .second] [(.ref d2)])) rfl (by rw [hml]; rfl) (argsL := []) (rest := []) (lenOf pd_25 rfl) rfl rfl (by show 2 * 0 + _ ≤ _; exact Nat.le_of_eq rfl) (hb hby d17_66) (by decide) (by decide)
  obtain ⟨rfl, Nq12, hh12⟩ := q12
  have N12 := Fr.app N10 Nq12
  refine own_by st12 ?_
  show own_Go _ _ _ _ _ _ _ (T12.setTop (mkF m 69 #[.val (.ref p0), .val (.ref p1), .val (.ref p2), .val (.ref p3), .val (.ref r4), .val (.double w1), .second] [(.double w2)]))
  refine own_by (fun _ kz => XS.dstore X12.here hx rfl (hb hby d17_69) rfl (l' := #[.val (.ref p0), .val (.ref p1), .val (.ref p2), .val (.ref p3), .val (.ref r4), .val (.double w2), .second]) rfl kz) ?_
  show own_Go _ _ _ _ _ _ _ (T12.setTop (mkF m 71 #[.val (.ref p0), .val (.ref p1), .val (.ref p2), .val (.ref p3), .val (.ref r4), .val (.double w2), .second] []))
  refine own_by (fun _ kz => XS.dload X12.here hx rfl (hb hby d17_71) rfl kz) ?_
  refine own_by (fun _ kz => XS.dconst0 X12.here hx rfl (hb hby d17_73) rfl kz) ?_
  show own_Go _ _ _ _ _ _ _ (T12.setTop (mkF m 74 #[.val (.ref p0), .val (.ref p1), .val (.ref p2), .val (.ref p3), .val (.ref r4), .val (.double w2), .second] [(.double FP.dconst0), (.double w2)]))
  refine own_by (fun _ kz => XS.dcmpS X12.here hx rfl (hb hby d17_74) rfl rfl kz) ?_
  show own_Go _ _ _ _ _ _ _ (T12.setTop (mkF m 75 #[.val (.ref p0), .val (.ref p1), .val (.ref p2), .val (.ref p3), .val (.ref r4), .val (.double w2), .second] [(.int (cmpValue (FP.dcmp w2 FP.dconst0) .l))]))
  refine own_by (fun _ kz => XS.ifNo X12.here hx rfl (hb hby d17_75) rfl ((if0 _ _).trans (flt pm18.1).1) kz) ?_
  show own_Go _ _ _ _ _ _ _ (T12.setTop (mkF m 78 #[.val (.ref p0), .val (.ref p1), .val (.ref p2), .val (.ref p3), .val (.ref r4), .val (.double w2), .second] []))
  refine own_by (fun _ kz => XS.dload X12.here hx rfl (hb hby d17_78) rfl kz) ?_
  refine own_by (fun _ kz => XS.dconst1 X12.here hx rfl (hb hby d17_80) rfl kz) ?_
  show own_Go _ _ _ _ _ _ _ (T12.setTop (mkF m 81 #[.val (.ref p0), .val (.ref p1), .val (.ref p2), .val (.ref p3), .val (.ref r4), .val (.double w2), .second] [(.double FP.dconst1), (.double w2)]))
  refine own_by (fun _ kz => XS.dcmpS X12.here hx rfl (hb hby d17_81) rfl rfl kz) ?_
  show own_Go _ _ _ _ _ _ _ (T12.setTop (mkF m 82 #[.val (.ref p0), .val (.ref p1), .val (.ref p2), .val (.ref p3), .val (.ref r4), .val (.double w2), .second] [(.int (cmpValue (FP.dcmp w2 FP.dconst1) .g))]))
  refine own_by (fun _ kz => XS.ifYes X12.here hx rfl (pc0 := 82) (pc' := 100) rfl (hb hby d17_82) rfl ((if0 _ _).trans (flt pm18.2).2.2.2) (by decide) (by decide) kz) ?_
  show own_Go _ _ _ _ _ _ _ (T12.setTop (mkF m 100 #[.val (.ref p0), .val (.ref p1), .val (.ref p2), .val (.ref p3), .val (.ref r4), .val (.double w2), .second] []))
  refine own_by (fun _ kz => XS.goto X12.here hx rfl (pc0 := 100) (pc' := 46) rfl (hb hby d17_100) (by decide) (by decide) kz) ?_
  show own_Go _ _ _ _ _ _ _ (T12.setTop (mkF m 46 #[.val (.ref p0), .val (.ref p1), .val (.ref p2), .val (.ref p3), .val (.ref r4), .val (.double w2), .second] []))
  refine own_by (fun _ kz => XS.aload X12.here hx rfl (hb hby d17_46) rfl rfl kz) ?_
  show own_Go _ _ _ _ _ _ _ (T12.setTop (mkF m 48 #[.val (.ref p0), .val (.ref p1), .val (.ref p2), .val (.ref p3), .val (.ref r4), .val (.double w2), .second] [(.ref r4)]))
  obtain ⟨v13, T13, L13, X13, q13, st13⟩ := own_callF (xi := (⟨"java/util/Iterator", "hasNext", "()Z"⟩ : MethodName)) (y := (⟨"java/util/ArrayList$Itr", "hasNext", "()Z"⟩ : MethodName)) X12 hx hZ hown (ow hw 159 rfl) (ow hw 160 rfl) (mvT hZ (ow hw 161 rfl)) (ow hw 162 rfl) (ow hw 163 rfl) (ow hw 164 rfl) (ow hw 165 rfl) (ow hw 166 rfl) (ow hw 146 rfl) (ow hw 167 rfl) (by decide) (rm22_2_2 l Z a0 hw [] r4 T10.heap n0 Z10 p3 o10_1 o10_0 pm10_h10) (W := 0) (by decide) (by decide) hh12 o4_1_h10 (g := (mkF m 48 #[.val (.ref p0), .val (.ref p1), .val (.ref p2), .val (.ref p3), .val (.ref r4), .val (.double w2), .second] [(.ref r4)])) rfl (by rw [hml]; rfl) (argsL := []) (rest := []) (lenOf pd_22 rfl) rfl rfl (by show 2 * 0 + _ ≤ _; exact Nat.le_of_eq rfl) (hb hby d17_48) (by decide) (by decide)
  obtain ⟨rfl, Nq13, hh13⟩ := q13
  have N13 := Fr.app N12 Nq13
  refine own_by st13 ?_
  show own_Go _ _ _ _ _ _ _ (T13.setTop (mkF m 53 #[.val (.ref p0), .val (.ref p1), .val (.ref p2), .val (.ref p3), .val (.ref r4), .val (.double w2), .second] [(.int (0 : Int32))]))
  refine own_by (fun _ kz => XS.ifYes X13.here hx rfl (pc0 := 53) (pc' := 103) rfl (hb hby d17_53) rfl ((if0 _ _).trans (teq (by decide : ((0 : Int32) = (0 : Int32)))).1) (by decide) (by decide) kz) ?_
  show own_Go _ _ _ _ _ _ _ (T13.setTop (mkF m 103 #[.val (.ref p0), .val (.ref p1), .val (.ref p2), .val (.ref p3), .val (.ref r4), .val (.double w2), .second] []))
  refine own_by (fun _ kz => XS.aloadN X13.here hx rfl (hb hby d17_103) rfl rfl kz) ?_
  show own_Go _ _ _ _ _ _ _ (T13.setTop (mkF m 104 #[.val (.ref p0), .val (.ref p1), .val (.ref p2), .val (.ref p3), .val (.ref r4), .val (.double w2), .second] [(.ref p3)]))
  obtain ⟨v14, T14, L14, X14, q14, st14⟩ := own_callS X13 hx hZ hown (ow hw 191 rfl) (ow hw 192 rfl) (ow hw 193 rfl) (ow hw 194 rfl) (by decide) (rm26_2 l Z a0 hw [] p3 T10.heap n0 Z10 mr MI ea kA d1 d2 pm7_h10 pm9_h10 pm10_h10 pm11_h10 pm12_h10 pm13_h10 pm16_h10) (W := 0) (by decide) (by decide) hh13 (g := (mkF m 104 #[.val (.ref p0), .val (.ref p1), .val (.ref p2), .val (.ref p3), .val (.ref r4), .val (.double w2), .second] [(.ref p3)])) rfl (by rw [hml]; rfl) (argsL := [(.ref p3)]) (rest := []) (lenOf pd_26 rfl) rfl rfl (by show 2 * 0 + _ ≤ _; exact Nat.le_of_eq rfl) (hb hby d17_104) (by decide) (by decide)
  obtain ⟨r14, rfl, Nq14, Kq14, o14_0, o14_1, o14_2, o14_3⟩ := q14
  have N14 := Fr.app N13 Nq14
  have Z14 : n0 ≤ T14.heap.size := Nat.le_trans Z10 Kq14.1
  have K14 := K10.trans Kq14 all0
  have pm0_h14 := pm0_h10.keep Kq14
  have pm1_h14 := pm1_h10.keep Kq14 nin0
  have pm2_h14 := pm2_h10.keep Kq14 nin0
  have pm3_h14 := pm3_h10.keep Kq14 nin0
  have ge_r14 : n0 ≤ r14 := Nat.le_trans Z10 o14_0
  have sz_r14 : h0.size ≤ r14 := Nat.le_trans K10.1 o14_0
  have ne_p0_r14 : p0 ≠ r14 := Nat.ne_of_lt (Nat.lt_of_lt_of_le pm0_h10.lt o14_0)
  have ne_p3_r14 : p3 ≠ r14 := Nat.ne_of_lt (Nat.lt_of_lt_of_le pm7_h10.lt o14_0)
  have ne_ea_r14 : ea ≠ r14 := Nat.ne_of_lt (Nat.lt_of_lt_of_le pm11_h10.lt o14_0)
  have ne_d1_r14 : d1 ≠ r14 := Nat.ne_of_lt (Nat.lt_of_lt_of_le pm13_h10.lt o14_0)
  have ne_d2_r14 : d2 ≠ r14 := Nat.ne_of_lt (Nat.lt_of_lt_of_le pm16_h10.lt o14_0)
  have ne_r4_r14 : r4 ≠ r14 := Nat.ne_of_lt (Nat.lt_of_lt_of_le o4_1_h10.lt o14_0)
  refine own_by st14 ?_
  show own_Go _ _ _ _ _ _ _ (T14.setTop (mkF m 107 #[.val (.ref p0), .val (.ref p1), .val (.ref p2), .val (.ref p3), .val (.ref r4), .val (.double w2), .second] [(.ref r14)]))
  refine own_by (fun _ kz => XS.astoreN X14.here hx rfl (hb hby d17_107) rfl rfl (l' := #[.val (.ref p0), .val (.ref p1), .val (.ref p2), .val (.ref r14), .val (.ref r4), .val (.double w2), .second]) rfl kz) ?_
  show own_Go _ _ _ _ _ _ _ (T14.setTop (mkF m 108 #[.val (.ref p0), .val (.ref p1), .val (.ref p2), .val (.ref r14), .val (.ref r4), .val (.double w2), .second] []))
  refine own_by (fun _ kz => XS.aloadN X14.here hx rfl (hb hby d17_108) rfl rfl kz) ?_
  refine own_by (fun _ kz => XS.aloadN X14.here hx rfl (hb hby d17_109) rfl rfl kz) ?_
  obtain ⟨T15, h15, X15, e15, W15, st15⟩ := putF X14 hx hZ hown (host := "") (Or.inl (ow hw 272 rfl)) Via.refl rfl pm1_h14 pm0_h14 (Or.inr ⟨ (ow hw 273 rfl), rfl, hnm⟩) (ow hw 83 rfl) (ty := (.object "com/example/inferlink/inferlink/Link")) (by decide) rfl rfl (g := (mkF m 110 #[.val (.ref p0), .val (.ref p1), .val (.ref p2), .val (.ref r14), .val (.ref r4), .val (.double w2), .second] [(.ref p1), (.ref p0)])) rfl rfl (hb hby d17_110)
  have N15 := Fr.snoc X15 N14 pm4
  have Z15 : n0 ≤ h15.size := by rw [W15.size]; exact Z14
  have K15 := K14.wr W15 (Or.inl (List.mem_of_getElem? (i := 0) rfl))
  have pm0_h15 := pm0_h14.wr W15
  have pm1_h15 := pm1_h14.same W15
  have pm2_h15 := pm2_h14.other W15 (Or.inr (slot_ne (Or.inr (ow hw 275 rfl)) (Or.inr (ow hw 273 rfl)) (by decide) (by decide : parseFieldDescriptor "Lcom/example/inferlink/inferlink/LinkStatus;" = some (.object "com/example/inferlink/inferlink/LinkStatus")) (by decide : parseFieldDescriptor "Lcom/example/inferlink/inferlink/Link;" = some (.object "com/example/inferlink/inferlink/Link"))))
  have pm3_h15 := pm3_h14.other W15 (Or.inr (slot_ne (Or.inr (ow hw 277 rfl)) (Or.inr (ow hw 273 rfl)) (by decide) (by decide : parseFieldDescriptor "Ljava/util/List;" = some (.object "java/util/List")) (by decide : parseFieldDescriptor "Lcom/example/inferlink/inferlink/Link;" = some (.object "com/example/inferlink/inferlink/Link"))))
  have o14_1_h15 := o14_1.wr W15
  have o14_2_h15 := o14_2.other W15 (Or.inl (Ne.symm ne_p0_r14))
  have o14_3_h15 := o14_3.other W15 (Or.inl (Ne.symm ne_p0_r14))
  refine own_by st15 ?_
  show own_Go _ _ _ _ _ _ _ (T15.setTop (mkF m 113 #[.val (.ref p0), .val (.ref p1), .val (.ref p2), .val (.ref r14), .val (.ref r4), .val (.double w2), .second] []))
  refine own_by (fun _ kz => XS.aloadN X15.here hx rfl (hb hby d17_113) rfl rfl kz) ?_
  refine own_by (fun _ kz => XS.aloadN X15.here hx rfl (hb hby d17_114) rfl rfl kz) ?_
  obtain ⟨T16, h16, X16, e16, W16, st16⟩ := putF X15 hx hZ hown (host := "") (Or.inl (ow hw 274 rfl)) Via.refl e15 pm2_h15 pm0_h15 (Or.inr ⟨ (ow hw 275 rfl), rfl, hnm⟩) (ow hw 83 rfl) (ty := (.object "com/example/inferlink/inferlink/LinkStatus")) (by decide) rfl rfl (g := (mkF m 115 #[.val (.ref p0), .val (.ref p1), .val (.ref p2), .val (.ref r14), .val (.ref r4), .val (.double w2), .second] [(.ref p2), (.ref p0)])) rfl rfl (hb hby d17_115)
  have N16 := Fr.snoc X16 N15 pm4
  have Z16 : n0 ≤ h16.size := by rw [W16.size]; exact Z15
  have K16 := K15.wr W16 (Or.inl (List.mem_of_getElem? (i := 0) rfl))
  have pm0_h16 := pm0_h15.wr W16
  have pm1_h16 := pm1_h15.other W16 (Or.inr (slot_ne (Or.inr (ow hw 273 rfl)) (Or.inr (ow hw 275 rfl)) (by decide) (by decide : parseFieldDescriptor "Lcom/example/inferlink/inferlink/Link;" = some (.object "com/example/inferlink/inferlink/Link")) (by decide : parseFieldDescriptor "Lcom/example/inferlink/inferlink/LinkStatus;" = some (.object "com/example/inferlink/inferlink/LinkStatus"))))
  have pm2_h16 := pm2_h15.same W16
  have pm3_h16 := pm3_h15.other W16 (Or.inr (slot_ne (Or.inr (ow hw 277 rfl)) (Or.inr (ow hw 275 rfl)) (by decide) (by decide : parseFieldDescriptor "Ljava/util/List;" = some (.object "java/util/List")) (by decide : parseFieldDescriptor "Lcom/example/inferlink/inferlink/LinkStatus;" = some (.object "com/example/inferlink/inferlink/LinkStatus"))))
  have o14_1_h16 := o14_1_h15.wr W16
  have o14_2_h16 := o14_2_h15.other W16 (Or.inl (Ne.symm ne_p0_r14))
  have o14_3_h16 := o14_3_h15.other W16 (Or.inl (Ne.symm ne_p0_r14))
  refine own_by st16 ?_
  show own_Go _ _ _ _ _ _ _ (T16.setTop (mkF m 118 #[.val (.ref p0), .val (.ref p1), .val (.ref p2), .val (.ref r14), .val (.ref r4), .val (.double w2), .second] []))
  refine own_by (fun _ kz => XS.aloadN X16.here hx rfl (hb hby d17_118) rfl rfl kz) ?_
  refine own_by (fun _ kz => XS.aloadN X16.here hx rfl (hb hby d17_119) rfl rfl kz) ?_
  obtain ⟨T17, h17, X17, e17, W17, st17⟩ := putF X16 hx hZ hown (host := "") (Or.inl (ow hw 276 rfl)) Via.refl e16 pm3_h16 pm0_h16 (Or.inr ⟨ (ow hw 277 rfl), rfl, hnm⟩) (ow hw 83 rfl) (ty := (.object "java/util/List")) (by decide) rfl rfl (g := (mkF m 120 #[.val (.ref p0), .val (.ref p1), .val (.ref p2), .val (.ref r14), .val (.ref r4), .val (.double w2), .second] [(.ref r14), (.ref p0)])) rfl rfl (hb hby d17_120)
  have N17 := Fr.snoc X17 N16 pm4
  have Z17 : n0 ≤ h17.size := by rw [W17.size]; exact Z16
  have K17 := K16.wr W17 (Or.inl (List.mem_of_getElem? (i := 0) rfl))
  have pm0_h17 := pm0_h16.wr W17
  have pm1_h17 := pm1_h16.other W17 (Or.inr (slot_ne (Or.inr (ow hw 273 rfl)) (Or.inr (ow hw 277 rfl)) (by decide) (by decide : parseFieldDescriptor "Lcom/example/inferlink/inferlink/Link;" = some (.object "com/example/inferlink/inferlink/Link")) (by decide : parseFieldDescriptor "Ljava/util/List;" = some (.object "java/util/List"))))
  have pm2_h17 := pm2_h16.other W17 (Or.inr (slot_ne (Or.inr (ow hw 275 rfl)) (Or.inr (ow hw 277 rfl)) (by decide) (by decide : parseFieldDescriptor "Lcom/example/inferlink/inferlink/LinkStatus;" = some (.object "com/example/inferlink/inferlink/LinkStatus")) (by decide : parseFieldDescriptor "Ljava/util/List;" = some (.object "java/util/List"))))
  have pm3_h17 := pm3_h16.same W17
  have o14_1_h17 := o14_1_h16.wr W17
  have o14_2_h17 := o14_2_h16.other W17 (Or.inl (Ne.symm ne_p0_r14))
  have o14_3_h17 := o14_3_h16.other W17 (Or.inl (Ne.symm ne_p0_r14))
  refine own_by st17 ?_
  show own_Go _ _ _ _ _ _ _ (T17.setTop (mkF m 123 #[.val (.ref p0), .val (.ref p1), .val (.ref p2), .val (.ref r14), .val (.ref r4), .val (.double w2), .second] []))
  exact own_retV X17 hx hlk Bd.returns (hb hby d17_123) (by decide) (by decide) ⟨r14, rfl, N17, by rw [e17]; exact K17, by rw [e17]; exact pm3_h17, sz_r14, by rw [e17]; exact o14_1_h17, by rw [e17]; exact o14_2_h17, by rw [e17]; exact o14_3_h17⟩
theorem ef_17_3 (m : MethodId) (p0 : Addr) (p1 : Addr) (p2 : Addr) (p3 : Addr) : entryFrame m #[(.ref p0), (.ref p1), (.ref p2), (.ref p3)] 7 = mkF m 0 #[.val (.ref p0), .val (.ref p1), .val (.ref p2), .val (.ref p3), .unset, .unset, .unset] [] := by first | (simp [entryFrame, mkF, argsToLocals, Value.category]; done) | rfl
def Q17_3 (Z : State) (p0 : Addr) (p1 : Addr) (p2 : Addr) (p3 : Addr) (mr : Addr) (ea : Addr) (kA : ClassId) (d1 : Addr) (d2 : Addr) (d3 : Addr) (w1 : UInt64) (w2 : UInt64) (w3 : UInt64) (h0 : Heap) (n0 : Nat) (v : Option Value) (h : Heap) (L : List Loc) : Prop := ∃ (r : Addr) (ra : Addr) (kC : ClassId), v = none ∧ Fr n0 L ∧ Keep h0 h [p0] ∧ Fld Z h p0 "com/example/inferlink/inferlink/LinkDelay" "probabilities" "Ljava/util/List;" (.ref r) ∧ h0.size ≤ r ∧ h0.size ≤ ra ∧ ra ≠ r ∧ Exa Z h r "java/util/ImmutableCollections$ListN" ∧ Fld Z h r "java/util/ImmutableCollections$ListN" "elements" "[Ljava/lang/Object;" (.ref ra) ∧ Arv Z h ra kC (.object "java/lang/Object") (3 : Int32) [(.ref d1), (.ref d2), (.ref d3)] .null
theorem rm17_3 (l : Launch) (Z : State) (a0 : Array Value) (hw : ∀ d ∈ tables_1, d.before a0 Z = true) (ws : List Jvm.Cond) (p0 : Addr) (p1 : Addr) (p2 : Addr) (p3 : Addr) (h0 : Heap) (n0 : Nat) (Z0 : n0 ≤ h0.size) (mr : Addr) (MI : own_Mi Z "[Ljava/lang/Object;" mr) (ea : Addr) (kA : ClassId) (d1 : Addr) (d2 : Addr) (d3 : Addr) (w1 : UInt64) (w2 : UInt64) (w3 : UInt64) (pm0 : Exa Z h0 p0 "com/example/inferlink/inferlink/LinkDelay") (pm1 : Fld Z h0 p0 "com/example/inferlink/inferlink/LinkDelay" "link" "Lcom/example/inferlink/inferlink/Link;" .null) (pm2 : Fld Z h0 p0 "com/example/inferlink/inferlink/LinkDelay" "status" "Lcom/example/inferlink/inferlink/LinkStatus;" .null) (pm3 : Fld Z h0 p0 "com/example/inferlink/inferlink/LinkDelay" "probabilities" "Ljava/util/List;" .null) (pm4 : n0 ≤ p0) (pm5 : Exa Z h0 p2 "com/example/inferlink/inferlink/LinkStatus") (pm6 : Fld Z h0 p2 "com/example/inferlink/inferlink/LinkStatus" "hasSuccess" "Z" (.int (1 : Int32))) (pm7 : Exa Z h0 p3 "java/util/ArrayList") (pm8 : Fld Z h0 p3 "java/util/AbstractList" "modCount" "I" (.int (3 : Int32))) (pm9 : Fld Z h0 p3 "java/util/ArrayList" "elementData" "[Ljava/lang/Object;" (.ref ea)) (pm10 : Fld Z h0 p3 "java/util/ArrayList" "size" "I" (.int (3 : Int32))) (pm11 : Exa Z h0 ea "[Ljava/lang/Object;") (pm12 : Arv Z h0 ea kA (.object "java/lang/Object") (10 : Int32) [(.ref d1), (.ref d2), (.ref d3), .null, .null, .null, .null, .null, .null, .null] .null) (pm13 : Exa Z h0 d1 "java/lang/Double") (pm14 : Fld Z h0 d1 "java/lang/Double" "value" "D" (.double w1)) (pm15 : own_In w1) (pm16 : Exa Z h0 d2 "java/lang/Double") (pm17 : Fld Z h0 d2 "java/lang/Double" "value" "D" (.double w2)) (pm18 : own_In w2) (pm19 : Exa Z h0 d3 "java/lang/Double") (pm20 : Fld Z h0 d3 "java/lang/Double" "value" "D" (.double w3)) (pm21 : own_In w3) :
    own_Met l Z (⟨"com/example/inferlink/inferlink/LinkDelay", "<init>", "(Lcom/example/inferlink/inferlink/Link;Lcom/example/inferlink/inferlink/LinkStatus;Ljava/util/List;)V"⟩ : MethodName) prog_20_method_1_code 7 none ws ({ frames := 9, cells := 4, slots := 12, locals := 116 } : Room) #[(.ref p0), (.ref p1), (.ref p2), (.ref p3)] h0 (Q17_3 Z p0 p1 p2 p3 mr ea kA d1 d2 d3 w1 w2 w3 h0 n0) := by
  refine MetFree.of_bodySF pf_17 hisR ?_
  intro p e s m args below meth c s₁ Bd hml0 hP hK
  obtain ⟨rfl, hZ, hh⟩ := hP
  have hx := Bd.exec
  have hby := Bd.bytes
  have hlk : meth.locks = false := BodyLoose.notSynchronized Bd
  have hml : c.maxLocals = 7 := hml0
  have hown : s.vm.findClass "com/example/inferlink/inferlink/LinkDelay" = some m.cls := findClass_of_methodNamed Bd.named
  have hnm := (name_of_methodNamed Bd.named Bd.method).1
  have X0 : Stand p l e ({ frames := 9, cells := 4, slots := 12, locals := 116 } : Room) s m #[(.ref p0), (.ref p1), (.ref p2), (.ref p3)] below meth c s₁ [] 0 0 := Stand.of_body Bd
  have e0 : s₁.heap = h0 := by rw [← hh, Bd.state]; rfl
  have N0 := Fr.nil n0
  have K0 := Keep.refl h0 [p0]
  show own_Go _ _ _ _ (Q17_3 Z p0 p1 p2 p3 mr ea kA d1 d2 d3 w1 w2 w3 h0 n0) _ _ _
  refine own_by (fun _ k => castTop (ef_17_3 m p0 p1 p2 p3) k) ?_
  show own_Go _ _ _ _ _ _ _ (s₁.setTop (mkF m 0 #[.val (.ref p0), .val (.ref p1), .val (.ref p2), .val (.ref p3), .unset, .unset, .unset] []))
  refine own_by (fun _ kz => XS.aloadN X0.here hx rfl (hb hby d17_0) rfl rfl kz) ?_
  show own_Go _ _ _ _ _ _ _ (s₁.setTop (mkF m 1 #[.val (.ref p0), .val (.ref p1), .val (.ref p2), .val (.ref p3), .unset, .unset, .unset] [(.ref p0)]))
  obtain ⟨v1, T1, L1, X1, q1, st1⟩ := own_callI X0 hx hZ rfl hown (ow hw 119 rfl) (ow hw 101 rfl) (ow hw 103 rfl) (ow hw 104 rfl) (by decide) (rm15 l Z a0 hw [] p0 h0 n0 Z0 ) (W := 0) (by decide) (by decide) e0 (g := (mkF m 1 #[.val (.ref p0), .val (.ref p1), .val (.ref p2), .val (.ref p3), .unset, .unset, .unset] [(.ref p0)])) rfl (by rw [hml]; rfl) (a := p0) (argsL := []) (rest := []) (lenOf pd_15 rfl) rfl rfl (by show 2 * 0 + _ ≤ _; exact Nat.le_of_eq rfl) (hb hby d17_1) (by decide) (by decide)
  obtain ⟨rfl, Nq1, hh1⟩ := q1
  have N1 := Fr.app N0 Nq1
  refine own_by st1 ?_
  show own_Go _ _ _ _ _ _ _ (T1.setTop (mkF m 4 #[.val (.ref p0), .val (.ref p1), .val (.ref p2), .val (.ref p3), .unset, .unset, .unset] []))
  refine own_by (fun _ kz => XS.aloadN X1.here hx rfl (hb hby d17_4) rfl rfl kz) ?_
  show own_Go _ _ _ _ _ _ _ (T1.setTop (mkF m 5 #[.val (.ref p0), .val (.ref p1), .val (.ref p2), .val (.ref p3), .unset, .unset, .unset] [(.ref p3)]))
  obtain ⟨v2, T2, L2, X2, q2, st2⟩ := own_callF (xi := (⟨"java/util/List", "isEmpty", "()Z"⟩ : MethodName)) (y := (⟨"java/util/ArrayList", "isEmpty", "()Z"⟩ : MethodName)) X1 hx hZ hown (ow hw 120 rfl) (ow hw 121 rfl) (mvT hZ (ow hw 122 rfl)) (ow hw 123 rfl) (ow hw 124 rfl) (ow hw 125 rfl) (ow hw 126 rfl) (ow hw 127 rfl) (ow hw 8 rfl) (ow hw 128 rfl) (by decide) (rm18 l Z a0 hw [] p3 h0 n0 Z0 (3 : Int32) pm10 (by decide)) (W := 0) (by decide) (by decide) hh1 pm7 (g := (mkF m 5 #[.val (.ref p0), .val (.ref p1), .val (.ref p2), .val (.ref p3), .unset, .unset, .unset] [(.ref p3)])) rfl (by rw [hml]; rfl) (argsL := []) (rest := []) (lenOf pd_18 rfl) rfl rfl (by show 2 * 0 + _ ≤ _; exact Nat.le_of_eq rfl) (hb hby d17_5) (by decide) (by decide)
  obtain ⟨rfl, Nq2, hh2⟩ := q2
  have N2 := Fr.app N1 Nq2
  refine own_by st2 ?_
  show own_Go _ _ _ _ _ _ _ (T2.setTop (mkF m 10 #[.val (.ref p0), .val (.ref p1), .val (.ref p2), .val (.ref p3), .unset, .unset, .unset] [(.int (0 : Int32))]))
  refine own_by (fun _ kz => XS.aloadN X2.here hx rfl (hb hby d17_10) rfl rfl kz) ?_
  show own_Go _ _ _ _ _ _ _ (T2.setTop (mkF m 11 #[.val (.ref p0), .val (.ref p1), .val (.ref p2), .val (.ref p3), .unset, .unset, .unset] [(.ref p2), (.int (0 : Int32))]))
  obtain ⟨v3, T3, L3, X3, q3, st3⟩ := own_callV X2 hx hZ hown (ow hw 129 rfl) (ow hw 130 rfl) (ow hw 132 rfl) (ow hw 131 rfl) (ow hw 114 rfl) (ow hw 133 rfl) (by decide) (rm19 l Z a0 hw [] p2 h0 n0 Z0 pm6) (W := 1) (by decide) (by decide) hh2 pm5 (g := (mkF m 11 #[.val (.ref p0), .val (.ref p1), .val (.ref p2), .val (.ref p3), .unset, .unset, .unset] [(.ref p2), (.int (0 : Int32))])) rfl (by rw [hml]; rfl) (argsL := []) (rest := [(.int (0 : Int32))]) (lenOf pd_19 rfl) rfl rfl (by show 2 * 0 + _ ≤ _; exact Nat.le_of_eq rfl) (hb hby d17_11) (by decide) (by decide)
  obtain ⟨rfl, Nq3, hh3⟩ := q3
  have N3 := Fr.app N2 Nq3
  refine own_by st3 ?_
  show own_Go _ _ _ _ _ _ _ (T3.setTop (mkF m 14 #[.val (.ref p0), .val (.ref p1), .val (.ref p2), .val (.ref p3), .unset, .unset, .unset] [(.int (1 : Int32)), (.int (0 : Int32))]))
  refine own_by (fun _ kz => XS.icmpYes X3.here hx rfl (pc0 := 14) (pc' := 38) rfl (hb hby d17_14) rfl (feq (by decide : ¬ ((0 : Int32) = (1 : Int32)))).2 (by decide) (by decide) kz) ?_
  show own_Go _ _ _ _ _ _ _ (T3.setTop (mkF m 38 #[.val (.ref p0), .val (.ref p1), .val (.ref p2), .val (.ref p3), .unset, .unset, .unset] []))
  refine own_by (fun _ kz => XS.aloadN X3.here hx rfl (hb hby d17_38) rfl rfl kz) ?_
  show own_Go _ _ _ _ _ _ _ (T3.setTop (mkF m 39 #[.val (.ref p0), .val (.ref p1), .val (.ref p2), .val (.ref p3), .unset, .unset, .unset] [(.ref p3)]))
  obtain ⟨v4, T4, L4, X4, q4, st4⟩ := own_callF (xi := (⟨"java/util/List", "iterator", "()Ljava/util/Iterator;"⟩ : MethodName)) (y := (⟨"java/util/ArrayList", "iterator", "()Ljava/util/Iterator;"⟩ : MethodName)) X3 hx hZ hown (ow hw 136 rfl) (ow hw 137 rfl) (mvT hZ (ow hw 138 rfl)) (ow hw 139 rfl) (ow hw 140 rfl) (ow hw 141 rfl) (ow hw 142 rfl) (ow hw 127 rfl) (ow hw 8 rfl) (ow hw 143 rfl) (by decide) (rm20 l Z a0 hw [] p3 h0 n0 Z0 (3 : Int32) pm8) (W := 0) (by decide) (by decide) hh3 pm7 (g := (mkF m 39 #[.val (.ref p0), .val (.ref p1), .val (.ref p2), .val (.ref p3), .unset, .unset, .unset] [(.ref p3)])) rfl (by rw [hml]; rfl) (argsL := []) (rest := []) (lenOf pd_20 rfl) rfl rfl (by show 2 * 0 + _ ≤ _; exact Nat.le_of_eq rfl) (hb hby d17_39) (by decide) (by decide)
  obtain ⟨r4, rfl, Nq4, Kq4, o4_0, o4_1, o4_2, o4_3, o4_4, o4_5⟩ := q4
  have N4 := Fr.app N3 Nq4
  have Z4 : n0 ≤ T4.heap.size := Nat.le_trans Z0 Kq4.1
  have K4 := K0.trans Kq4 all0
  have pm0_h4 := pm0.keep Kq4
  have pm1_h4 := pm1.keep Kq4 nin0
  have pm2_h4 := pm2.keep Kq4 nin0
  have pm3_h4 := pm3.keep Kq4 nin0
  have pm7_h4 := pm7.keep Kq4
  have pm8_h4 := pm8.keep Kq4 nin0
  have pm9_h4 := pm9.keep Kq4 nin0
  have pm10_h4 := pm10.keep Kq4 nin0
  have pm11_h4 := pm11.keep Kq4
  have pm12_h4 := pm12.keep Kq4 nin0
  have pm13_h4 := pm13.keep Kq4
  have pm14_h4 := pm14.keep Kq4 nin0
  have pm16_h4 := pm16.keep Kq4
  have pm17_h4 := pm17.keep Kq4 nin0
  have pm19_h4 := pm19.keep Kq4
  have pm20_h4 := pm20.keep Kq4 nin0
  have ge_r4 : n0 ≤ r4 := Nat.le_trans Z0 o4_0
  have sz_r4 : h0.size ≤ r4 := Nat.le_trans K0.1 o4_0
  have ne_p0_r4 : p0 ≠ r4 := Nat.ne_of_lt (Nat.lt_of_lt_of_le pm0.lt o4_0)
  have ne_p3_r4 : p3 ≠ r4 := Nat.ne_of_lt (Nat.lt_of_lt_of_le pm7.lt o4_0)
  have ne_ea_r4 : ea ≠ r4 := Nat.ne_of_lt (Nat.lt_of_lt_of_le pm11.lt o4_0)
  have ne_d1_r4 : d1 ≠ r4 := Nat.ne_of_lt (Nat.lt_of_lt_of_le pm13.lt o4_0)
  have ne_d2_r4 : d2 ≠ r4 := Nat.ne_of_lt (Nat.lt_of_lt_of_le pm16.lt o4_0)
  have ne_d3_r4 : d3 ≠ r4 := Nat.ne_of_lt (Nat.lt_of_lt_of_le pm19.lt o4_0)
  refine own_by st4 ?_
  show own_Go _ _ _ _ _ _ _ (T4.setTop (mkF m 44 #[.val (.ref p0), .val (.ref p1), .val (.ref p2), .val (.ref p3), .unset, .unset, .unset] [(.ref r4)]))
  refine own_by (fun _ kz => XS.astore X4.here hx rfl (hb hby d17_44) rfl rfl (l' := #[.val (.ref p0), .val (.ref p1), .val (.ref p2), .val (.ref p3), .val (.ref r4), .unset, .unset]) rfl kz) ?_
  show own_Go _ _ _ _ _ _ _ (T4.setTop (mkF m 46 #[.val (.ref p0), .val (.ref p1), .val (.ref p2), .val (.ref p3), .val (.ref r4), .unset, .unset] []))
  refine own_by (fun _ kz => XS.aload X4.here hx rfl (hb hby d17_46) rfl rfl kz) ?_
  show own_Go _ _ _ _ _ _ _ (T4.setTop (mkF m 48 #[.val (.ref p0), .val (.ref p1), .val (.ref p2), .val (.ref p3), .val (.ref r4), .unset, .unset] [(.ref r4)]))
  obtain ⟨v5, T5, L5, X5, q5, st5⟩ := own_callF (xi := (⟨"java/util/Iterator", "hasNext", "()Z"⟩ : MethodName)) (y := (⟨"java/util/ArrayList$Itr", "hasNext", "()Z"⟩ : MethodName)) X4 hx hZ hown (ow hw 159 rfl) (ow hw 160 rfl) (mvT hZ (ow hw 161 rfl)) (ow hw 162 rfl) (ow hw 163 rfl) (ow hw 164 rfl) (ow hw 165 rfl) (ow hw 166 rfl) (ow hw 146 rfl) (ow hw 167 rfl) (by decide) (rm22_0_3 l Z a0 hw [] r4 T4.heap n0 Z4 p3 o4_3 o4_2 pm10_h4) (W := 0) (by decide) (by decide) rfl o4_1 (g := (mkF m 48 #[.val (.ref p0), .val (.ref p1), .val (.ref p2), .val (.ref p3), .val (.ref r4), .unset, .unset] [(.ref r4)])) rfl (by rw [hml]; rfl) (argsL := []) (rest := []) (lenOf pd_22 rfl) rfl rfl (by show 2 * 0 + _ ≤ _; exact Nat.le_of_eq rfl) (hb hby d17_48) (by decide) (by decide)
  obtain ⟨rfl, Nq5, hh5⟩ := q5
  have N5 := Fr.app N4 Nq5
  refine own_by st5 ?_
  show own_Go _ _ _ _ _ _ _ (T5.setTop (mkF m 53 #[.val (.ref p0), .val (.ref p1), .val (.ref p2), .val (.ref p3), .val (.ref r4), .unset, .unset] [(.int (1 : Int32))]))
  refine own_by (fun _ kz => XS.ifNo X5.here hx rfl (hb hby d17_53) rfl ((if0 _ _).trans (feq (by decide : ¬ ((1 : Int32) = (0 : Int32)))).1) kz) ?_
  show own_Go _ _ _ _ _ _ _ (T5.setTop (mkF m 56 #[.val (.ref p0), .val (.ref p1), .val (.ref p2), .val (.ref p3), .val (.ref r4), .unset, .unset] []))
  refine own_by (fun _ kz => XS.aload X5.here hx rfl (hb hby d17_56) rfl rfl kz) ?_
  show own_Go _ _ _ _ _ _ _ (T5.setTop (mkF m 58 #[.val (.ref p0), .val (.ref p1), .val (.ref p2), .val (.ref p3), .val (.ref r4), .unset, .unset] [(.ref r4)]))
  obtain ⟨v6, T6, L6, X6, q6, st6⟩ := own_callF (xi := (⟨"java/util/Iterator", "next", "()Ljava/lang/Object;"⟩ : MethodName)) (y := (⟨"java/util/ArrayList$Itr", "next", "()Ljava/lang/Object;"⟩ : MethodName)) X5 hx hZ hown (ow hw 171 rfl) (ow hw 172 rfl) (mvT hZ (ow hw 173 rfl)) (ow hw 174 rfl) (ow hw 175 rfl) (ow hw 176 rfl) (ow hw 177 rfl) (ow hw 166 rfl) (ow hw 146 rfl) (ow hw 178 rfl) (by decide) (rm23_0_3 l Z a0 hw [] r4 T4.heap n0 Z4 p3 (3 : Int32) ea kA d1 d2 d3 o4_1 o4_2 o4_3 o4_4 o4_5 pm8_h4 pm10_h4 pm9_h4 pm12_h4 ne_p3_r4 ne_ea_r4 ge_r4) (W := 0) (by decide) (by decide) hh5 o4_1 (g := (mkF m 58 #[.val (.ref p0), .val (.ref p1), .val (.ref p2), .val (.ref p3), .val (.ref r4), .unset, .unset] [(.ref r4)])) rfl (by rw [hml]; rfl) (argsL := []) (rest := []) (lenOf pd_23 rfl) rfl rfl (by show 2 * 0 + _ ≤ _; exact Nat.le_of_eq rfl) (hb hby d17_58) (by decide) (by decide)
  obtain ⟨rfl, Nq6, Kq6, o6_0, o6_1, o6_2, o6_3⟩ := q6
  have N6 := Fr.app N5 Nq6
  have Z6 : n0 ≤ T6.heap.size := Nat.le_trans Z4 Kq6.1
  have K6 := K4.trans Kq6 (allS (Or.inr sz_r4) all0)
  have pm0_h6 := pm0_h4.keep Kq6
  have pm1_h6 := pm1_h4.keep Kq6 (ninS ne_p0_r4 nin0)
  have pm2_h6 := pm2_h4.keep Kq6 (ninS ne_p0_r4 nin0)
  have pm3_h6 := pm3_h4.keep Kq6 (ninS ne_p0_r4 nin0)
  have pm7_h6 := pm7_h4.keep Kq6
  have pm8_h6 := pm8_h4.keep Kq6 (ninS ne_p3_r4 nin0)
  have pm9_h6 := pm9_h4.keep Kq6 (ninS ne_p3_r4 nin0)
  have pm10_h6 := pm10_h4.keep Kq6 (ninS ne_p3_r4 nin0)
  have pm11_h6 := pm11_h4.keep Kq6
  have pm12_h6 := pm12_h4.keep Kq6 (ninS ne_ea_r4 nin0)
  have pm13_h6 := pm13_h4.keep Kq6
  have pm14_h6 := pm14_h4.keep Kq6 (ninS ne_d1_r4 nin0)
  have pm16_h6 := pm16_h4.keep Kq6
  have pm17_h6 := pm17_h4.keep Kq6 (ninS ne_d2_r4 nin0)
  have pm19_h6 := pm19_h4.keep Kq6
  have pm20_h6 := pm20_h4.keep Kq6 (ninS ne_d3_r4 nin0)
  have o4_1_h6 := o4_1.keep Kq6
  refine own_by st6 ?_
  show own_Go _ _ _ _ _ _ _ (T6.setTop (mkF m 63 #[.val (.ref p0), .val (.ref p1), .val (.ref p2), .val (.ref p3), .val (.ref r4), .unset, .unset] [(.ref d1)]))
  obtain ⟨T7, X7, e7, st7⟩ := castY X6 hx hZ hown (ow hw 185 rfl) rfl (Ins.self pm13_h6) (g := (mkF m 63 #[.val (.ref p0), .val (.ref p1), .val (.ref p2), .val (.ref p3), .val (.ref r4), .unset, .unset] [(.ref d1)])) rfl rfl (hb hby d17_63)
  refine own_by st7 ?_
  show own_Go _ _ _ _ _ _ _ (T7.setTop (mkF m 66 #[.val (.ref p0), .val (.ref p1), .val (.ref p2), .val (.ref p3), .val (.ref r4), .unset, .unset] [(.ref d1)]))
  obtain ⟨v8, T8, L8, X8, q8, st8⟩ := own_callV X7 hx hZ hown (ow hw 186 rfl) (ow hw 187 rfl) (ow hw 189 rfl) (ow hw 188 rfl) (ow hw 34 rfl) (ow hw 190 rfl) (by decide) (rm25 l Z a0 hw [] d1 T6.heap n0 Z6 w1 pm14_h6) (W := 0) (by decide) (by decide) e7 pm13_h6 (g := (mkF m 66 #[.val (.ref p0), .val (.ref p1), .val (.ref p2), .val (.ref p3), .val (.ref r4), .unset, .unset] [(.ref d1)])) rfl (by rw [hml]; rfl) (argsL := []) (rest := []) (lenOf pd_25 rfl) rfl rfl (by show 2 * 0 + _ ≤ _; exact Nat.le_of_eq rfl) (hb hby d17_66) (by decide) (by decide)
  obtain ⟨rfl, Nq8, hh8⟩ := q8
  have N8 := Fr.app N6 Nq8
  refine own_by st8 ?_
  show own_Go _ _ _ _ _ _ _ (T8.setTop (mkF m 69 #[.val (.ref p0), .val (.ref p1), .val (.ref p2), .val (.ref p3), .val (.ref r4), .unset, .unset] [(.double w1)]))
  refine own_by (fun _ kz => XS.dstore X8.here hx rfl (hb hby d17_69) rfl (l' := #[.val (.ref p0), .val (.ref p1), .val (.ref p2), .val (.ref p3), .val (.ref r4), .val (.double w1), .second]) rfl kz) ?_
  show own_Go _ _ _ _ _ _ _ (T8.setTop (mkF m 71 #[.val (.ref p0), .val (.ref p1), .val (.ref p2), .val (.ref p3), .val (.ref r4), .val (.double w1), .second] []))
  refine own_by (fun _ kz => XS.dload X8.here hx rfl (hb hby d17_71) rfl kz) ?_
  refine own_by (fun _ kz => XS.dconst0 X8.here hx rfl (hb hby d17_73) rfl kz) ?_
  show own_Go _ _ _ _ _ _ _ (T8.setTop (mkF m 74 #[.val (.ref p0), .val (.ref p1), .val (.ref p2), .val (.ref p3), .val (.ref r4), .val (.double w1), .second] [(.double FP.dconst0), (.double w1)]))
  refine own_by (fun _ kz => XS.dcmpS X8.here hx rfl (hb hby d17_74) rfl rfl kz) ?_
  show own_Go _ _ _ _ _ _ _ (T8.setTop (mkF m 75 #[.val (.ref p0), .val (.ref p1), .val (.ref p2), .val (.ref p3), .val (.ref r4), .val (.double w1), .second] [(.int (cmpValue (FP.dcmp w1 FP.dconst0) .l))]))
  refine own_by (fun _ kz => XS.ifNo X8.here hx rfl (hb hby d17_75) rfl ((if0 _ _).trans (flt pm15.1).1) kz) ?_
  show own_Go _ _ _ _ _ _ _ (T8.setTop (mkF m 78 #[.val (.ref p0), .val (.ref p1), .val (.ref p2), .val (.ref p3), .val (.ref r4), .val (.double w1), .second] []))
  refine own_by (fun _ kz => XS.dload X8.here hx rfl (hb hby d17_78) rfl kz) ?_
  refine own_by (fun _ kz => XS.dconst1 X8.here hx rfl (hb hby d17_80) rfl kz) ?_
  show own_Go _ _ _ _ _ _ _ (T8.setTop (mkF m 81 #[.val (.ref p0), .val (.ref p1), .val (.ref p2), .val (.ref p3), .val (.ref r4), .val (.double w1), .second] [(.double FP.dconst1), (.double w1)]))
  refine own_by (fun _ kz => XS.dcmpS X8.here hx rfl (hb hby d17_81) rfl rfl kz) ?_
  show own_Go _ _ _ _ _ _ _ (T8.setTop (mkF m 82 #[.val (.ref p0), .val (.ref p1), .val (.ref p2), .val (.ref p3), .val (.ref r4), .val (.double w1), .second] [(.int (cmpValue (FP.dcmp w1 FP.dconst1) .g))]))
  refine own_by (fun _ kz => XS.ifYes X8.here hx rfl (pc0 := 82) (pc' := 100) rfl (hb hby d17_82) rfl ((if0 _ _).trans (flt pm15.2).2.2.2) (by decide) (by decide) kz) ?_
  show own_Go _ _ _ _ _ _ _ (T8.setTop (mkF m 100 #[.val (.ref p0), .val (.ref p1), .val (.ref p2), .val (.ref p3), .val (.ref r4), .val (.double w1), .second] []))
  refine own_by (fun _ kz => XS.goto X8.here hx rfl (pc0 := 100) (pc' := 46) rfl (hb hby d17_100) (by decide) (by decide) kz) ?_
  show own_Go _ _ _ _ _ _ _ (T8.setTop (mkF m 46 #[.val (.ref p0), .val (.ref p1), .val (.ref p2), .val (.ref p3), .val (.ref r4), .val (.double w1), .second] []))
  refine own_by (fun _ kz => XS.aload X8.here hx rfl (hb hby d17_46) rfl rfl kz) ?_
  show own_Go _ _ _ _ _ _ _ (T8.setTop (mkF m 48 #[.val (.ref p0), .val (.ref p1), .val (.ref p2), .val (.ref p3), .val (.ref r4), .val (.double w1), .second] [(.ref r4)]))
  obtain ⟨v9, T9, L9, X9, q9, st9⟩ := own_callF (xi := (⟨"java/util/Iterator", "hasNext", "()Z"⟩ : MethodName)) (y := (⟨"java/util/ArrayList$Itr", "hasNext", "()Z"⟩ : MethodName)) X8 hx hZ hown (ow hw 159 rfl) (ow hw 160 rfl) (mvT hZ (ow hw 161 rfl)) (ow hw 162 rfl) (ow hw 163 rfl) (ow hw 164 rfl) (ow hw 165 rfl) (ow hw 166 rfl) (ow hw 146 rfl) (ow hw 167 rfl) (by decide) (rm22_1_3 l Z a0 hw [] r4 T6.heap n0 Z6 p3 o6_1 o6_0 pm10_h6) (W := 0) (by decide) (by decide) hh8 o4_1_h6 (g := (mkF m 48 #[.val (.ref p0), .val (.ref p1), .val (.ref p2), .val (.ref p3), .val (.ref r4), .val (.double w1), .second] [(.ref r4)])) rfl (by rw [hml]; rfl) (argsL := []) (rest := []) (lenOf pd_22 rfl) rfl rfl (by show 2 * 0 + _ ≤ _; exact Nat.le_of_eq rfl) (hb hby d17_48) (by decide) (by decide)
  obtain ⟨rfl, Nq9, hh9⟩ := q9
  have N9 := Fr.app N8 Nq9
  refine own_by st9 ?_
  show own_Go _ _ _ _ _ _ _ (T9.setTop (mkF m 53 #[.val (.ref p0), .val (.ref p1), .val (.ref p2), .val (.ref p3), .val (.ref r4), .val (.double w1), .second] [(.int (1 : Int32))]))
  refine own_by (fun _ kz => XS.ifNo X9.here hx rfl (hb hby d17_53) rfl ((if0 _ _).trans (feq (by decide : ¬ ((1 : Int32) = (0 : Int32)))).1) kz) ?_
  show own_Go _ _ _ _ _ _ _ (T9.setTop (mkF m 56 #[.val (.ref p0), .val (.ref p1), .val (.ref p2), .val (.ref p3), .val (.ref r4), .val (.double w1), .second] []))
  refine own_by (fun _ kz => XS.aload X9.here hx rfl (hb hby d17_56) rfl rfl kz) ?_
  show own_Go _ _ _ _ _ _ _ (T9.setTop (mkF m 58 #[.val (.ref p0), .val (.ref p1), .val (.ref p2), .val (.ref p3), .val (.ref r4), .val (.double w1), .second] [(.ref r4)]))
  obtain ⟨v10, T10, L10, X10, q10, st10⟩ := own_callF (xi := (⟨"java/util/Iterator", "next", "()Ljava/lang/Object;"⟩ : MethodName)) (y := (⟨"java/util/ArrayList$Itr", "next", "()Ljava/lang/Object;"⟩ : MethodName)) X9 hx hZ hown (ow hw 171 rfl) (ow hw 172 rfl) (mvT hZ (ow hw 173 rfl)) (ow hw 174 rfl) (ow hw 175 rfl) (ow hw 176 rfl) (ow hw 177 rfl) (ow hw 166 rfl) (ow hw 146 rfl) (ow hw 178 rfl) (by decide) (rm23_1_3 l Z a0 hw [] r4 T6.heap n0 Z6 p3 (3 : Int32) ea kA d1 d2 d3 o4_1_h6 o6_0 o6_1 o6_2 o6_3 pm8_h6 pm10_h6 pm9_h6 pm12_h6 ne_p3_r4 ne_ea_r4 ge_r4) (W := 0) (by decide) (by decide) hh9 o4_1_h6 (g := (mkF m 58 #[.val (.ref p0), .val (.ref p1), .val (.ref p2), .val (.ref p3), .val (.ref r4), .val (.double w1), .second] [(.ref r4)])) rfl (by rw [hml]; rfl) (argsL := []) (rest := []) (lenOf pd_23 rfl) rfl rfl (by show 2 * 0 + _ ≤ _; exact Nat.le_of_eq rfl) (hb hby d17_58) (by decide) (by decide)
  obtain ⟨rfl, Nq10, Kq10, o10_0, o10_1, o10_2, o10_3⟩ := q10
  have N10 := Fr.app N9 Nq10
  have Z10 : n0 ≤ T10.heap.size := Nat.le_trans Z6 Kq10.1
  have K10 := K6.trans Kq10 (allS (Or.inr sz_r4) all0)
  have pm0_h10 := pm0_h6.keep Kq10
  have pm1_h10 := pm1_h6.keep Kq10 (ninS ne_p0_r4 nin0)
  have pm2_h10 := pm2_h6.keep Kq10 (ninS ne_p0_r4 nin0)
  have pm3_h10 := pm3_h6.keep Kq10 (ninS ne_p0_r4 nin0)
  have pm7_h10 := pm7_h6.keep Kq10
  have pm8_h10 := pm8_h6.keep Kq10 (ninS ne_p3_r4 nin0)
  have pm9_h10 := pm9_h6.keep Kq10 (ninS ne_p3_r4 nin0)
  have pm10_h10 := pm10_h6.keep Kq10 (ninS ne_p3_r4 nin0)
  have pm11_h10 := pm11_h6.keep Kq10
  have pm12_h10 := pm12_h6.keep Kq10 (ninS ne_ea_r4 nin0)
  have pm13_h10 := pm13_h6.keep Kq10
  have pm14_h10 := pm14_h6.keep Kq10 (ninS ne_d1_r4 nin0)
  have pm16_h10 := pm16_h6.keep Kq10
  have pm17_h10 := pm17_h6.keep Kq10 (ninS ne_d2_r4 nin0)
  have pm19_h10 := pm19_h6.keep Kq10
  have pm20_h10 := pm20_h6.keep Kq10 (ninS ne_d3_r4 nin0)
  have o4_1_h10 := o4_1_h6.keep Kq10
  refine own_by st10 ?_
  show own_Go _ _ _ _ _ _ _ (T10.setTop (mkF m 63 #[.val (.ref p0), .val (.ref p1), .val (.ref p2), .val (.ref p3), .val (.ref r4), .val (.double w1), .second] [(.ref d2)]))
  obtain ⟨T11, X11, e11, st11⟩ := castY X10 hx hZ hown (ow hw 185 rfl) rfl (Ins.self pm16_h10) (g := (mkF m 63 #[.val (.ref p0), .val (.ref p1), .val (.ref p2), .val (.ref p3), .val (.ref r4), .val (.double w1), .second] [(.ref d2)])) rfl rfl (hb hby d17_63)
  refine own_by st11 ?_
  show own_Go _ _ _ _ _ _ _ (T11.setTop (mkF m 66 #[.val (.ref p0), .val (.ref p1), .val (.ref p2), .val (.ref p3), .val (.ref r4), .val (.double w1), .second] [(.ref d2)]))
  obtain ⟨v12, T12, L12, X12, q12, st12⟩ := own_callV X11 hx hZ hown (ow hw 186 rfl) (ow hw 187 rfl) (ow hw 189 rfl) (ow hw 188 rfl) (ow hw 34 rfl) (ow hw 190 rfl) (by decide) (rm25 l Z a0 hw [] d2 T10.heap n0 Z10 w2 pm17_h10) (W := 0) (by decide) (by decide) e11 pm16_h10 (g := (mkF m 66 #[.val (.ref p0), .val (.ref p1), .val (.ref p2), .val (.ref p3), .val (.ref r4), .val (.double w1), .second] [(.ref d2)])) rfl (by rw [hml]; rfl) (argsL := []) (rest := []) (lenOf pd_25 rfl) rfl rfl (by show 2 * 0 + _ ≤ _; exact Nat.le_of_eq rfl) (hb hby d17_66) (by decide) (by decide)
  obtain ⟨rfl, Nq12, hh12⟩ := q12
  have N12 := Fr.app N10 Nq12
  refine own_by st12 ?_
  show own_Go _ _ _ _ _ _ _ (T12.setTop (mkF m 69 #[.val (.ref p0), .val (.ref p1), .val (.ref p2), .val (.ref p3), .val (.ref r4), .val (.double w1), .second] [(.double w2)]))
  refine own_by (fun _ kz => XS.dstore X12.here hx rfl (hb hby d17_69) rfl (l' := #[.val (.ref p0), .val (.ref p1), .val (.ref p2), .val (.ref p3), .val (.ref r4), .val (.double w2), .second]) rfl kz) ?_
  show own_Go _ _ _ _ _ _ _ (T12.setTop (mkF m 71 #[.val (.ref p0), .val (.ref p1), .val (.ref p2), .val (.ref p3), .val (.ref r4), .val (.double w2), .second] []))
  refine own_by (fun _ kz => XS.dload X12.here hx rfl (hb hby d17_71) rfl kz) ?_
  refine own_by (fun _ kz => XS.dconst0 X12.here hx rfl (hb hby d17_73) rfl kz) ?_
  show own_Go _ _ _ _ _ _ _ (T12.setTop (mkF m 74 #[.val (.ref p0), .val (.ref p1), .val (.ref p2), .val (.ref p3), .val (.ref r4), .val (.double w2), .second] [(.double FP.dconst0), (.double w2)]))
  refine own_by (fun _ kz => XS.dcmpS X12.here hx rfl (hb hby d17_74) rfl rfl kz) ?_
  show own_Go _ _ _ _ _ _ _ (T12.setTop (mkF m 75 #[.val (.ref p0), .val (.ref p1), .val (.ref p2), .val (.ref p3), .val (.ref r4), .val (.double w2), .second] [(.int (cmpValue (FP.dcmp w2 FP.dconst0) .l))]))
  refine own_by (fun _ kz => XS.ifNo X12.here hx rfl (hb hby d17_75) rfl ((if0 _ _).trans (flt pm18.1).1) kz) ?_
  show own_Go _ _ _ _ _ _ _ (T12.setTop (mkF m 78 #[.val (.ref p0), .val (.ref p1), .val (.ref p2), .val (.ref p3), .val (.ref r4), .val (.double w2), .second] []))
  refine own_by (fun _ kz => XS.dload X12.here hx rfl (hb hby d17_78) rfl kz) ?_
  refine own_by (fun _ kz => XS.dconst1 X12.here hx rfl (hb hby d17_80) rfl kz) ?_
  show own_Go _ _ _ _ _ _ _ (T12.setTop (mkF m 81 #[.val (.ref p0), .val (.ref p1), .val (.ref p2), .val (.ref p3), .val (.ref r4), .val (.double w2), .second] [(.double FP.dconst1), (.double w2)]))
  refine own_by (fun _ kz => XS.dcmpS X12.here hx rfl (hb hby d17_81) rfl rfl kz) ?_
  show own_Go _ _ _ _ _ _ _ (T12.setTop (mkF m 82 #[.val (.ref p0), .val (.ref p1), .val (.ref p2), .val (.ref p3), .val (.ref r4), .val (.double w2), .second] [(.int (cmpValue (FP.dcmp w2 FP.dconst1) .g))]))
  refine own_by (fun _ kz => XS.ifYes X12.here hx rfl (pc0 := 82) (pc' := 100) rfl (hb hby d17_82) rfl ((if0 _ _).trans (flt pm18.2).2.2.2) (by decide) (by decide) kz) ?_
  show own_Go _ _ _ _ _ _ _ (T12.setTop (mkF m 100 #[.val (.ref p0), .val (.ref p1), .val (.ref p2), .val (.ref p3), .val (.ref r4), .val (.double w2), .second] []))
  refine own_by (fun _ kz => XS.goto X12.here hx rfl (pc0 := 100) (pc' := 46) rfl (hb hby d17_100) (by decide) (by decide) kz) ?_
  show own_Go _ _ _ _ _ _ _ (T12.setTop (mkF m 46 #[.val (.ref p0), .val (.ref p1), .val (.ref p2), .val (.ref p3), .val (.ref r4), .val (.double w2), .second] []))
  refine own_by (fun _ kz => XS.aload X12.here hx rfl (hb hby d17_46) rfl rfl kz) ?_
  show own_Go _ _ _ _ _ _ _ (T12.setTop (mkF m 48 #[.val (.ref p0), .val (.ref p1), .val (.ref p2), .val (.ref p3), .val (.ref r4), .val (.double w2), .second] [(.ref r4)]))
  obtain ⟨v13, T13, L13, X13, q13, st13⟩ := own_callF (xi := (⟨"java/util/Iterator", "hasNext", "()Z"⟩ : MethodName)) (y := (⟨"java/util/ArrayList$Itr", "hasNext", "()Z"⟩ : MethodName)) X12 hx hZ hown (ow hw 159 rfl) (ow hw 160 rfl) (mvT hZ (ow hw 161 rfl)) (ow hw 162 rfl) (ow hw 163 rfl) (ow hw 164 rfl) (ow hw 165 rfl) (ow hw 166 rfl) (ow hw 146 rfl) (ow hw 167 rfl) (by decide) (rm22_2_3 l Z a0 hw [] r4 T10.heap n0 Z10 p3 o10_1 o10_0 pm10_h10) (W := 0) (by decide) (by decide) hh12 o4_1_h10 (g := (mkF m 48 #[.val (.ref p0), .val (.ref p1), .val (.ref p2), .val (.ref p3), .val (.ref r4), .val (.double w2), .second] [(.ref r4)])) rfl (by rw [hml]; rfl) (argsL := []) (rest := []) (lenOf pd_22 rfl) rfl rfl (by show 2 * 0 + _ ≤ _; exact Nat.le_of_eq rfl) (hb hby d17_48) (by decide) (by decide)
  obtain ⟨rfl, Nq13, hh13⟩ := q13
  have N13 := Fr.app N12 Nq13
  refine own_by st13 ?_
  show own_Go _ _ _ _ _ _ _ (T13.setTop (mkF m 53 #[.val (.ref p0), .val (.ref p1), .val (.ref p2), .val (.ref p3), .val (.ref r4), .val (.double w2), .second] [(.int (1 : Int32))]))
  refine own_by (fun _ kz => XS.ifNo X13.here hx rfl (hb hby d17_53) rfl ((if0 _ _).trans (feq (by decide : ¬ ((1 : Int32) = (0 : Int32)))).1) kz) ?_
  show own_Go _ _ _ _ _ _ _ (T13.setTop (mkF m 56 #[.val (.ref p0), .val (.ref p1), .val (.ref p2), .val (.ref p3), .val (.ref r4), .val (.double w2), .second] []))
  refine own_by (fun _ kz => XS.aload X13.here hx rfl (hb hby d17_56) rfl rfl kz) ?_
  show own_Go _ _ _ _ _ _ _ (T13.setTop (mkF m 58 #[.val (.ref p0), .val (.ref p1), .val (.ref p2), .val (.ref p3), .val (.ref r4), .val (.double w2), .second] [(.ref r4)]))
  obtain ⟨v14, T14, L14, X14, q14, st14⟩ := own_callF (xi := (⟨"java/util/Iterator", "next", "()Ljava/lang/Object;"⟩ : MethodName)) (y := (⟨"java/util/ArrayList$Itr", "next", "()Ljava/lang/Object;"⟩ : MethodName)) X13 hx hZ hown (ow hw 171 rfl) (ow hw 172 rfl) (mvT hZ (ow hw 173 rfl)) (ow hw 174 rfl) (ow hw 175 rfl) (ow hw 176 rfl) (ow hw 177 rfl) (ow hw 166 rfl) (ow hw 146 rfl) (ow hw 178 rfl) (by decide) (rm23_2_3 l Z a0 hw [] r4 T10.heap n0 Z10 p3 (3 : Int32) ea kA d1 d2 d3 o4_1_h10 o10_0 o10_1 o10_2 o10_3 pm8_h10 pm10_h10 pm9_h10 pm12_h10 ne_p3_r4 ne_ea_r4 ge_r4) (W := 0) (by decide) (by decide) hh13 o4_1_h10 (g := (mkF m 58 #[.val (.ref p0), .val (.ref p1), .val (.ref p2), .val (.ref p3), .val (.ref r4), .val (.double w2), .second] [(.ref r4)])) rfl (by rw [hml]; rfl) (argsL := []) (rest := []) (lenOf pd_23 rfl) rfl rfl (by show 2 * 0 + _ ≤ _; exact Nat.le_of_eq rfl) (hb hby d17_58) (by decide) (by decide)
  obtain ⟨rfl, Nq14, Kq14, o14_0, o14_1, o14_2, o14_3⟩ := q14
  have N14 := Fr.app N13 Nq14
  have Z14 : n0 ≤ T14.heap.size := Nat.le_trans Z10 Kq14.1
  have K14 := K10.trans Kq14 (allS (Or.inr sz_r4) all0)
  have pm0_h14 := pm0_h10.keep Kq14
  have pm1_h14 := pm1_h10.keep Kq14 (ninS ne_p0_r4 nin0)
  have pm2_h14 := pm2_h10.keep Kq14 (ninS ne_p0_r4 nin0)
  have pm3_h14 := pm3_h10.keep Kq14 (ninS ne_p0_r4 nin0)
  have pm7_h14 := pm7_h10.keep Kq14
  have pm8_h14 := pm8_h10.keep Kq14 (ninS ne_p3_r4 nin0)
  have pm9_h14 := pm9_h10.keep Kq14 (ninS ne_p3_r4 nin0)
  have pm10_h14 := pm10_h10.keep Kq14 (ninS ne_p3_r4 nin0)
  have pm11_h14 := pm11_h10.keep Kq14
  have pm12_h14 := pm12_h10.keep Kq14 (ninS ne_ea_r4 nin0)
  have pm13_h14 := pm13_h10.keep Kq14
  have pm14_h14 := pm14_h10.keep Kq14 (ninS ne_d1_r4 nin0)
  have pm16_h14 := pm16_h10.keep Kq14
  have pm17_h14 := pm17_h10.keep Kq14 (ninS ne_d2_r4 nin0)
  have pm19_h14 := pm19_h10.keep Kq14
  have pm20_h14 := pm20_h10.keep Kq14 (ninS ne_d3_r4 nin0)
  have o4_1_h14 := o4_1_h10.keep Kq14
  refine own_by st14 ?_
  show own_Go _ _ _ _ _ _ _ (T14.setTop (mkF m 63 #[.val (.ref p0), .val (.ref p1), .val (.ref p2), .val (.ref p3), .val (.ref r4), .val (.double w2), .second] [(.ref d3)]))
  obtain ⟨T15, X15, e15, st15⟩ := castY X14 hx hZ hown (ow hw 185 rfl) rfl (Ins.self pm19_h14) (g := (mkF m 63 #[.val (.ref p0), .val (.ref p1), .val (.ref p2), .val (.ref p3), .val (.ref r4), .val (.double w2), .second] [(.ref d3)])) rfl rfl (hb hby d17_63)
  refine own_by st15 ?_
  show own_Go _ _ _ _ _ _ _ (T15.setTop (mkF m 66 #[.val (.ref p0), .val (.ref p1), .val (.ref p2), .val (.ref p3), .val (.ref r4), .val (.double w2), .second] [(.ref d3)]))
  obtain ⟨v16, T16, L16, X16, q16, st16⟩ := own_callV X15 hx hZ hown (ow hw 186 rfl) (ow hw 187 rfl) (ow hw 189 rfl) (ow hw 188 rfl) (ow hw 34 rfl) (ow hw 190 rfl) (by decide) (rm25 l Z a0 hw [] d3 T14.heap n0 Z14 w3 pm20_h14) (W := 0) (by decide) (by decide) e15 pm19_h14 (g := (mkF m 66 #[.val (.ref p0), .val (.ref p1), .val (.ref p2), .val (.ref p3), .val (.ref r4), .val (.double w2), .second] [(.ref d3)])) rfl (by rw [hml]; rfl) (argsL := []) (rest := []) (lenOf pd_25 rfl) rfl rfl (by show 2 * 0 + _ ≤ _; exact Nat.le_of_eq rfl) (hb hby d17_66) (by decide) (by decide)
  obtain ⟨rfl, Nq16, hh16⟩ := q16
  have N16 := Fr.app N14 Nq16
  refine own_by st16 ?_
  show own_Go _ _ _ _ _ _ _ (T16.setTop (mkF m 69 #[.val (.ref p0), .val (.ref p1), .val (.ref p2), .val (.ref p3), .val (.ref r4), .val (.double w2), .second] [(.double w3)]))
  refine own_by (fun _ kz => XS.dstore X16.here hx rfl (hb hby d17_69) rfl (l' := #[.val (.ref p0), .val (.ref p1), .val (.ref p2), .val (.ref p3), .val (.ref r4), .val (.double w3), .second]) rfl kz) ?_
  show own_Go _ _ _ _ _ _ _ (T16.setTop (mkF m 71 #[.val (.ref p0), .val (.ref p1), .val (.ref p2), .val (.ref p3), .val (.ref r4), .val (.double w3), .second] []))
  refine own_by (fun _ kz => XS.dload X16.here hx rfl (hb hby d17_71) rfl kz) ?_
  refine own_by (fun _ kz => XS.dconst0 X16.here hx rfl (hb hby d17_73) rfl kz) ?_
  show own_Go _ _ _ _ _ _ _ (T16.setTop (mkF m 74 #[.val (.ref p0), .val (.ref p1), .val (.ref p2), .val (.ref p3), .val (.ref r4), .val (.double w3), .second] [(.double FP.dconst0), (.double w3)]))
  refine own_by (fun _ kz => XS.dcmpS X16.here hx rfl (hb hby d17_74) rfl rfl kz) ?_
  show own_Go _ _ _ _ _ _ _ (T16.setTop (mkF m 75 #[.val (.ref p0), .val (.ref p1), .val (.ref p2), .val (.ref p3), .val (.ref r4), .val (.double w3), .second] [(.int (cmpValue (FP.dcmp w3 FP.dconst0) .l))]))
  refine own_by (fun _ kz => XS.ifNo X16.here hx rfl (hb hby d17_75) rfl ((if0 _ _).trans (flt pm21.1).1) kz) ?_
  show own_Go _ _ _ _ _ _ _ (T16.setTop (mkF m 78 #[.val (.ref p0), .val (.ref p1), .val (.ref p2), .val (.ref p3), .val (.ref r4), .val (.double w3), .second] []))
  refine own_by (fun _ kz => XS.dload X16.here hx rfl (hb hby d17_78) rfl kz) ?_
  refine own_by (fun _ kz => XS.dconst1 X16.here hx rfl (hb hby d17_80) rfl kz) ?_
  show own_Go _ _ _ _ _ _ _ (T16.setTop (mkF m 81 #[.val (.ref p0), .val (.ref p1), .val (.ref p2), .val (.ref p3), .val (.ref r4), .val (.double w3), .second] [(.double FP.dconst1), (.double w3)]))
  refine own_by (fun _ kz => XS.dcmpS X16.here hx rfl (hb hby d17_81) rfl rfl kz) ?_
  show own_Go _ _ _ _ _ _ _ (T16.setTop (mkF m 82 #[.val (.ref p0), .val (.ref p1), .val (.ref p2), .val (.ref p3), .val (.ref r4), .val (.double w3), .second] [(.int (cmpValue (FP.dcmp w3 FP.dconst1) .g))]))
  refine own_by (fun _ kz => XS.ifYes X16.here hx rfl (pc0 := 82) (pc' := 100) rfl (hb hby d17_82) rfl ((if0 _ _).trans (flt pm21.2).2.2.2) (by decide) (by decide) kz) ?_
  show own_Go _ _ _ _ _ _ _ (T16.setTop (mkF m 100 #[.val (.ref p0), .val (.ref p1), .val (.ref p2), .val (.ref p3), .val (.ref r4), .val (.double w3), .second] []))
  refine own_by (fun _ kz => XS.goto X16.here hx rfl (pc0 := 100) (pc' := 46) rfl (hb hby d17_100) (by decide) (by decide) kz) ?_
  show own_Go _ _ _ _ _ _ _ (T16.setTop (mkF m 46 #[.val (.ref p0), .val (.ref p1), .val (.ref p2), .val (.ref p3), .val (.ref r4), .val (.double w3), .second] []))
  refine own_by (fun _ kz => XS.aload X16.here hx rfl (hb hby d17_46) rfl rfl kz) ?_
  show own_Go _ _ _ _ _ _ _ (T16.setTop (mkF m 48 #[.val (.ref p0), .val (.ref p1), .val (.ref p2), .val (.ref p3), .val (.ref r4), .val (.double w3), .second] [(.ref r4)]))
  obtain ⟨v17, T17, L17, X17, q17, st17⟩ := own_callF (xi := (⟨"java/util/Iterator", "hasNext", "()Z"⟩ : MethodName)) (y := (⟨"java/util/ArrayList$Itr", "hasNext", "()Z"⟩ : MethodName)) X16 hx hZ hown (ow hw 159 rfl) (ow hw 160 rfl) (mvT hZ (ow hw 161 rfl)) (ow hw 162 rfl) (ow hw 163 rfl) (ow hw 164 rfl) (ow hw 165 rfl) (ow hw 166 rfl) (ow hw 146 rfl) (ow hw 167 rfl) (by decide) (rm22_3_3 l Z a0 hw [] r4 T14.heap n0 Z14 p3 o14_1 o14_0 pm10_h14) (W := 0) (by decide) (by decide) hh16 o4_1_h14 (g := (mkF m 48 #[.val (.ref p0), .val (.ref p1), .val (.ref p2), .val (.ref p3), .val (.ref r4), .val (.double w3), .second] [(.ref r4)])) rfl (by rw [hml]; rfl) (argsL := []) (rest := []) (lenOf pd_22 rfl) rfl rfl (by show 2 * 0 + _ ≤ _; exact Nat.le_of_eq rfl) (hb hby d17_48) (by decide) (by decide)
  obtain ⟨rfl, Nq17, hh17⟩ := q17
  have N17 := Fr.app N16 Nq17
  refine own_by st17 ?_
  show own_Go _ _ _ _ _ _ _ (T17.setTop (mkF m 53 #[.val (.ref p0), .val (.ref p1), .val (.ref p2), .val (.ref p3), .val (.ref r4), .val (.double w3), .second] [(.int (0 : Int32))]))
  refine own_by (fun _ kz => XS.ifYes X17.here hx rfl (pc0 := 53) (pc' := 103) rfl (hb hby d17_53) rfl ((if0 _ _).trans (teq (by decide : ((0 : Int32) = (0 : Int32)))).1) (by decide) (by decide) kz) ?_
  show own_Go _ _ _ _ _ _ _ (T17.setTop (mkF m 103 #[.val (.ref p0), .val (.ref p1), .val (.ref p2), .val (.ref p3), .val (.ref r4), .val (.double w3), .second] []))
  refine own_by (fun _ kz => XS.aloadN X17.here hx rfl (hb hby d17_103) rfl rfl kz) ?_
  show own_Go _ _ _ _ _ _ _ (T17.setTop (mkF m 104 #[.val (.ref p0), .val (.ref p1), .val (.ref p2), .val (.ref p3), .val (.ref r4), .val (.double w3), .second] [(.ref p3)]))
  obtain ⟨v18, T18, L18, X18, q18, st18⟩ := own_callS X17 hx hZ hown (ow hw 191 rfl) (ow hw 192 rfl) (ow hw 193 rfl) (ow hw 194 rfl) (by decide) (rm26_3 l Z a0 hw [] p3 T14.heap n0 Z14 mr MI ea kA d1 d2 d3 pm7_h14 pm9_h14 pm10_h14 pm11_h14 pm12_h14 pm13_h14 pm16_h14 pm19_h14) (W := 0) (by decide) (by decide) hh17 (g := (mkF m 104 #[.val (.ref p0), .val (.ref p1), .val (.ref p2), .val (.ref p3), .val (.ref r4), .val (.double w3), .second] [(.ref p3)])) rfl (by rw [hml]; rfl) (argsL := [(.ref p3)]) (rest := []) (lenOf pd_26 rfl) rfl rfl (by show 2 * 0 + _ ≤ _; exact Nat.le_of_eq rfl) (hb hby d17_104) (by decide) (by decide)
  obtain ⟨r18, ra18, kC18, rfl, Nq18, Kq18, o18_0, o18_1, o18_2, o18_3, o18_4, o18_5⟩ := q18
  have N18 := Fr.app N17 Nq18
  have Z18 : n0 ≤ T18.heap.size := Nat.le_trans Z14 Kq18.1
  have K18 := K14.trans Kq18 all0
  have pm0_h18 := pm0_h14.keep Kq18
  have pm1_h18 := pm1_h14.keep Kq18 nin0
  have pm2_h18 := pm2_h14.keep Kq18 nin0
  have pm3_h18 := pm3_h14.keep Kq18 nin0
  have ge_r18 : n0 ≤ r18 := Nat.le_trans Z14 o18_0
  have sz_r18 : h0.size ≤ r18 := Nat.le_trans K14.1 o18_0
  have ne_p0_r18 : p0 ≠ r18 := Nat.ne_of_lt (Nat.lt_of_lt_of_le pm0_h14.lt o18_0)
  have ne_p3_r18 : p3 ≠ r18 := Nat.ne_of_lt (Nat.lt_of_lt_of_le pm7_h14.lt o18_0)
  have ne_ea_r18 : ea ≠ r18 := Nat.ne_of_lt (Nat.lt_of_lt_of_le pm11_h14.lt o18_0)
  have ne_d1_r18 : d1 ≠ r18 := Nat.ne_of_lt (Nat.lt_of_lt_of_le pm13_h14.lt o18_0)
  have ne_d2_r18 : d2 ≠ r18 := Nat.ne_of_lt (Nat.lt_of_lt_of_le pm16_h14.lt o18_0)
  have ne_d3_r18 : d3 ≠ r18 := Nat.ne_of_lt (Nat.lt_of_lt_of_le pm19_h14.lt o18_0)
  have ne_r4_r18 : r4 ≠ r18 := Nat.ne_of_lt (Nat.lt_of_lt_of_le o4_1_h14.lt o18_0)
  have ge_ra18 : n0 ≤ ra18 := Nat.le_trans Z14 o18_1
  have sz_ra18 : h0.size ≤ ra18 := Nat.le_trans K14.1 o18_1
  have ne_p0_ra18 : p0 ≠ ra18 := Nat.ne_of_lt (Nat.lt_of_lt_of_le pm0_h14.lt o18_1)
  have ne_p3_ra18 : p3 ≠ ra18 := Nat.ne_of_lt (Nat.lt_of_lt_of_le pm7_h14.lt o18_1)
  have ne_ea_ra18 : ea ≠ ra18 := Nat.ne_of_lt (Nat.lt_of_lt_of_le pm11_h14.lt o18_1)
  have ne_d1_ra18 : d1 ≠ ra18 := Nat.ne_of_lt (Nat.lt_of_lt_of_le pm13_h14.lt o18_1)
  have ne_d2_ra18 : d2 ≠ ra18 := Nat.ne_of_lt (Nat.lt_of_lt_of_le pm16_h14.lt o18_1)
  have ne_d3_ra18 : d3 ≠ ra18 := Nat.ne_of_lt (Nat.lt_of_lt_of_le pm19_h14.lt o18_1)
  have ne_r4_ra18 : r4 ≠ ra18 := Nat.ne_of_lt (Nat.lt_of_lt_of_le o4_1_h14.lt o18_1)
  refine own_by st18 ?_
  show own_Go _ _ _ _ _ _ _ (T18.setTop (mkF m 107 #[.val (.ref p0), .val (.ref p1), .val (.ref p2), .val (.ref p3), .val (.ref r4), .val (.double w3), .second] [(.ref r18)]))
  refine own_by (fun _ kz => XS.astoreN X18.here hx rfl (hb hby d17_107) rfl rfl (l' := #[.val (.ref p0), .val (.ref p1), .val (.ref p2), .val (.ref r18), .val (.ref r4), .val (.double w3), .second]) rfl kz) ?_
  show own_Go _ _ _ _ _ _ _ (T18.setTop (mkF m 108 #[.val (.ref p0), .val (.ref p1), .val (.ref p2), .val (.ref r18), .val (.ref r4), .val (.double w3), .second] []))
  refine own_by (fun _ kz => XS.aloadN X18.here hx rfl (hb hby d17_108) rfl rfl kz) ?_
  refine own_by (fun _ kz => XS.aloadN X18.here hx rfl (hb hby d17_109) rfl rfl kz) ?_
  obtain ⟨T19, h19, X19, e19, W19, st19⟩ := putF X18 hx hZ hown (host := "") (Or.inl (ow hw 272 rfl)) Via.refl rfl pm1_h18 pm0_h18 (Or.inr ⟨ (ow hw 273 rfl), rfl, hnm⟩) (ow hw 83 rfl) (ty := (.object "com/example/inferlink/inferlink/Link")) (by decide) rfl rfl (g := (mkF m 110 #[.val (.ref p0), .val (.ref p1), .val (.ref p2), .val (.ref r18), .val (.ref r4), .val (.double w3), .second] [(.ref p1), (.ref p0)])) rfl rfl (hb hby d17_110)
  have N19 := Fr.snoc X19 N18 pm4
  have Z19 : n0 ≤ h19.size := by rw [W19.size]; exact Z18
  have K19 := K18.wr W19 (Or.inl (List.mem_of_getElem? (i := 0) rfl))
  have pm0_h19 := pm0_h18.wr W19
  have pm1_h19 := pm1_h18.same W19
  have pm2_h19 := pm2_h18.other W19 (Or.inr (slot_ne (Or.inr (ow hw 275 rfl)) (Or.inr (ow hw 273 rfl)) (by decide) (by decide : parseFieldDescriptor "Lcom/example/inferlink/inferlink/LinkStatus;" = some (.object "com/example/inferlink/inferlink/LinkStatus")) (by decide : parseFieldDescriptor "Lcom/example/inferlink/inferlink/Link;" = some (.object "com/example/inferlink/inferlink/Link"))))
  have pm3_h19 := pm3_h18.other W19 (Or.inr (slot_ne (Or.inr (ow hw 277 rfl)) (Or.inr (ow hw 273 rfl)) (by decide) (by decide : parseFieldDescriptor "Ljava/util/List;" = some (.object "java/util/List")) (by decide : parseFieldDescriptor "Lcom/example/inferlink/inferlink/Link;" = some (.object "com/example/inferlink/inferlink/Link"))))
  have o18_3_h19 := o18_3.wr W19
  have o18_4_h19 := o18_4.other W19 (Or.inl (Ne.symm ne_p0_r18))
  have o18_5_h19 := o18_5.other W19 (Ne.symm ne_p0_ra18)
  refine own_by st19 ?_
  show own_Go _ _ _ _ _ _ _ (T19.setTop (mkF m 113 #[.val (.ref p0), .val (.ref p1), .val (.ref p2), .val (.ref r18), .val (.ref r4), .val (.double w3), .second] []))
  refine own_by (fun _ kz => XS.aloadN X19.here hx rfl (hb hby d17_113) rfl rfl kz) ?_
  refine own_by (fun _ kz => XS.aloadN X19.here hx rfl (hb hby d17_114) rfl rfl kz) ?_
  obtain ⟨T20, h20, X20, e20, W20, st20⟩ := putF X19 hx hZ hown (host := "") (Or.inl (ow hw 274 rfl)) Via.refl e19 pm2_h19 pm0_h19 (Or.inr ⟨ (ow hw 275 rfl), rfl, hnm⟩) (ow hw 83 rfl) (ty := (.object "com/example/inferlink/inferlink/LinkStatus")) (by decide) rfl rfl (g := (mkF m 115 #[.val (.ref p0), .val (.ref p1), .val (.ref p2), .val (.ref r18), .val (.ref r4), .val (.double w3), .second] [(.ref p2), (.ref p0)])) rfl rfl (hb hby d17_115)
  have N20 := Fr.snoc X20 N19 pm4
  have Z20 : n0 ≤ h20.size := by rw [W20.size]; exact Z19
  have K20 := K19.wr W20 (Or.inl (List.mem_of_getElem? (i := 0) rfl))
  have pm0_h20 := pm0_h19.wr W20
  have pm1_h20 := pm1_h19.other W20 (Or.inr (slot_ne (Or.inr (ow hw 273 rfl)) (Or.inr (ow hw 275 rfl)) (by decide) (by decide : parseFieldDescriptor "Lcom/example/inferlink/inferlink/Link;" = some (.object "com/example/inferlink/inferlink/Link")) (by decide : parseFieldDescriptor "Lcom/example/inferlink/inferlink/LinkStatus;" = some (.object "com/example/inferlink/inferlink/LinkStatus"))))
  have pm2_h20 := pm2_h19.same W20
  have pm3_h20 := pm3_h19.other W20 (Or.inr (slot_ne (Or.inr (ow hw 277 rfl)) (Or.inr (ow hw 275 rfl)) (by decide) (by decide : parseFieldDescriptor "Ljava/util/List;" = some (.object "java/util/List")) (by decide : parseFieldDescriptor "Lcom/example/inferlink/inferlink/LinkStatus;" = some (.object "com/example/inferlink/inferlink/LinkStatus"))))
  have o18_3_h20 := o18_3_h19.wr W20
  have o18_4_h20 := o18_4_h19.other W20 (Or.inl (Ne.symm ne_p0_r18))
  have o18_5_h20 := o18_5_h19.other W20 (Ne.symm ne_p0_ra18)
  refine own_by st20 ?_
  show own_Go _ _ _ _ _ _ _ (T20.setTop (mkF m 118 #[.val (.ref p0), .val (.ref p1), .val (.ref p2), .val (.ref r18), .val (.ref r4), .val (.double w3), .second] []))
  refine own_by (fun _ kz => XS.aloadN X20.here hx rfl (hb hby d17_118) rfl rfl kz) ?_
  refine own_by (fun _ kz => XS.aloadN X20.here hx rfl (hb hby d17_119) rfl rfl kz) ?_
  obtain ⟨T21, h21, X21, e21, W21, st21⟩ := putF X20 hx hZ hown (host := "") (Or.inl (ow hw 276 rfl)) Via.refl e20 pm3_h20 pm0_h20 (Or.inr ⟨ (ow hw 277 rfl), rfl, hnm⟩) (ow hw 83 rfl) (ty := (.object "java/util/List")) (by decide) rfl rfl (g := (mkF m 120 #[.val (.ref p0), .val (.ref p1), .val (.ref p2), .val (.ref r18), .val (.ref r4), .val (.double w3), .second] [(.ref r18), (.ref p0)])) rfl rfl (hb hby d17_120)
  have N21 := Fr.snoc X21 N20 pm4
  have Z21 : n0 ≤ h21.size := by rw [W21.size]; exact Z20
  have K21 := K20.wr W21 (Or.inl (List.mem_of_getElem? (i := 0) rfl))
  have pm0_h21 := pm0_h20.wr W21
  have pm1_h21 := pm1_h20.other W21 (Or.inr (slot_ne (Or.inr (ow hw 273 rfl)) (Or.inr (ow hw 277 rfl)) (by decide) (by decide : parseFieldDescriptor "Lcom/example/inferlink/inferlink/Link;" = some (.object "com/example/inferlink/inferlink/Link")) (by decide : parseFieldDescriptor "Ljava/util/List;" = some (.object "java/util/List"))))
  have pm2_h21 := pm2_h20.other W21 (Or.inr (slot_ne (Or.inr (ow hw 275 rfl)) (Or.inr (ow hw 277 rfl)) (by decide) (by decide : parseFieldDescriptor "Lcom/example/inferlink/inferlink/LinkStatus;" = some (.object "com/example/inferlink/inferlink/LinkStatus")) (by decide : parseFieldDescriptor "Ljava/util/List;" = some (.object "java/util/List"))))
  have pm3_h21 := pm3_h20.same W21
  have o18_3_h21 := o18_3_h20.wr W21
  have o18_4_h21 := o18_4_h20.other W21 (Or.inl (Ne.symm ne_p0_r18))
  have o18_5_h21 := o18_5_h20.other W21 (Ne.symm ne_p0_ra18)
  refine own_by st21 ?_
  show own_Go _ _ _ _ _ _ _ (T21.setTop (mkF m 123 #[.val (.ref p0), .val (.ref p1), .val (.ref p2), .val (.ref r18), .val (.ref r4), .val (.double w3), .second] []))
  exact own_retV X21 hx hlk Bd.returns (hb hby d17_123) (by decide) (by decide) ⟨r18, ra18, kC18, rfl, N21, by rw [e21]; exact K21, by rw [e21]; exact pm3_h21, sz_r18, sz_ra18, o18_2, by rw [e21]; exact o18_3_h21, by rw [e21]; exact o18_4_h21, by rw [e21]; exact o18_5_h21⟩
/-! ## the plain law: prob's range, the number of probabilities -/
section OwnLaw
open Jvm.FP Jvm.Free.Fl
def own_m (p : Int32) : Int32 := ((p &&& (65535 : Int32)) - ((p &&& (65535 : Int32)) / (257 : Int32)) * (257 : Int32))
theorem own_remr {x y : Int32} {d : Int} (hy : y.toInt = d) (hd : 0 < d) (hd2 : y ≠ -1) (h0 : 0 ≤ x.toInt) : 0 ≤ (x - (x / y) * y).toInt ∧ (x - (x / y) * y).toInt < d := by
  have e := (c_idiv x y d hy hd2).1 h0
  have r := rng32 x
  have ry := rng32 y
  have m := c_imul (x / y) y
  have sb := c_isub x (x / y * y)
  rw [e, hy] at m
  have q1 := Int.emod_nonneg x.toInt (show d ≠ 0 by omega)
  have q2 := Int.emod_lt_of_pos x.toInt hd
  have q3 := Int.emod_def x.toInt d
  have q4 : 0 ≤ x.toInt / d := Int.ediv_nonneg h0 (by omega)
  have q5 : 0 ≤ x.toInt / d * d := Int.mul_nonneg q4 (by omega)
  rw [Int.mul_comm] at q3
  have rr := rng32 (x - x / y * y)
  have rm := rng32 (x / y * y)
  generalize x.toInt / d * d = A at *
  have e1 : (x / y * y).toInt = A := by omega
  rw [e1] at sb
  omega
theorem own_m_rng (p : Int32) : 0 ≤ (own_m p).toInt ∧ (own_m p).toInt < 257 := own_remr (by decide) (by decide) (by decide) (c_and p 65535 (by decide)).1
def own_pb (p : Int32) : UInt64 := FP.ddiv (FP.i2d (own_m p)) (4643211215818981376 : UInt64)
theorem own_dy_256 : own_Dy (4643211215818981376 : UInt64) 1 8 := ⟨2 ^ 52, -44, by decide +kernel, by unfold own_R; decide +kernel⟩
theorem own_dy_0 (e : Int) : own_Dy FP.dconst0 0 e := ⟨0, -1074, by decide +kernel, by unfold own_R; rw [Nat.zero_mul, Nat.zero_mul]⟩
theorem own_dy_1 : own_Dy FP.dconst1 256 (-8) := ⟨2 ^ 52, -52, by decide +kernel, by unfold own_R; decide +kernel⟩
theorem own_pb_dy (p : Int32) : own_Dy (own_pb p) (own_m p).toInt.toNat (-8) := by
  have h := own_m_rng p
  have q := own_Dy.div (own_int_dy h.1) own_dy_256 (by omega) (by omega) (by omega)
  exact q
theorem own_pb_nn (p : Int32) : NoNaN64 (FP.ddiv (FP.i2d (own_m p)) (4643211215818981376 : UInt64)) := (own_pb_dy p).nn
theorem own_pb_self (p : Int32) (o : CmpOp) : cmpValue (FP.dcmp (own_pb p) (own_pb p)) o = 0 := dcmpV_self (own_pb_nn p) o
theorem own_pb_in (p : Int32) : own_In (own_pb p) := by
  have h := own_m_rng p
  unfold own_In
  rw [own_cmp (own_pb_dy p) (own_dy_0 (-8)), own_cmp (own_pb_dy p) own_dy_1]
  have hn : (own_m p).toInt.toNat ≤ 256 := by omega
  generalize (own_m p).toInt.toNat = n at *
  refine ⟨?_, ?_⟩
  · cases n with
    | zero => decide
    | succ n =>
      have : compare ((n + 1 : Nat) : Int) ((0 : Nat) : Int) = .gt := by
        simp only [compare, compareOfLessAndEq]
        rw [if_neg (by omega), if_neg (by omega)]
      rw [this]; decide
  · by_cases q : n = 256
    · subst q; decide
    · have : compare ((n : Nat) : Int) ((256 : Nat) : Int) = .lt := by
        simp only [compare, compareOfLessAndEq]
        rw [if_pos (by omega)]
      rw [this]; decide
theorem own_n3 (p : Int32) : ((1 : Int32) + ((p &&& (255 : Int32)) - ((p &&& (255 : Int32)) / (3 : Int32)) * (3 : Int32))) = (1 : Int32) ∨ ((1 : Int32) + ((p &&& (255 : Int32)) - ((p &&& (255 : Int32)) / (3 : Int32)) * (3 : Int32))) = (2 : Int32) ∨ ((1 : Int32) + ((p &&& (255 : Int32)) - ((p &&& (255 : Int32)) / (3 : Int32)) * (3 : Int32))) = (3 : Int32) := by
  have h := own_remr (x := p &&& 255) (y := 3) (d := 3) (by decide) (by decide) (by decide) (c_and p 255 (by decide)).1
  generalize (p &&& (255 : Int32)) - ((p &&& (255 : Int32)) / (3 : Int32)) * (3 : Int32) = y at *
  have a := c_iadd 1 y
  have r := rng32 (1 + y)
  have e1 : (1 : Int32).toInt = 1 := by decide
  have e2 : (2 : Int32).toInt = 2 := by decide
  have e3 : (3 : Int32).toInt = 3 := by decide
  simp only [← Int32.toInt_inj, e1, e2, e3] at *
  omega
end OwnLaw

theorem d1_0 : decode method_2_code 0 = .ok (.iload_n 0, 1) := by decide +kernel
theorem d1_1 : decode method_2_code 1 = .ok (.ldc 7, 2) := by decide +kernel
theorem d1_3 : decode method_2_code 3 = .ok (.iand, 1) := by decide +kernel
theorem d1_4 : decode method_2_code 4 = .ok (.sipush 257, 3) := by decide +kernel
theorem d1_7 : decode method_2_code 7 = .ok (.irem, 1) := by decide +kernel
theorem d1_8 : decode method_2_code 8 = .ok (.i2d, 1) := by decide +kernel
theorem d1_9 : decode method_2_code 9 = .ok (.ldc2_w 8, 3) := by decide +kernel
theorem d1_12 : decode method_2_code 12 = .ok (.ddiv, 1) := by decide +kernel
theorem d1_13 : decode method_2_code 13 = .ok (.dreturn, 1) := by decide +kernel
theorem pf_1 : plainFor (⟨"com/example/inferlink/inferlink/LinkDelayLostPinLaw", "prob", "(I)D"⟩ : MethodName) = true := by first | exact plainFor_of_name (by first | (simp [plainName, overriddenIn]; done) | decide +kernel) | decide +kernel
theorem pd_1 : parseMethodDescriptor "(I)D" = some ⟨[.int], some .double⟩ := by decide +kernel
theorem ef_1 (m : MethodId) (p0 : Int32) : entryFrame m #[(.int p0)] 1 = mkF m 0 #[.val (.int p0)] [] := by first | (simp [entryFrame, mkF, argsToLocals, Value.category]; done) | rfl
def Q1 (Z : State) (p0 : Int32) (h0 : Heap) (n0 : Nat) (v : Option Value) (h : Heap) (L : List Loc) : Prop := v = some (.double (own_pb p0)) ∧ Fr n0 L ∧ h = h0
theorem rm1 (l : Launch) (Z : State) (a0 : Array Value) (hw : ∀ d ∈ tables_1, d.before a0 Z = true) (ws : List Jvm.Cond) (p0 : Int32) (h0 : Heap) (n0 : Nat) (Z0 : n0 ≤ h0.size)  :
    own_Met l Z (⟨"com/example/inferlink/inferlink/LinkDelayLostPinLaw", "prob", "(I)D"⟩ : MethodName) method_2_code 1 (some .double) ws ({ frames := 0, cells := 0, slots := 0, locals := 0 } : Room) #[(.int p0)] h0 (Q1 Z p0 h0 n0) := by
  refine MetFree.of_bodySF pf_1 hisR ?_
  intro p e s m args below meth c s₁ Bd hml0 hP hK
  obtain ⟨rfl, hZ, hh⟩ := hP
  have hx := Bd.exec
  have hby := Bd.bytes
  have hlk : meth.locks = false := BodyLoose.notSynchronized Bd
  have hml : c.maxLocals = 1 := hml0
  have hown : s.vm.findClass "com/example/inferlink/inferlink/LinkDelayLostPinLaw" = some m.cls := findClass_of_methodNamed Bd.named
  have hnm := (name_of_methodNamed Bd.named Bd.method).1
  have X0 : Stand p l e ({ frames := 0, cells := 0, slots := 0, locals := 0 } : Room) s m #[(.int p0)] below meth c s₁ [] 0 0 := Stand.of_body Bd
  have e0 : s₁.heap = h0 := by rw [← hh, Bd.state]; rfl
  have N0 := Fr.nil n0
  show own_Go _ _ _ _ (Q1 Z p0 h0 n0) _ _ _
  refine own_by (fun _ k => castTop (ef_1 m p0) k) ?_
  show own_Go _ _ _ _ _ _ _ (s₁.setTop (mkF m 0 #[.val (.int p0)] []))
  refine own_by (fun _ kz => XS.iloadN X0.here hx rfl (hb hby d1_0) rfl kz) ?_
  show own_Go _ _ _ _ _ _ _ (s₁.setTop (mkF m 1 #[.val (.int p0)] [(.int p0)]))
  refine own_by (fun _ kz => X0.ldcInt hx hown (mvT hZ (ow hw 4 rfl)) (g := (mkF m 1 #[.val (.int p0)] [(.int p0)])) rfl (hb hby d1_1) _ kz) ?_
  show own_Go _ _ _ _ _ _ _ (s₁.setTop (mkF m 3 #[.val (.int p0)] [(.int (65535 : Int32)), (.int p0)]))
  refine own_by (fun _ kz => XS.iand X0.here hx rfl (hb hby d1_3) rfl kz) ?_
  show own_Go _ _ _ _ _ _ _ (s₁.setTop (mkF m 4 #[.val (.int p0)] [(.int (p0 &&& (65535 : Int32)))]))
  refine own_by (fun _ kz => XS.sipush X0.here hx rfl (hb hby d1_4) kz) ?_
  show own_Go _ _ _ _ _ _ _ (s₁.setTop (mkF m 7 #[.val (.int p0)] [(.int (257 : Int32)), (.int (p0 &&& (65535 : Int32)))]))
  refine own_by (fun _ kz => XS.irem X0.here hx rfl (hb hby d1_7) rfl (by decide) kz) ?_
  show own_Go _ _ _ _ _ _ _ (s₁.setTop (mkF m 8 #[.val (.int p0)] [(.int ((p0 &&& (65535 : Int32)) - ((p0 &&& (65535 : Int32)) / (257 : Int32)) * (257 : Int32)))]))
  refine own_by (fun _ kz => XS.i2dS X0.here hx rfl (hb hby d1_8) rfl rfl kz) ?_
  show own_Go _ _ _ _ _ _ _ (s₁.setTop (mkF m 9 #[.val (.int p0)] [(.double (FP.i2d ((p0 &&& (65535 : Int32)) - ((p0 &&& (65535 : Int32)) / (257 : Int32)) * (257 : Int32))))]))
  refine own_by (fun _ kz => X0.ldc2DoubleC hx hown (mvT hZ (ow hw 5 rfl)) (g := (mkF m 9 #[.val (.int p0)] [(.double (FP.i2d ((p0 &&& (65535 : Int32)) - ((p0 &&& (65535 : Int32)) / (257 : Int32)) * (257 : Int32))))])) rfl (hb hby d1_9) _ kz) ?_
  show own_Go _ _ _ _ _ _ _ (s₁.setTop (mkF m 12 #[.val (.int p0)] [(.double (4643211215818981376 : UInt64)), (.double (FP.i2d ((p0 &&& (65535 : Int32)) - ((p0 &&& (65535 : Int32)) / (257 : Int32)) * (257 : Int32))))]))
  refine own_by (fun _ kz => XS.ddivS X0.here hx rfl (hb hby d1_12) rfl (own_pb_nn p0) rfl kz) ?_
  show own_Go _ _ _ _ _ _ _ (s₁.setTop (mkF m 13 #[.val (.int p0)] [(.double (own_pb p0))]))
  exact own_retD X0 hx hlk Bd.returns (hb hby d1_13) (by decide) (by decide) ⟨rfl, N0, e0⟩
theorem own_strs {Z : State} {a0 : Array Value} (hw : ∀ d ∈ tables_1, d.before a0 Z = true) : ∀ a ∈ Bundle.stringAtoms, a.before a0 Z = true := fun d hd => by
  simp only [Bundle.stringAtoms, List.mem_cons, List.not_mem_nil, or_false] at hd
  rcases hd with rfl | rfl | rfl | rfl | rfl | rfl | rfl
  · exact hw _ (List.mem_of_getElem? (i := 89) rfl)
  · exact hw _ (List.mem_of_getElem? (i := 90) rfl)
  · exact hw _ (List.mem_of_getElem? (i := 91) rfl)
  · exact hw _ (List.mem_of_getElem? (i := 92) rfl)
  · exact hw _ (List.mem_of_getElem? (i := 93) rfl)
  · exact hw _ (List.mem_of_getElem? (i := 94) rfl)
  · exact hw _ (List.mem_of_getElem? (i := 95) rfl)
theorem pf_0 : plainFor x = true := by first | exact plainFor_of_name (by first | (simp [plainName, overriddenIn]; done) | decide +kernel) | decide +kernel
theorem ef_0 (m : MethodId) (p0 p1 p2 p3 : Int32) : entryFrame m #[(.int p0), (.int p1), (.int p2), (.int p3)] maxLocals = mkF m 0 #[.val (.int p0), .val (.int p1), .val (.int p2), .val (.int p3), .unset, .unset, .unset, .unset, .unset, .unset, .unset, .unset, .unset, .unset, .unset, .unset, .unset, .unset] [] := by first | (simp [entryFrame, mkF, argsToLocals, Value.category, maxLocals]; done) | rfl
def Q0 (n0 : Nat) (v : Option Value) (h : Heap) (L : List Loc) : Prop := v = some (.int 1) ∧ Fr n0 L
set_option maxRecDepth 65536 in
set_option maxHeartbeats 80000000 in
theorem rm0 (l : Launch) (Z : State) (a0 : Array Value) (hw : ∀ d ∈ tables_1, d.before a0 Z = true) (ws : List Jvm.Cond) (p0 p1 p2 p3 : Int32) (h0 : Heap) (n0 : Nat) (Z0 : n0 ≤ h0.size) (D : Addr) (kD : ClassId) (em : Addr) (mr : Addr) (SD : Sta Z Z.heap "java/util/ArrayList" "DEFAULTCAPACITY_EMPTY_ELEMENTDATA" "[Ljava/lang/Object;" (.ref D)) (VD : Arv Z Z.heap D kD (.object "java/lang/Object") (0 : Int32) [] .null) (SE : Sta Z Z.heap "java/util/ImmutableCollections" "EMPTY" "Ljava/lang/Object;" (.ref em)) (hem : em < n0) (MI : own_Mi Z "[Ljava/lang/Object;" mr) (sOK : Addr) (sNO_LOSS_SEEN : Addr) (sCOMPOSITE_WITH_PARENT : Addr) (sESTIMATE_ABOVE_ONE : Addr) (sNOT_CONVERGED : Addr) (SOK : Sta Z Z.heap "com/example/inferlink/inferlink/LinkStatus" "OK" "Lcom/example/inferlink/inferlink/LinkStatus;" (.ref sOK)) (ESOK : Exa Z Z.heap sOK "com/example/inferlink/inferlink/LinkStatus") (FSOK : Fld Z Z.heap sOK "com/example/inferlink/inferlink/LinkStatus" "hasSuccess" "Z" (.int (1 : Int32))) (SNO_LOSS_SEEN : Sta Z Z.heap "com/example/inferlink/inferlink/LinkStatus" "NO_LOSS_SEEN" "Lcom/example/inferlink/inferlink/LinkStatus;" (.ref sNO_LOSS_SEEN)) (ESNO_LOSS_SEEN : Exa Z Z.heap sNO_LOSS_SEEN "com/example/inferlink/inferlink/LinkStatus") (FSNO_LOSS_SEEN : Fld Z Z.heap sNO_LOSS_SEEN "com/example/inferlink/inferlink/LinkStatus" "hasSuccess" "Z" (.int (1 : Int32))) (SCOMPOSITE_WITH_PARENT : Sta Z Z.heap "com/example/inferlink/inferlink/LinkStatus" "COMPOSITE_WITH_PARENT" "Lcom/example/inferlink/inferlink/LinkStatus;" (.ref sCOMPOSITE_WITH_PARENT)) (ESCOMPOSITE_WITH_PARENT : Exa Z Z.heap sCOMPOSITE_WITH_PARENT "com/example/inferlink/inferlink/LinkStatus") (FSCOMPOSITE_WITH_PARENT : Fld Z Z.heap sCOMPOSITE_WITH_PARENT "com/example/inferlink/inferlink/LinkStatus" "hasSuccess" "Z" (.int (1 : Int32))) (SESTIMATE_ABOVE_ONE : Sta Z Z.heap "com/example/inferlink/inferlink/LinkStatus" "ESTIMATE_ABOVE_ONE" "Lcom/example/inferlink/inferlink/LinkStatus;" (.ref sESTIMATE_ABOVE_ONE)) (ESESTIMATE_ABOVE_ONE : Exa Z Z.heap sESTIMATE_ABOVE_ONE "com/example/inferlink/inferlink/LinkStatus") (FSESTIMATE_ABOVE_ONE : Fld Z Z.heap sESTIMATE_ABOVE_ONE "com/example/inferlink/inferlink/LinkStatus" "hasSuccess" "Z" (.int (1 : Int32))) (SNOT_CONVERGED : Sta Z Z.heap "com/example/inferlink/inferlink/LinkStatus" "NOT_CONVERGED" "Lcom/example/inferlink/inferlink/LinkStatus;" (.ref sNOT_CONVERGED)) (ESNOT_CONVERGED : Exa Z Z.heap sNOT_CONVERGED "com/example/inferlink/inferlink/LinkStatus") (FSNOT_CONVERGED : Fld Z Z.heap sNOT_CONVERGED "com/example/inferlink/inferlink/LinkStatus" "hasSuccess" "Z" (.int (1 : Int32))) (O0 : Old Z n0 h0) :
    own_MetW l Z x code maxLocals ret ws room_1 #[(.int p0), (.int p1), (.int p2), (.int p3)] h0 (Q0 n0) := by
  refine MetFree.of_bodySF pf_0 hisR ?_
  intro p e s m args below meth c s₁ Bd hml0 hP hK
  obtain ⟨rfl, hZ, hh⟩ := hP
  have hx := Bd.exec
  have hby := Bd.bytes
  have hlk : meth.locks = false := BodyLoose.notSynchronized Bd
  have hml : c.maxLocals = 18 := hml0
  have hown : s.vm.findClass "com/example/inferlink/inferlink/LinkDelayLostPinLaw" = some m.cls := findClass_of_methodNamed Bd.named
  have X0 : Stand p l e room_1 s m #[(.int p0), (.int p1), (.int p2), (.int p3)] below meth c s₁ [] 0 0 := Stand.of_body Bd
  have e0 : s₁.heap = h0 := by rw [← hh, Bd.state]; rfl
  have N0 := Fr.nil n0
  have VDh := VD.ext O0.2
  show own_GoW p.tables e below s (Q0 n0) room_1.cells room_1.slots _
  refine own_byW (fun _ k => castTop (ef_0 m p0 p1 p2 p3) k) ?_
  show own_GoW _ _ _ _ _ _ _ (s₁.setTop (mkF m 0 #[.val (.int p0), .val (.int p1), .val (.int p2), .val (.int p3), .unset, .unset, .unset, .unset, .unset, .unset, .unset, .unset, .unset, .unset, .unset, .unset, .unset, .unset] []))
  refine own_byW (fun _ kz => XS.iloadN X0.here hx rfl (hb hby at_0) rfl kz) ?_
  show own_GoW _ _ _ _ _ _ _ (s₁.setTop (mkF m 1 #[.val (.int p0), .val (.int p1), .val (.int p2), .val (.int p3), .unset, .unset, .unset, .unset, .unset, .unset, .unset, .unset, .unset, .unset, .unset, .unset, .unset, .unset] [(.int p0)]))
  obtain ⟨v1, T1, L1, X1, q1, st1⟩ := own_callS X0 hx hZ hown (ow hw 0 rfl) (ow hw 1 rfl) (ow hw 2 rfl) (ow hw 3 rfl) (by decide) (rm1 l Z a0 hw [] p0 h0 n0 Z0 ) (W := 0) (by decide) (by decide) e0 (g := (mkF m 1 #[.val (.int p0), .val (.int p1), .val (.int p2), .val (.int p3), .unset, .unset, .unset, .unset, .unset, .unset, .unset, .unset, .unset, .unset, .unset, .unset, .unset, .unset] [(.int p0)])) rfl (by rw [hml]; rfl) (argsL := [(.int p0)]) (rest := []) (lenOf pd_1 rfl) rfl rfl (by show 2 * 0 + _ ≤ _; exact Nat.le_of_eq rfl) (hb hby at_1) (by decide) (by decide)
  obtain ⟨rfl, Nq1, hh1⟩ := q1
  have N1 := Fr.app N0 Nq1
  refine own_byW st1 ?_
  show own_GoW _ _ _ _ _ _ _ (T1.setTop (mkF m 4 #[.val (.int p0), .val (.int p1), .val (.int p2), .val (.int p3), .unset, .unset, .unset, .unset, .unset, .unset, .unset, .unset, .unset, .unset, .unset, .unset, .unset, .unset] [(.double (own_pb p0))]))
  refine own_byW (fun _ kz => XS.dstore X1.here hx rfl (hb hby at_4) rfl (l' := #[.val (.int p0), .val (.int p1), .val (.int p2), .val (.int p3), .val (.double (own_pb p0)), .second, .unset, .unset, .unset, .unset, .unset, .unset, .unset, .unset, .unset, .unset, .unset, .unset]) rfl kz) ?_
  show own_GoW _ _ _ _ _ _ _ (T1.setTop (mkF m 6 #[.val (.int p0), .val (.int p1), .val (.int p2), .val (.int p3), .val (.double (own_pb p0)), .second, .unset, .unset, .unset, .unset, .unset, .unset, .unset, .unset, .unset, .unset, .unset, .unset] []))
  refine own_byW (fun _ kz => XS.iloadN X1.here hx rfl (hb hby at_6) rfl kz) ?_
  show own_GoW _ _ _ _ _ _ _ (T1.setTop (mkF m 7 #[.val (.int p0), .val (.int p1), .val (.int p2), .val (.int p3), .val (.double (own_pb p0)), .second, .unset, .unset, .unset, .unset, .unset, .unset, .unset, .unset, .unset, .unset, .unset, .unset] [(.int p1)]))
  obtain ⟨v2, T2, L2, X2, q2, st2⟩ := own_callS X1 hx hZ hown (ow hw 0 rfl) (ow hw 1 rfl) (ow hw 2 rfl) (ow hw 3 rfl) (by decide) (rm1 l Z a0 hw [] p1 h0 n0 Z0 ) (W := 0) (by decide) (by decide) hh1 (g := (mkF m 7 #[.val (.int p0), .val (.int p1), .val (.int p2), .val (.int p3), .val (.double (own_pb p0)), .second, .unset, .unset, .unset, .unset, .unset, .unset, .unset, .unset, .unset, .unset, .unset, .unset] [(.int p1)])) rfl (by rw [hml]; rfl) (argsL := [(.int p1)]) (rest := []) (lenOf pd_1 rfl) rfl rfl (by show 2 * 0 + _ ≤ _; exact Nat.le_of_eq rfl) (hb hby at_7) (by decide) (by decide)
  obtain ⟨rfl, Nq2, hh2⟩ := q2
  have N2 := Fr.app N1 Nq2
  refine own_byW st2 ?_
  show own_GoW _ _ _ _ _ _ _ (T2.setTop (mkF m 10 #[.val (.int p0), .val (.int p1), .val (.int p2), .val (.int p3), .val (.double (own_pb p0)), .second, .unset, .unset, .unset, .unset, .unset, .unset, .unset, .unset, .unset, .unset, .unset, .unset] [(.double (own_pb p1))]))
  refine own_byW (fun _ kz => XS.dstore X2.here hx rfl (hb hby at_10) rfl (l' := #[.val (.int p0), .val (.int p1), .val (.int p2), .val (.int p3), .val (.double (own_pb p0)), .second, .val (.double (own_pb p1)), .second, .unset, .unset, .unset, .unset, .unset, .unset, .unset, .unset, .unset, .unset]) rfl kz) ?_
  show own_GoW _ _ _ _ _ _ _ (T2.setTop (mkF m 12 #[.val (.int p0), .val (.int p1), .val (.int p2), .val (.int p3), .val (.double (own_pb p0)), .second, .val (.double (own_pb p1)), .second, .unset, .unset, .unset, .unset, .unset, .unset, .unset, .unset, .unset, .unset] []))
  refine own_byW (fun _ kz => XS.iloadN X2.here hx rfl (hb hby at_12) rfl kz) ?_
  show own_GoW _ _ _ _ _ _ _ (T2.setTop (mkF m 13 #[.val (.int p0), .val (.int p1), .val (.int p2), .val (.int p3), .val (.double (own_pb p0)), .second, .val (.double (own_pb p1)), .second, .unset, .unset, .unset, .unset, .unset, .unset, .unset, .unset, .unset, .unset] [(.int p2)]))
  obtain ⟨v3, T3, L3, X3, q3, st3⟩ := own_callS X2 hx hZ hown (ow hw 0 rfl) (ow hw 1 rfl) (ow hw 2 rfl) (ow hw 3 rfl) (by decide) (rm1 l Z a0 hw [] p2 h0 n0 Z0 ) (W := 0) (by decide) (by decide) hh2 (g := (mkF m 13 #[.val (.int p0), .val (.int p1), .val (.int p2), .val (.int p3), .val (.double (own_pb p0)), .second, .val (.double (own_pb p1)), .second, .unset, .unset, .unset, .unset, .unset, .unset, .unset, .unset, .unset, .unset] [(.int p2)])) rfl (by rw [hml]; rfl) (argsL := [(.int p2)]) (rest := []) (lenOf pd_1 rfl) rfl rfl (by show 2 * 0 + _ ≤ _; exact Nat.le_of_eq rfl) (hb hby at_13) (by decide) (by decide)
  obtain ⟨rfl, Nq3, hh3⟩ := q3
  have N3 := Fr.app N2 Nq3
  refine own_byW st3 ?_
  show own_GoW _ _ _ _ _ _ _ (T3.setTop (mkF m 16 #[.val (.int p0), .val (.int p1), .val (.int p2), .val (.int p3), .val (.double (own_pb p0)), .second, .val (.double (own_pb p1)), .second, .unset, .unset, .unset, .unset, .unset, .unset, .unset, .unset, .unset, .unset] [(.double (own_pb p2))]))
  refine own_byW (fun _ kz => XS.dstore X3.here hx rfl (hb hby at_16) rfl (l' := #[.val (.int p0), .val (.int p1), .val (.int p2), .val (.int p3), .val (.double (own_pb p0)), .second, .val (.double (own_pb p1)), .second, .val (.double (own_pb p2)), .second, .unset, .unset, .unset, .unset, .unset, .unset, .unset, .unset]) rfl kz) ?_
  show own_GoW _ _ _ _ _ _ _ (T3.setTop (mkF m 18 #[.val (.int p0), .val (.int p1), .val (.int p2), .val (.int p3), .val (.double (own_pb p0)), .second, .val (.double (own_pb p1)), .second, .val (.double (own_pb p2)), .second, .unset, .unset, .unset, .unset, .unset, .unset, .unset, .unset] []))
  refine own_byW (fun _ kz => XS.iconst X3.here hx rfl (hb hby at_18) kz) ?_
  refine own_byW (fun _ kz => XS.iloadN X3.here hx rfl (hb hby at_19) rfl kz) ?_
  refine own_byW (fun _ kz => XS.sipush X3.here hx rfl (hb hby at_20) kz) ?_
  show own_GoW _ _ _ _ _ _ _ (T3.setTop (mkF m 23 #[.val (.int p0), .val (.int p1), .val (.int p2), .val (.int p3), .val (.double (own_pb p0)), .second, .val (.double (own_pb p1)), .second, .val (.double (own_pb p2)), .second, .unset, .unset, .unset, .unset, .unset, .unset, .unset, .unset] [(.int (255 : Int32)), (.int p3), (.int (1 : Int32))]))
  refine own_byW (fun _ kz => XS.iand X3.here hx rfl (hb hby at_23) rfl kz) ?_
  show own_GoW _ _ _ _ _ _ _ (T3.setTop (mkF m 24 #[.val (.int p0), .val (.int p1), .val (.int p2), .val (.int p3), .val (.double (own_pb p0)), .second, .val (.double (own_pb p1)), .second, .val (.double (own_pb p2)), .second, .unset, .unset, .unset, .unset, .unset, .unset, .unset, .unset] [(.int (p3 &&& (255 : Int32))), (.int (1 : Int32))]))
  refine own_byW (fun _ kz => XS.iconst X3.here hx rfl (hb hby at_24) kz) ?_
  show own_GoW _ _ _ _ _ _ _ (T3.setTop (mkF m 25 #[.val (.int p0), .val (.int p1), .val (.int p2), .val (.int p3), .val (.double (own_pb p0)), .second, .val (.double (own_pb p1)), .second, .val (.double (own_pb p2)), .second, .unset, .unset, .unset, .unset, .unset, .unset, .unset, .unset] [(.int (3 : Int32)), (.int (p3 &&& (255 : Int32))), (.int (1 : Int32))]))
  refine own_byW (fun _ kz => XS.irem X3.here hx rfl (hb hby at_25) rfl (by decide) kz) ?_
  show own_GoW _ _ _ _ _ _ _ (T3.setTop (mkF m 26 #[.val (.int p0), .val (.int p1), .val (.int p2), .val (.int p3), .val (.double (own_pb p0)), .second, .val (.double (own_pb p1)), .second, .val (.double (own_pb p2)), .second, .unset, .unset, .unset, .unset, .unset, .unset, .unset, .unset] [(.int ((p3 &&& (255 : Int32)) - ((p3 &&& (255 : Int32)) / (3 : Int32)) * (3 : Int32))), (.int (1 : Int32))]))
  refine own_byW (fun _ kz => XS.iadd X3.here hx rfl (hb hby at_26) rfl kz) ?_
  show own_GoW _ _ _ _ _ _ _ (T3.setTop (mkF m 27 #[.val (.int p0), .val (.int p1), .val (.int p2), .val (.int p3), .val (.double (own_pb p0)), .second, .val (.double (own_pb p1)), .second, .val (.double (own_pb p2)), .second, .unset, .unset, .unset, .unset, .unset, .unset, .unset, .unset] [(.int ((1 : Int32) + ((p3 &&& (255 : Int32)) - ((p3 &&& (255 : Int32)) / (3 : Int32)) * (3 : Int32))))]))
  rcases own_n3 p3 with hn | hn | hn
  · rw [hn]
    show own_GoW _ _ _ _ _ _ _ (T3.setTop (mkF m 27 #[.val (.int p0), .val (.int p1), .val (.int p2), .val (.int p3), .val (.double (own_pb p0)), .second, .val (.double (own_pb p1)), .second, .val (.double (own_pb p2)), .second, .unset, .unset, .unset, .unset, .unset, .unset, .unset, .unset] [(.int (1 : Int32))]))
    refine own_byW (fun _ kz => XS.istore X3.here hx rfl (hb hby at_27) rfl (l' := #[.val (.int p0), .val (.int p1), .val (.int p2), .val (.int p3), .val (.double (own_pb p0)), .second, .val (.double (own_pb p1)), .second, .val (.double (own_pb p2)), .second, .val (.int (1 : Int32)), .unset, .unset, .unset, .unset, .unset, .unset, .unset]) rfl kz) ?_
    show own_GoW _ _ _ _ _ _ _ (T3.setTop (mkF m 29 #[.val (.int p0), .val (.int p1), .val (.int p2), .val (.int p3), .val (.double (own_pb p0)), .second, .val (.double (own_pb p1)), .second, .val (.double (own_pb p2)), .second, .val (.int (1 : Int32)), .unset, .unset, .unset, .unset, .unset, .unset, .unset] []))
    refine own_byW (fun _ kz => XS.iloadN X3.here hx rfl (hb hby at_29) rfl kz) ?_
    refine own_byW (fun _ kz => XS.bipush X3.here hx rfl (hb hby at_30) kz) ?_
    show own_GoW _ _ _ _ _ _ _ (T3.setTop (mkF m 32 #[.val (.int p0), .val (.int p1), .val (.int p2), .val (.int p3), .val (.double (own_pb p0)), .second, .val (.double (own_pb p1)), .second, .val (.double (own_pb p2)), .second, .val (.int (1 : Int32)), .unset, .unset, .unset, .unset, .unset, .unset, .unset] [(.int (8 : Int32)), (.int p3)]))
    refine own_byW (fun _ kz => XS.iushr X3.here hx rfl (hb hby at_32) rfl kz) ?_
    show own_GoW _ _ _ _ _ _ _ (T3.setTop (mkF m 33 #[.val (.int p0), .val (.int p1), .val (.int p2), .val (.int p3), .val (.double (own_pb p0)), .second, .val (.double (own_pb p1)), .second, .val (.double (own_pb p2)), .second, .val (.int (1 : Int32)), .unset, .unset, .unset, .unset, .unset, .unset, .unset] [(.int (own_sri p3 (8 : Int32)))]))
    refine own_byW (fun _ kz => XS.sipush X3.here hx rfl (hb hby at_33) kz) ?_
    show own_GoW _ _ _ _ _ _ _ (T3.setTop (mkF m 36 #[.val (.int p0), .val (.int p1), .val (.int p2), .val (.int p3), .val (.double (own_pb p0)), .second, .val (.double (own_pb p1)), .second, .val (.double (own_pb p2)), .second, .val (.int (1 : Int32)), .unset, .unset, .unset, .unset, .unset, .unset, .unset] [(.int (255 : Int32)), (.int (own_sri p3 (8 : Int32)))]))
    refine own_byW (fun _ kz => XS.iand X3.here hx rfl (hb hby at_36) rfl kz) ?_
    show own_GoW _ _ _ _ _ _ _ (T3.setTop (mkF m 37 #[.val (.int p0), .val (.int p1), .val (.int p2), .val (.int p3), .val (.double (own_pb p0)), .second, .val (.double (own_pb p1)), .second, .val (.double (own_pb p2)), .second, .val (.int (1 : Int32)), .unset, .unset, .unset, .unset, .unset, .unset, .unset] [(.int ((own_sri p3 (8 : Int32)) &&& (255 : Int32)))]))
    refine own_byW (fun _ kz => XS.iconst X3.here hx rfl (hb hby at_37) kz) ?_
    show own_GoW _ _ _ _ _ _ _ (T3.setTop (mkF m 38 #[.val (.int p0), .val (.int p1), .val (.int p2), .val (.int p3), .val (.double (own_pb p0)), .second, .val (.double (own_pb p1)), .second, .val (.double (own_pb p2)), .second, .val (.int (1 : Int32)), .unset, .unset, .unset, .unset, .unset, .unset, .unset] [(.int (5 : Int32)), (.int ((own_sri p3 (8 : Int32)) &&& (255 : Int32)))]))
    refine own_byW (fun _ kz => XS.irem X3.here hx rfl (hb hby at_38) rfl (by decide) kz) ?_
    show own_GoW _ _ _ _ _ _ _ (T3.setTop (mkF m 39 #[.val (.int p0), .val (.int p1), .val (.int p2), .val (.int p3), .val (.double (own_pb p0)), .second, .val (.double (own_pb p1)), .second, .val (.double (own_pb p2)), .second, .val (.int (1 : Int32)), .unset, .unset, .unset, .unset, .unset, .unset, .unset] [(.int (((own_sri p3 (8 : Int32)) &&& (255 : Int32)) - (((own_sri p3 (8 : Int32)) &&& (255 : Int32)) / (5 : Int32)) * (5 : Int32)))]))
    generalize (((own_sri p3 (8 : Int32)) &&& (255 : Int32)) - (((own_sri p3 (8 : Int32)) &&& (255 : Int32)) / (5 : Int32)) * (5 : Int32)) = kk
    show own_GoW _ _ _ _ _ _ _ (T3.setTop (mkF m 39 #[.val (.int p0), .val (.int p1), .val (.int p2), .val (.int p3), .val (.double (own_pb p0)), .second, .val (.double (own_pb p1)), .second, .val (.double (own_pb p2)), .second, .val (.int (1 : Int32)), .unset, .unset, .unset, .unset, .unset, .unset, .unset] [(.int kk)]))
    refine own_byW (fun _ kz => XS.istore X3.here hx rfl (hb hby at_39) rfl (l' := #[.val (.int p0), .val (.int p1), .val (.int p2), .val (.int p3), .val (.double (own_pb p0)), .second, .val (.double (own_pb p1)), .second, .val (.double (own_pb p2)), .second, .val (.int (1 : Int32)), .val (.int kk), .unset, .unset, .unset, .unset, .unset, .unset]) rfl kz) ?_
    show own_GoW _ _ _ _ _ _ _ (T3.setTop (mkF m 41 #[.val (.int p0), .val (.int p1), .val (.int p2), .val (.int p3), .val (.double (own_pb p0)), .second, .val (.double (own_pb p1)), .second, .val (.double (own_pb p2)), .second, .val (.int (1 : Int32)), .val (.int kk), .unset, .unset, .unset, .unset, .unset, .unset] []))
    obtain ⟨T4, h4, X4, e4, E4, A4, D4, -, st4⟩ := newO X3 hx hZ hown (ow hw 6 rfl) (ow hw 7 rfl) (ow hw 8 rfl) hh3 (g := (mkF m 41 #[.val (.int p0), .val (.int p1), .val (.int p2), .val (.int p3), .val (.double (own_pb p0)), .second, .val (.double (own_pb p1)), .second, .val (.double (own_pb p2)), .second, .val (.int (1 : Int32)), .val (.int kk), .unset, .unset, .unset, .unset, .unset, .unset] [])) rfl (hb hby at_41) (by decide) (by decide)
    obtain ⟨b4, g4⟩ : ∃ z, z = h0.size := ⟨_, rfl⟩
    rw [← g4] at A4 D4 st4
    have ge_b4 : n0 ≤ b4 := Nat.le_trans Z0 (Nat.le_of_eq g4.symm)
    have ne_D_b4 : D ≠ b4 := by rw [g4]; exact Nat.ne_of_lt VDh.lt
    have Z4 : n0 ≤ h4.size := Nat.le_trans Z0 E4.1
    have O4 := O0.ext E4
    have VDh_h4 := VDh.ext E4
    have F4_modCount : Fld Z h4 b4 "java/util/AbstractList" "modCount" "I" (.int (0 : Int32)) := D4 (Or.inl (ow hw 28 rfl)) (ty := .int) (by decide)
    have F4_elementData : Fld Z h4 b4 "java/util/ArrayList" "elementData" "[Ljava/lang/Object;" .null := D4 (Or.inl (ow hw 31 rfl)) (ty := (.array (.object "java/lang/Object"))) (by decide)
    have F4_size : Fld Z h4 b4 "java/util/ArrayList" "size" "I" (.int (0 : Int32)) := D4 (Or.inl (ow hw 59 rfl)) (ty := .int) (by decide)
    refine own_byW st4 ?_
    show own_GoW _ _ _ _ _ _ _ (T4.setTop (mkF m 44 #[.val (.int p0), .val (.int p1), .val (.int p2), .val (.int p3), .val (.double (own_pb p0)), .second, .val (.double (own_pb p1)), .second, .val (.double (own_pb p2)), .second, .val (.int (1 : Int32)), .val (.int kk), .unset, .unset, .unset, .unset, .unset, .unset] [(.ref b4)]))
    refine own_byW (fun _ kz => XS.dup X4.here hx rfl (hb hby at_44) rfl rfl kz) ?_
    show own_GoW _ _ _ _ _ _ _ (T4.setTop (mkF m 45 #[.val (.int p0), .val (.int p1), .val (.int p2), .val (.int p3), .val (.double (own_pb p0)), .second, .val (.double (own_pb p1)), .second, .val (.double (own_pb p2)), .second, .val (.int (1 : Int32)), .val (.int kk), .unset, .unset, .unset, .unset, .unset, .unset] [(.ref b4), (.ref b4)]))
    obtain ⟨v5, T5, L5, X5, q5, st5⟩ := own_callI X4 hx hZ rfl hown (ow hw 9 rfl) (ow hw 10 rfl) (ow hw 8 rfl) (ow hw 11 rfl) (by decide) (rm2 l Z a0 hw [] b4 h4 n0 Z4 D SD A4 F4_modCount F4_elementData F4_size ge_b4 O4) (W := 1) (by decide) (by decide) e4 (g := (mkF m 45 #[.val (.int p0), .val (.int p1), .val (.int p2), .val (.int p3), .val (.double (own_pb p0)), .second, .val (.double (own_pb p1)), .second, .val (.double (own_pb p2)), .second, .val (.int (1 : Int32)), .val (.int kk), .unset, .unset, .unset, .unset, .unset, .unset] [(.ref b4), (.ref b4)])) rfl (by rw [hml]; rfl) (a := b4) (argsL := []) (rest := [(.ref b4)]) (lenOf pd_2 rfl) rfl rfl (by show 2 * 0 + _ ≤ _; exact Nat.le_of_eq rfl) (hb hby at_45) (by decide) (by decide)
    obtain ⟨rfl, Nq5, Kq5, o5_0, o5_1, o5_2⟩ := q5
    have N5 := Fr.app N3 Nq5
    have Z5 : n0 ≤ T5.heap.size := Nat.le_trans Z4 Kq5.1
    have O5 := O4.keep Kq5 (allS ge_b4 all0)
    have VDh_h5 := VDh_h4.keep Kq5 (ninS ne_D_b4 nin0)
    have A4_h5 := A4.keep Kq5
    refine own_byW st5 ?_
    show own_GoW _ _ _ _ _ _ _ (T5.setTop (mkF m 48 #[.val (.int p0), .val (.int p1), .val (.int p2), .val (.int p3), .val (.double (own_pb p0)), .second, .val (.double (own_pb p1)), .second, .val (.double (own_pb p2)), .second, .val (.int (1 : Int32)), .val (.int kk), .unset, .unset, .unset, .unset, .unset, .unset] [(.ref b4)]))
    refine own_byW (fun _ kz => XS.astore X5.here hx rfl (hb hby at_48) rfl rfl (l' := #[.val (.int p0), .val (.int p1), .val (.int p2), .val (.int p3), .val (.double (own_pb p0)), .second, .val (.double (own_pb p1)), .second, .val (.double (own_pb p2)), .second, .val (.int (1 : Int32)), .val (.int kk), .val (.ref b4), .unset, .unset, .unset, .unset, .unset]) rfl kz) ?_
    show own_GoW _ _ _ _ _ _ _ (T5.setTop (mkF m 50 #[.val (.int p0), .val (.int p1), .val (.int p2), .val (.int p3), .val (.double (own_pb p0)), .second, .val (.double (own_pb p1)), .second, .val (.double (own_pb p2)), .second, .val (.int (1 : Int32)), .val (.int kk), .val (.ref b4), .unset, .unset, .unset, .unset, .unset] []))
    refine own_byW (fun _ kz => XS.aload X5.here hx rfl (hb hby at_50) rfl rfl kz) ?_
    refine own_byW (fun _ kz => XS.dload X5.here hx rfl (hb hby at_52) rfl kz) ?_
    show own_GoW _ _ _ _ _ _ _ (T5.setTop (mkF m 54 #[.val (.int p0), .val (.int p1), .val (.int p2), .val (.int p3), .val (.double (own_pb p0)), .second, .val (.double (own_pb p1)), .second, .val (.double (own_pb p2)), .second, .val (.int (1 : Int32)), .val (.int kk), .val (.ref b4), .unset, .unset, .unset, .unset, .unset] [(.double (own_pb p0)), (.ref b4)]))
    obtain ⟨v6, T6, L6, X6, q6, st6⟩ := own_callS X5 hx hZ hown (ow hw 32 rfl) (ow hw 33 rfl) (ow hw 34 rfl) (ow hw 35 rfl) (by decide) (rm6 l Z a0 hw [] (own_pb p0) T5.heap n0 Z5 ) (W := 1) (by decide) (by decide) rfl (g := (mkF m 54 #[.val (.int p0), .val (.int p1), .val (.int p2), .val (.int p3), .val (.double (own_pb p0)), .second, .val (.double (own_pb p1)), .second, .val (.double (own_pb p2)), .second, .val (.int (1 : Int32)), .val (.int kk), .val (.ref b4), .unset, .unset, .unset, .unset, .unset] [(.double (own_pb p0)), (.ref b4)])) rfl (by rw [hml]; rfl) (argsL := [(.double (own_pb p0))]) (rest := [(.ref b4)]) (lenOf pd_6 rfl) rfl rfl (by show 2 * 0 + _ ≤ _; exact Nat.le_of_eq rfl) (hb hby at_54) (by decide) (by decide)
    obtain ⟨r6, rfl, Nq6, Kq6, o6_0, o6_1, o6_2⟩ := q6
    have N6 := Fr.app N5 Nq6
    have Z6 : n0 ≤ T6.heap.size := Nat.le_trans Z5 Kq6.1
    have O6 := O5.keep Kq6 all0
    have VDh_h6 := VDh_h5.keep Kq6 nin0
    have A4_h6 := A4_h5.keep Kq6
    have o5_0_h6 := o5_0.keep Kq6 nin0
    have o5_1_h6 := o5_1.keep Kq6 nin0
    have o5_2_h6 := o5_2.keep Kq6 nin0
    have ge_r6 : n0 ≤ r6 := Nat.le_trans Z5 o6_0
    have ne_D_r6 : D ≠ r6 := Nat.ne_of_lt (Nat.lt_of_lt_of_le VDh_h5.lt o6_0)
    have ne_b4_r6 : b4 ≠ r6 := Nat.ne_of_lt (Nat.lt_of_lt_of_le A4_h5.lt o6_0)
    refine own_byW st6 ?_
    show own_GoW _ _ _ _ _ _ _ (T6.setTop (mkF m 57 #[.val (.int p0), .val (.int p1), .val (.int p2), .val (.int p3), .val (.double (own_pb p0)), .second, .val (.double (own_pb p1)), .second, .val (.double (own_pb p2)), .second, .val (.int (1 : Int32)), .val (.int kk), .val (.ref b4), .unset, .unset, .unset, .unset, .unset] [(.ref r6), (.ref b4)]))
    obtain ⟨v7, T7, L7, X7, q7, st7⟩ := own_callV X6 hx hZ hown (ow hw 51 rfl) (ow hw 52 rfl) (ow hw 54 rfl) (ow hw 53 rfl) (ow hw 8 rfl) (ow hw 55 rfl) (by decide) (rm9a l Z a0 hw [] b4 r6 T6.heap n0 Z6 D SD kD A4_h6 o5_1_h6 o5_2_h6 VDh_h6 ne_D_b4 ge_b4 O6 o5_0_h6 o6_1) (W := 0) (by decide) (by decide) rfl A4_h6 (g := (mkF m 57 #[.val (.int p0), .val (.int p1), .val (.int p2), .val (.int p3), .val (.double (own_pb p0)), .second, .val (.double (own_pb p1)), .second, .val (.double (own_pb p2)), .second, .val (.int (1 : Int32)), .val (.int kk), .val (.ref b4), .unset, .unset, .unset, .unset, .unset] [(.ref r6), (.ref b4)])) rfl (by rw [hml]; rfl) (argsL := [(.ref r6)]) (rest := []) (lenOf pd_9 rfl) rfl rfl (by show 2 * 0 + _ ≤ _; exact Nat.le_of_eq rfl) (hb hby at_57) (by decide) (by decide)
    obtain ⟨ea7, kA7, rfl, Nq7, Kq7, o7_0, o7_1, o7_2, o7_3, o7_4, o7_5, o7_6⟩ := q7
    have N7 := Fr.app N6 Nq7
    have Z7 : n0 ≤ T7.heap.size := Nat.le_trans Z6 Kq7.1
    have O7 := O6.keep Kq7 (allS ge_b4 all0)
    have A4_h7 := A4_h6.keep Kq7
    have o6_1_h7 := o6_1.keep Kq7
    have o6_2_h7 := o6_2.keep Kq7 (ninS (Ne.symm ne_b4_r6) nin0)
    have ge_ea7 : n0 ≤ ea7 := Nat.le_trans Z6 o7_0
    have ne_D_ea7 : D ≠ ea7 := Nat.ne_of_lt (Nat.lt_of_lt_of_le VDh_h6.lt o7_0)
    have ne_b4_ea7 : b4 ≠ ea7 := Nat.ne_of_lt (Nat.lt_of_lt_of_le A4_h6.lt o7_0)
    have ne_r6_ea7 : r6 ≠ ea7 := Nat.ne_of_lt (Nat.lt_of_lt_of_le o6_1.lt o7_0)
    refine own_byW st7 ?_
    show own_GoW _ _ _ _ _ _ _ (T7.setTop (mkF m 60 #[.val (.int p0), .val (.int p1), .val (.int p2), .val (.int p3), .val (.double (own_pb p0)), .second, .val (.double (own_pb p1)), .second, .val (.double (own_pb p2)), .second, .val (.int (1 : Int32)), .val (.int kk), .val (.ref b4), .unset, .unset, .unset, .unset, .unset] [(.int (1 : Int32))]))
    refine own_byW (fun _ kz => XS.pop X7.here hx rfl (hb hby at_60) rfl rfl kz) ?_
    show own_GoW _ _ _ _ _ _ _ (T7.setTop (mkF m 61 #[.val (.int p0), .val (.int p1), .val (.int p2), .val (.int p3), .val (.double (own_pb p0)), .second, .val (.double (own_pb p1)), .second, .val (.double (own_pb p2)), .second, .val (.int (1 : Int32)), .val (.int kk), .val (.ref b4), .unset, .unset, .unset, .unset, .unset] []))
    refine own_byW (fun _ kz => XS.iload X7.here hx rfl (hb hby at_61) rfl kz) ?_
    refine own_byW (fun _ kz => XS.iconst X7.here hx rfl (hb hby at_63) kz) ?_
    show own_GoW _ _ _ _ _ _ _ (T7.setTop (mkF m 64 #[.val (.int p0), .val (.int p1), .val (.int p2), .val (.int p3), .val (.double (own_pb p0)), .second, .val (.double (own_pb p1)), .second, .val (.double (own_pb p2)), .second, .val (.int (1 : Int32)), .val (.int kk), .val (.ref b4), .unset, .unset, .unset, .unset, .unset] [(.int (2 : Int32)), (.int (1 : Int32))]))
    refine own_byW (fun _ kz => XS.icmpYes X7.here hx rfl (pc0 := 64) (pc' := 78) rfl (hb hby at_64) rfl (tlt (by decide : ((1 : Int32) < (2 : Int32)))).1 (by decide) (by decide) kz) ?_
    show own_GoW _ _ _ _ _ _ _ (T7.setTop (mkF m 78 #[.val (.int p0), .val (.int p1), .val (.int p2), .val (.int p3), .val (.double (own_pb p0)), .second, .val (.double (own_pb p1)), .second, .val (.double (own_pb p2)), .second, .val (.int (1 : Int32)), .val (.int kk), .val (.ref b4), .unset, .unset, .unset, .unset, .unset] []))
    refine own_byW (fun _ kz => XS.iload X7.here hx rfl (hb hby at_78) rfl kz) ?_
    refine own_byW (fun _ kz => XS.iconst X7.here hx rfl (hb hby at_80) kz) ?_
    show own_GoW _ _ _ _ _ _ _ (T7.setTop (mkF m 81 #[.val (.int p0), .val (.int p1), .val (.int p2), .val (.int p3), .val (.double (own_pb p0)), .second, .val (.double (own_pb p1)), .second, .val (.double (own_pb p2)), .second, .val (.int (1 : Int32)), .val (.int kk), .val (.ref b4), .unset, .unset, .unset, .unset, .unset] [(.int (3 : Int32)), (.int (1 : Int32))]))
    refine own_byW (fun _ kz => XS.icmpYes X7.here hx rfl (pc0 := 81) (pc' := 95) rfl (hb hby at_81) rfl (tlt (by decide : ((1 : Int32) < (3 : Int32)))).1 (by decide) (by decide) kz) ?_
    show own_GoW _ _ _ _ _ _ _ (T7.setTop (mkF m 95 #[.val (.int p0), .val (.int p1), .val (.int p2), .val (.int p3), .val (.double (own_pb p0)), .second, .val (.double (own_pb p1)), .second, .val (.double (own_pb p2)), .second, .val (.int (1 : Int32)), .val (.int kk), .val (.ref b4), .unset, .unset, .unset, .unset, .unset] []))
    refine own_byW (fun _ kz => XS.iload X7.here hx rfl (hb hby at_95) rfl kz) ?_
    refine own_byW (fun _ kz => XS.iconst X7.here hx rfl (hb hby at_97) kz) ?_
    show own_GoW _ _ _ _ _ _ _ (T7.setTop (mkF m 98 #[.val (.int p0), .val (.int p1), .val (.int p2), .val (.int p3), .val (.double (own_pb p0)), .second, .val (.double (own_pb p1)), .second, .val (.double (own_pb p2)), .second, .val (.int (1 : Int32)), .val (.int kk), .val (.ref b4), .unset, .unset, .unset, .unset, .unset] [(.int (1 : Int32)), (.int (1 : Int32))]))
    refine own_byW (fun _ kz => XS.icmpNo X7.here hx rfl (hb hby at_98) rfl (teq (by decide : ((1 : Int32) = (1 : Int32)))).2 kz) ?_
    show own_GoW _ _ _ _ _ _ _ (T7.setTop (mkF m 101 #[.val (.int p0), .val (.int p1), .val (.int p2), .val (.int p3), .val (.double (own_pb p0)), .second, .val (.double (own_pb p1)), .second, .val (.double (own_pb p2)), .second, .val (.int (1 : Int32)), .val (.int kk), .val (.ref b4), .unset, .unset, .unset, .unset, .unset] []))
    refine own_byW (fun _ kz => XS.dload X7.here hx rfl (hb hby at_101) rfl kz) ?_
    show own_GoW _ _ _ _ _ _ _ (T7.setTop (mkF m 103 #[.val (.int p0), .val (.int p1), .val (.int p2), .val (.int p3), .val (.double (own_pb p0)), .second, .val (.double (own_pb p1)), .second, .val (.double (own_pb p2)), .second, .val (.int (1 : Int32)), .val (.int kk), .val (.ref b4), .unset, .unset, .unset, .unset, .unset] [(.double (own_pb p0))]))
    refine own_byW (fun _ kz => XS.dstore X7.here hx rfl (hb hby at_103) rfl (l' := #[.val (.int p0), .val (.int p1), .val (.int p2), .val (.int p3), .val (.double (own_pb p0)), .second, .val (.double (own_pb p1)), .second, .val (.double (own_pb p2)), .second, .val (.int (1 : Int32)), .val (.int kk), .val (.ref b4), .val (.double (own_pb p0)), .second, .unset, .unset, .unset]) rfl kz) ?_
    show own_GoW _ _ _ _ _ _ _ (T7.setTop (mkF m 105 #[.val (.int p0), .val (.int p1), .val (.int p2), .val (.int p3), .val (.double (own_pb p0)), .second, .val (.double (own_pb p1)), .second, .val (.double (own_pb p2)), .second, .val (.int (1 : Int32)), .val (.int kk), .val (.ref b4), .val (.double (own_pb p0)), .second, .unset, .unset, .unset] []))
    refine own_byW (fun _ kz => XS.goto X7.here hx rfl (pc0 := 105) (pc' := 125) rfl (hb hby at_105) (by decide) (by decide) kz) ?_
    show own_GoW _ _ _ _ _ _ _ (T7.setTop (mkF m 125 #[.val (.int p0), .val (.int p1), .val (.int p2), .val (.int p3), .val (.double (own_pb p0)), .second, .val (.double (own_pb p1)), .second, .val (.double (own_pb p2)), .second, .val (.int (1 : Int32)), .val (.int kk), .val (.ref b4), .val (.double (own_pb p0)), .second, .unset, .unset, .unset] []))
    obtain ⟨T8, h8, X8, e8, E8, A8, D8, -, st8⟩ := newO X7 hx hZ hown (ow hw 82 rfl) (ow hw 83 rfl) (ow hw 84 rfl) rfl (g := (mkF m 125 #[.val (.int p0), .val (.int p1), .val (.int p2), .val (.int p3), .val (.double (own_pb p0)), .second, .val (.double (own_pb p1)), .second, .val (.double (own_pb p2)), .second, .val (.int (1 : Int32)), .val (.int kk), .val (.ref b4), .val (.double (own_pb p0)), .second, .unset, .unset, .unset] [])) rfl (hb hby at_125) (by decide) (by decide)
    obtain ⟨b8, g8⟩ : ∃ z, z = T7.heap.size := ⟨_, rfl⟩
    rw [← g8] at A8 D8 st8
    have ge_b8 : n0 ≤ b8 := Nat.le_trans Z7 (Nat.le_of_eq g8.symm)
    have ne_b4_b8 : b4 ≠ b8 := by rw [g8]; exact Nat.ne_of_lt A4_h7.lt
    have ne_r6_b8 : r6 ≠ b8 := by rw [g8]; exact Nat.ne_of_lt o6_1_h7.lt
    have ne_ea7_b8 : ea7 ≠ b8 := by rw [g8]; exact Nat.ne_of_lt o7_4.lt
    have Z8 : n0 ≤ h8.size := Nat.le_trans Z7 E8.1
    have O8 := O7.ext E8
    have A4_h8 := A4_h7.ext E8
    have o6_1_h8 := o6_1_h7.ext E8
    have o6_2_h8 := o6_2_h7.ext E8
    have o7_1_h8 := o7_1.ext E8
    have o7_2_h8 := o7_2.ext E8
    have o7_3_h8 := o7_3.ext E8
    have o7_4_h8 := o7_4.ext E8
    have o7_5_h8 := o7_5.ext E8
    have F8_link : Fld Z h8 b8 "com/example/inferlink/inferlink/LinkDelay" "link" "Lcom/example/inferlink/inferlink/Link;" .null := D8 (Or.inr (ow hw 273 rfl)) (ty := (.object "com/example/inferlink/inferlink/Link")) (by decide)
    have F8_status : Fld Z h8 b8 "com/example/inferlink/inferlink/LinkDelay" "status" "Lcom/example/inferlink/inferlink/LinkStatus;" .null := D8 (Or.inr (ow hw 275 rfl)) (ty := (.object "com/example/inferlink/inferlink/LinkStatus")) (by decide)
    have F8_probabilities : Fld Z h8 b8 "com/example/inferlink/inferlink/LinkDelay" "probabilities" "Ljava/util/List;" .null := D8 (Or.inr (ow hw 277 rfl)) (ty := (.object "java/util/List")) (by decide)
    refine own_byW st8 ?_
    show own_GoW _ _ _ _ _ _ _ (T8.setTop (mkF m 128 #[.val (.int p0), .val (.int p1), .val (.int p2), .val (.int p3), .val (.double (own_pb p0)), .second, .val (.double (own_pb p1)), .second, .val (.double (own_pb p2)), .second, .val (.int (1 : Int32)), .val (.int kk), .val (.ref b4), .val (.double (own_pb p0)), .second, .unset, .unset, .unset] [(.ref b8)]))
    refine own_byW (fun _ kz => XS.dup X8.here hx rfl (hb hby at_128) rfl rfl kz) ?_
    show own_GoW _ _ _ _ _ _ _ (T8.setTop (mkF m 129 #[.val (.int p0), .val (.int p1), .val (.int p2), .val (.int p3), .val (.double (own_pb p0)), .second, .val (.double (own_pb p1)), .second, .val (.double (own_pb p2)), .second, .val (.int (1 : Int32)), .val (.int kk), .val (.ref b4), .val (.double (own_pb p0)), .second, .unset, .unset, .unset] [(.ref b8), (.ref b8)]))
    obtain ⟨T9, h9, X9, e9, E9, A9, D9, -, st9⟩ := newO X8 hx hZ hown (ow hw 85 rfl) (ow hw 86 rfl) (ow hw 87 rfl) e8 (g := (mkF m 129 #[.val (.int p0), .val (.int p1), .val (.int p2), .val (.int p3), .val (.double (own_pb p0)), .second, .val (.double (own_pb p1)), .second, .val (.double (own_pb p2)), .second, .val (.int (1 : Int32)), .val (.int kk), .val (.ref b4), .val (.double (own_pb p0)), .second, .unset, .unset, .unset] [(.ref b8), (.ref b8)])) rfl (hb hby at_129) (by decide) (by decide)
    obtain ⟨b9, g9⟩ : ∃ z, z = h8.size := ⟨_, rfl⟩
    rw [← g9] at A9 D9 st9
    have ge_b9 : n0 ≤ b9 := Nat.le_trans Z8 (Nat.le_of_eq g9.symm)
    have ne_b4_b9 : b4 ≠ b9 := by rw [g9]; exact Nat.ne_of_lt A4_h8.lt
    have ne_r6_b9 : r6 ≠ b9 := by rw [g9]; exact Nat.ne_of_lt o6_1_h8.lt
    have ne_ea7_b9 : ea7 ≠ b9 := by rw [g9]; exact Nat.ne_of_lt o7_4_h8.lt
    have ne_b8_b9 : b8 ≠ b9 := by rw [g9]; exact Nat.ne_of_lt A8.lt
    have Z9 : n0 ≤ h9.size := Nat.le_trans Z8 E9.1
    have O9 := O8.ext E9
    have A4_h9 := A4_h8.ext E9
    have o6_1_h9 := o6_1_h8.ext E9
    have o6_2_h9 := o6_2_h8.ext E9
    have o7_1_h9 := o7_1_h8.ext E9
    have o7_2_h9 := o7_2_h8.ext E9
    have o7_3_h9 := o7_3_h8.ext E9
    have o7_4_h9 := o7_4_h8.ext E9
    have o7_5_h9 := o7_5_h8.ext E9
    have A8_h9 := A8.ext E9
    have F8_link_h9 := F8_link.ext E9
    have F8_status_h9 := F8_status.ext E9
    have F8_probabilities_h9 := F8_probabilities.ext E9
    have F9_child : Fld Z h9 b9 "com/example/inferlink/inferlink/Link" "child" "Ljava/lang/String;" .null := D9 (Or.inr (ow hw 107 rfl)) (ty := (.object "java/lang/String")) (by decide)
    have F9_parent : Fld Z h9 b9 "com/example/inferlink/inferlink/Link" "parent" "Ljava/lang/String;" .null := D9 (Or.inr (ow hw 109 rfl)) (ty := (.object "java/lang/String")) (by decide)
    refine own_byW st9 ?_
    show own_GoW _ _ _ _ _ _ _ (T9.setTop (mkF m 132 #[.val (.int p0), .val (.int p1), .val (.int p2), .val (.int p3), .val (.double (own_pb p0)), .second, .val (.double (own_pb p1)), .second, .val (.double (own_pb p2)), .second, .val (.int (1 : Int32)), .val (.int kk), .val (.ref b4), .val (.double (own_pb p0)), .second, .unset, .unset, .unset] [(.ref b9), (.ref b8), (.ref b8)]))
    refine own_byW (fun _ kz => XS.dup X9.here hx rfl (hb hby at_132) rfl rfl kz) ?_
    show own_GoW _ _ _ _ _ _ _ (T9.setTop (mkF m 133 #[.val (.int p0), .val (.int p1), .val (.int p2), .val (.int p3), .val (.double (own_pb p0)), .second, .val (.double (own_pb p1)), .second, .val (.double (own_pb p2)), .second, .val (.int (1 : Int32)), .val (.int kk), .val (.ref b4), .val (.double (own_pb p0)), .second, .unset, .unset, .unset] [(.ref b9), (.ref b9), (.ref b8), (.ref b8)]))
    obtain ⟨a10, T10, h10, k10, X10, e10, E10, hS10, hk10, hZ, hown, st10⟩ := ldcS (s := s) (vm0 := s.vm) X9 hx hZ hown (ow hw 88 rfl) (own_strs hw) e9 ((State.WarmedH.refl s).since 0) (Nat.zero_le _) (g := (mkF m 133 #[.val (.int p0), .val (.int p1), .val (.int p2), .val (.int p3), .val (.double (own_pb p0)), .second, .val (.double (own_pb p1)), .second, .val (.double (own_pb p2)), .second, .val (.int (1 : Int32)), .val (.int kk), .val (.ref b4), .val (.double (own_pb p0)), .second, .unset, .unset, .unset] [(.ref b9), (.ref b9), (.ref b8), (.ref b8)])) rfl (hb hby at_133) (n := 4) (by decide) (by decide) (by decide) (by decide)
    have Z10 : n0 ≤ h10.size := Nat.le_trans Z9 E10.1
    have O10 := O9.ext E10
    have A4_h10 := A4_h9.ext E10
    have o6_1_h10 := o6_1_h9.ext E10
    have o6_2_h10 := o6_2_h9.ext E10
    have o7_1_h10 := o7_1_h9.ext E10
    have o7_2_h10 := o7_2_h9.ext E10
    have o7_3_h10 := o7_3_h9.ext E10
    have o7_4_h10 := o7_4_h9.ext E10
    have o7_5_h10 := o7_5_h9.ext E10
    have A8_h10 := A8_h9.ext E10
    have F8_link_h10 := F8_link_h9.ext E10
    have F8_status_h10 := F8_status_h9.ext E10
    have F8_probabilities_h10 := F8_probabilities_h9.ext E10
    have A9_h10 := A9.ext E10
    have F9_child_h10 := F9_child.ext E10
    have F9_parent_h10 := F9_parent.ext E10
    refine own_byW st10 ?_
    show own_GoW _ _ _ _ _ _ _ (T10.setTop (mkF m 135 #[.val (.int p0), .val (.int p1), .val (.int p2), .val (.int p3), .val (.double (own_pb p0)), .second, .val (.double (own_pb p1)), .second, .val (.double (own_pb p2)), .second, .val (.int (1 : Int32)), .val (.int kk), .val (.ref b4), .val (.double (own_pb p0)), .second, .unset, .unset, .unset] [(.ref a10), (.ref b9), (.ref b9), (.ref b8), (.ref b8)]))
    obtain ⟨a11, T11, h11, k11, X11, e11, E11, hS11, hk11, hZ, hown, st11⟩ := ldcS (s := s) (vm0 := T10.vm) X10 hx hZ hown (ow hw 96 rfl) (own_strs hw) e10 hS10 hk10 (g := (mkF m 135 #[.val (.int p0), .val (.int p1), .val (.int p2), .val (.int p3), .val (.double (own_pb p0)), .second, .val (.double (own_pb p1)), .second, .val (.double (own_pb p2)), .second, .val (.int (1 : Int32)), .val (.int kk), .val (.ref b4), .val (.double (own_pb p0)), .second, .unset, .unset, .unset] [(.ref a10), (.ref b9), (.ref b9), (.ref b8), (.ref b8)])) rfl (hb hby at_135) (n := 4) (by decide) (by decide) (by decide) (by decide)
    have Z11 : n0 ≤ h11.size := Nat.le_trans Z10 E11.1
    have O11 := O10.ext E11
    have A4_h11 := A4_h10.ext E11
    have o6_1_h11 := o6_1_h10.ext E11
    have o6_2_h11 := o6_2_h10.ext E11
    have o7_1_h11 := o7_1_h10.ext E11
    have o7_2_h11 := o7_2_h10.ext E11
    have o7_3_h11 := o7_3_h10.ext E11
    have o7_4_h11 := o7_4_h10.ext E11
    have o7_5_h11 := o7_5_h10.ext E11
    have A8_h11 := A8_h10.ext E11
    have F8_link_h11 := F8_link_h10.ext E11
    have F8_status_h11 := F8_status_h10.ext E11
    have F8_probabilities_h11 := F8_probabilities_h10.ext E11
    have A9_h11 := A9_h10.ext E11
    have F9_child_h11 := F9_child_h10.ext E11
    have F9_parent_h11 := F9_parent_h10.ext E11
    refine own_byW st11 ?_
    show own_GoW _ _ _ _ _ _ _ (T11.setTop (mkF m 137 #[.val (.int p0), .val (.int p1), .val (.int p2), .val (.int p3), .val (.double (own_pb p0)), .second, .val (.double (own_pb p1)), .second, .val (.double (own_pb p2)), .second, .val (.int (1 : Int32)), .val (.int kk), .val (.ref b4), .val (.double (own_pb p0)), .second, .unset, .unset, .unset] [(.ref a11), (.ref a10), (.ref b9), (.ref b9), (.ref b8), (.ref b8)]))
    obtain ⟨v12, T12, L12, X12, q12, st12⟩ := own_callI X11 hx hZ rfl hown (ow hw 97 rfl) (ow hw 98 rfl) (ow hw 87 rfl) (ow hw 99 rfl) (by decide) (rm14 l Z a0 hw [] b9 a10 a11 h11 n0 Z11 A9_h11 F9_child_h11 F9_parent_h11 ge_b9) (W := 3) (by decide) (by decide) e11 (g := (mkF m 137 #[.val (.int p0), .val (.int p1), .val (.int p2), .val (.int p3), .val (.double (own_pb p0)), .second, .val (.double (own_pb p1)), .second, .val (.double (own_pb p2)), .second, .val (.int (1 : Int32)), .val (.int kk), .val (.ref b4), .val (.double (own_pb p0)), .second, .unset, .unset, .unset] [(.ref a11), (.ref a10), (.ref b9), (.ref b9), (.ref b8), (.ref b8)])) rfl (by rw [hml]; rfl) (a := b9) (argsL := [(.ref a10), (.ref a11)]) (rest := [(.ref b9), (.ref b8), (.ref b8)]) (lenOf pd_14 rfl) rfl rfl (by show 2 * 0 + _ ≤ _; exact Nat.le_of_eq rfl) (hb hby at_137) (by decide) (by decide)
    obtain ⟨rfl, Nq12, Kq12⟩ := q12
    have N12 := Fr.app N7 Nq12
    have Z12 : n0 ≤ T12.heap.size := Nat.le_trans Z11 Kq12.1
    have hk12 := Nat.le_trans hk11 Kq12.1
    have O12 := O11.keep Kq12 (allS ge_b9 all0)
    have A4_h12 := A4_h11.keep Kq12
    have o6_1_h12 := o6_1_h11.keep Kq12
    have o6_2_h12 := o6_2_h11.keep Kq12 (ninS ne_r6_b9 nin0)
    have o7_1_h12 := o7_1_h11.keep Kq12 (ninS ne_b4_b9 nin0)
    have o7_2_h12 := o7_2_h11.keep Kq12 (ninS ne_b4_b9 nin0)
    have o7_3_h12 := o7_3_h11.keep Kq12 (ninS ne_b4_b9 nin0)
    have o7_4_h12 := o7_4_h11.keep Kq12
    have o7_5_h12 := o7_5_h11.keep Kq12 (ninS ne_ea7_b9 nin0)
    have A8_h12 := A8_h11.keep Kq12
    have F8_link_h12 := F8_link_h11.keep Kq12 (ninS ne_b8_b9 nin0)
    have F8_status_h12 := F8_status_h11.keep Kq12 (ninS ne_b8_b9 nin0)
    have F8_probabilities_h12 := F8_probabilities_h11.keep Kq12 (ninS ne_b8_b9 nin0)
    refine own_byW st12 ?_
    show own_GoW _ _ _ _ _ _ _ (T12.setTop (mkF m 140 #[.val (.int p0), .val (.int p1), .val (.int p2), .val (.int p3), .val (.double (own_pb p0)), .second, .val (.double (own_pb p1)), .second, .val (.double (own_pb p2)), .second, .val (.int (1 : Int32)), .val (.int kk), .val (.ref b4), .val (.double (own_pb p0)), .second, .unset, .unset, .unset] [(.ref b9), (.ref b8), (.ref b8)]))
    refine own_byW (fun _ kz => XS.iload X12.here hx rfl (hb hby at_140) rfl kz) ?_
    show own_GoW _ _ _ _ _ _ _ (T12.setTop (mkF m 142 #[.val (.int p0), .val (.int p1), .val (.int p2), .val (.int p3), .val (.double (own_pb p0)), .second, .val (.double (own_pb p1)), .second, .val (.double (own_pb p2)), .second, .val (.int (1 : Int32)), .val (.int kk), .val (.ref b4), .val (.double (own_pb p0)), .second, .unset, .unset, .unset] [(.int kk), (.ref b9), (.ref b8), (.ref b8)]))
    have esOK_13 := ESOK.ext O12.2
    have fsOK_13 := FSOK.ext O12.2
    have esNO_LOSS_SEEN_13 := ESNO_LOSS_SEEN.ext O12.2
    have fsNO_LOSS_SEEN_13 := FSNO_LOSS_SEEN.ext O12.2
    have esCOMPOSITE_WITH_PARENT_13 := ESCOMPOSITE_WITH_PARENT.ext O12.2
    have fsCOMPOSITE_WITH_PARENT_13 := FSCOMPOSITE_WITH_PARENT.ext O12.2
    have esESTIMATE_ABOVE_ONE_13 := ESESTIMATE_ABOVE_ONE.ext O12.2
    have fsESTIMATE_ABOVE_ONE_13 := FSESTIMATE_ABOVE_ONE.ext O12.2
    have esNOT_CONVERGED_13 := ESNOT_CONVERGED.ext O12.2
    have fsNOT_CONVERGED_13 := FSNOT_CONVERGED.ext O12.2
    obtain ⟨v14, T14, L14, X14, q14, st14⟩ := own_callS X12 hx hZ hown (ow hw 110 rfl) (ow hw 111 rfl) (ow hw 2 rfl) (ow hw 112 rfl) (by decide) (rm16 l Z a0 hw [] kk T12.heap n0 Z12 sOK sNO_LOSS_SEEN sCOMPOSITE_WITH_PARENT sESTIMATE_ABOVE_ONE sNOT_CONVERGED esOK_13 fsOK_13 (SOK.ext O12.2) esNO_LOSS_SEEN_13 fsNO_LOSS_SEEN_13 (SNO_LOSS_SEEN.ext O12.2) esCOMPOSITE_WITH_PARENT_13 fsCOMPOSITE_WITH_PARENT_13 (SCOMPOSITE_WITH_PARENT.ext O12.2) esESTIMATE_ABOVE_ONE_13 fsESTIMATE_ABOVE_ONE_13 (SESTIMATE_ABOVE_ONE.ext O12.2) esNOT_CONVERGED_13 fsNOT_CONVERGED_13 (SNOT_CONVERGED.ext O12.2)) (W := 3) (by decide) (by decide) rfl (g := (mkF m 142 #[.val (.int p0), .val (.int p1), .val (.int p2), .val (.int p3), .val (.double (own_pb p0)), .second, .val (.double (own_pb p1)), .second, .val (.double (own_pb p2)), .second, .val (.int (1 : Int32)), .val (.int kk), .val (.ref b4), .val (.double (own_pb p0)), .second, .unset, .unset, .unset] [(.int kk), (.ref b9), (.ref b8), (.ref b8)])) rfl (by rw [hml]; rfl) (argsL := [(.int kk)]) (rest := [(.ref b9), (.ref b8), (.ref b8)]) (lenOf pd_16 rfl) rfl rfl (by show 2 * 0 + _ ≤ _; exact Nat.le_of_eq rfl) (hb hby at_142) (by decide) (by decide)
    obtain ⟨r14, rfl, Nq14, hh14, o14_0, o14_1⟩ := q14
    have N14 := Fr.app N12 Nq14
    rw [hh14] at o14_0
    rw [hh14] at o14_1
    refine own_byW st14 ?_
    show own_GoW _ _ _ _ _ _ _ (T14.setTop (mkF m 145 #[.val (.int p0), .val (.int p1), .val (.int p2), .val (.int p3), .val (.double (own_pb p0)), .second, .val (.double (own_pb p1)), .second, .val (.double (own_pb p2)), .second, .val (.int (1 : Int32)), .val (.int kk), .val (.ref b4), .val (.double (own_pb p0)), .second, .unset, .unset, .unset] [(.ref r14), (.ref b9), (.ref b8), (.ref b8)]))
    refine own_byW (fun _ kz => XS.aload X14.here hx rfl (hb hby at_145) rfl rfl kz) ?_
    show own_GoW _ _ _ _ _ _ _ (T14.setTop (mkF m 147 #[.val (.int p0), .val (.int p1), .val (.int p2), .val (.int p3), .val (.double (own_pb p0)), .second, .val (.double (own_pb p1)), .second, .val (.double (own_pb p2)), .second, .val (.int (1 : Int32)), .val (.int kk), .val (.ref b4), .val (.double (own_pb p0)), .second, .unset, .unset, .unset] [(.ref b4), (.ref r14), (.ref b9), (.ref b8), (.ref b8)]))
    obtain ⟨v15, T15, L15, X15, q15, st15⟩ := own_callI X14 hx hZ rfl hown (ow hw 116 rfl) (ow hw 117 rfl) (ow hw 84 rfl) (ow hw 118 rfl) (by decide) (rm17_1 l Z a0 hw [] b8 b9 r14 b4 T12.heap n0 Z12 em SE mr MI ea7 kA7 r6 (own_pb p0) A8_h12 F8_link_h12 F8_status_h12 F8_probabilities_h12 ge_b8 o14_0 o14_1 A4_h12 o7_1_h12 o7_2_h12 o7_3_h12 o7_4_h12 o7_5_h12 o6_1_h12 o6_2_h12 (own_pb_in p0) O12) (W := 1) (by decide) (by decide) hh14 (g := (mkF m 147 #[.val (.int p0), .val (.int p1), .val (.int p2), .val (.int p3), .val (.double (own_pb p0)), .second, .val (.double (own_pb p1)), .second, .val (.double (own_pb p2)), .second, .val (.int (1 : Int32)), .val (.int kk), .val (.ref b4), .val (.double (own_pb p0)), .second, .unset, .unset, .unset] [(.ref b4), (.ref r14), (.ref b9), (.ref b8), (.ref b8)])) rfl (by rw [hml]; rfl) (a := b8) (argsL := [(.ref b9), (.ref r14), (.ref b4)]) (rest := [(.ref b8)]) (lenOf pd_17 rfl) rfl rfl (by show 2 * 0 + _ ≤ _; exact Nat.le_of_eq rfl) (hb hby at_147) (by decide) (by decide)
    obtain ⟨r15, rfl, Nq15, Kq15, o15_0, o15_1, o15_2, o15_3, o15_4⟩ := q15
    have N15 := Fr.app N14 Nq15
    have Z15 : n0 ≤ T15.heap.size := Nat.le_trans Z12 Kq15.1
    have hk15 := Nat.le_trans hk12 Kq15.1
    have O15 := O12.keep Kq15 (allS ge_b8 all0)
    have o6_1_h15 := o6_1_h12.keep Kq15
    have o6_2_h15 := o6_2_h12.keep Kq15 (ninS ne_r6_b8 nin0)
    have A8_h15 := A8_h12.keep Kq15
    have ge_r15 : n0 ≤ r15 := Nat.le_trans Z12 o15_1
    have ne_b4_r15 : b4 ≠ r15 := Nat.ne_of_lt (Nat.lt_of_lt_of_le A4_h12.lt o15_1)
    have ne_r6_r15 : r6 ≠ r15 := Nat.ne_of_lt (Nat.lt_of_lt_of_le o6_1_h12.lt o15_1)
    have ne_ea7_r15 : ea7 ≠ r15 := Nat.ne_of_lt (Nat.lt_of_lt_of_le o7_4_h12.lt o15_1)
    have ne_b8_r15 : b8 ≠ r15 := Nat.ne_of_lt (Nat.lt_of_lt_of_le A8_h12.lt o15_1)
    have ne_r14_r15 : r14 ≠ r15 := Nat.ne_of_lt (Nat.lt_of_lt_of_le o14_0.lt o15_1)
    refine own_byW st15 ?_
    show own_GoW _ _ _ _ _ _ _ (T15.setTop (mkF m 150 #[.val (.int p0), .val (.int p1), .val (.int p2), .val (.int p3), .val (.double (own_pb p0)), .second, .val (.double (own_pb p1)), .second, .val (.double (own_pb p2)), .second, .val (.int (1 : Int32)), .val (.int kk), .val (.ref b4), .val (.double (own_pb p0)), .second, .unset, .unset, .unset] [(.ref b8)]))
    refine own_byW (fun _ kz => XS.astore X15.here hx rfl (hb hby at_150) rfl rfl (l' := #[.val (.int p0), .val (.int p1), .val (.int p2), .val (.int p3), .val (.double (own_pb p0)), .second, .val (.double (own_pb p1)), .second, .val (.double (own_pb p2)), .second, .val (.int (1 : Int32)), .val (.int kk), .val (.ref b4), .val (.double (own_pb p0)), .second, .val (.ref b8), .unset, .unset]) rfl kz) ?_
    show own_GoW _ _ _ _ _ _ _ (T15.setTop (mkF m 152 #[.val (.int p0), .val (.int p1), .val (.int p2), .val (.int p3), .val (.double (own_pb p0)), .second, .val (.double (own_pb p1)), .second, .val (.double (own_pb p2)), .second, .val (.int (1 : Int32)), .val (.int kk), .val (.ref b4), .val (.double (own_pb p0)), .second, .val (.ref b8), .unset, .unset] []))
    refine own_byW (fun _ kz => XS.aload X15.here hx rfl (hb hby at_152) rfl rfl kz) ?_
    show own_GoW _ _ _ _ _ _ _ (T15.setTop (mkF m 154 #[.val (.int p0), .val (.int p1), .val (.int p2), .val (.int p3), .val (.double (own_pb p0)), .second, .val (.double (own_pb p1)), .second, .val (.double (own_pb p2)), .second, .val (.int (1 : Int32)), .val (.int kk), .val (.ref b4), .val (.double (own_pb p0)), .second, .val (.ref b8), .unset, .unset] [(.ref b8)]))
    obtain ⟨v16, T16, L16, X16, q16, st16⟩ := own_callV X15 hx hZ hown (ow hw 278 rfl) (ow hw 279 rfl) (ow hw 281 rfl) (ow hw 280 rfl) (ow hw 84 rfl) (ow hw 282 rfl) (by decide) (rm37_1 l Z a0 hw [] b8 T15.heap n0 Z15 em SE r15 r6 (own_pb p0) o15_0 o15_2 o15_3 o15_4 O15 o6_1_h15 o6_2_h15) (W := 0) (by decide) (by decide) rfl A8_h15 (g := (mkF m 154 #[.val (.int p0), .val (.int p1), .val (.int p2), .val (.int p3), .val (.double (own_pb p0)), .second, .val (.double (own_pb p1)), .second, .val (.double (own_pb p2)), .second, .val (.int (1 : Int32)), .val (.int kk), .val (.ref b4), .val (.double (own_pb p0)), .second, .val (.ref b8), .unset, .unset] [(.ref b8)])) rfl (by rw [hml]; rfl) (argsL := []) (rest := []) (lenOf pd_37 rfl) rfl rfl (by show 2 * 0 + _ ≤ _; exact Nat.le_of_eq rfl) (hb hby at_154) (by decide) (by decide)
    obtain ⟨rfl, Nq16, hh16⟩ := q16
    have N16 := Fr.app N15 Nq16
    refine own_byW st16 ?_
    show own_GoW _ _ _ _ _ _ _ (T16.setTop (mkF m 157 #[.val (.int p0), .val (.int p1), .val (.int p2), .val (.int p3), .val (.double (own_pb p0)), .second, .val (.double (own_pb p1)), .second, .val (.double (own_pb p2)), .second, .val (.int (1 : Int32)), .val (.int kk), .val (.ref b4), .val (.double (own_pb p0)), .second, .val (.ref b8), .unset, .unset] [(.double (own_pb p0))]))
    refine own_byW (fun _ kz => XS.dstore X16.here hx rfl (hb hby at_157) rfl (l' := #[.val (.int p0), .val (.int p1), .val (.int p2), .val (.int p3), .val (.double (own_pb p0)), .second, .val (.double (own_pb p1)), .second, .val (.double (own_pb p2)), .second, .val (.int (1 : Int32)), .val (.int kk), .val (.ref b4), .val (.double (own_pb p0)), .second, .val (.ref b8), .val (.double (own_pb p0)), .second]) rfl kz) ?_
    show own_GoW _ _ _ _ _ _ _ (T16.setTop (mkF m 159 #[.val (.int p0), .val (.int p1), .val (.int p2), .val (.int p3), .val (.double (own_pb p0)), .second, .val (.double (own_pb p1)), .second, .val (.double (own_pb p2)), .second, .val (.int (1 : Int32)), .val (.int kk), .val (.ref b4), .val (.double (own_pb p0)), .second, .val (.ref b8), .val (.double (own_pb p0)), .second] []))
    refine own_byW (fun _ kz => XS.dload X16.here hx rfl (hb hby at_159) rfl kz) ?_
    refine own_byW (fun _ kz => XS.dload X16.here hx rfl (hb hby at_161) rfl kz) ?_
    show own_GoW _ _ _ _ _ _ _ (T16.setTop (mkF m 163 #[.val (.int p0), .val (.int p1), .val (.int p2), .val (.int p3), .val (.double (own_pb p0)), .second, .val (.double (own_pb p1)), .second, .val (.double (own_pb p2)), .second, .val (.int (1 : Int32)), .val (.int kk), .val (.ref b4), .val (.double (own_pb p0)), .second, .val (.ref b8), .val (.double (own_pb p0)), .second] [(.double (own_pb p0)), (.double (own_pb p0))]))
    refine own_byW (fun _ kz => XS.dcmpS X16.here hx rfl (hb hby at_163) rfl (own_pb_self p0 .l) kz) ?_
    show own_GoW _ _ _ _ _ _ _ (T16.setTop (mkF m 164 #[.val (.int p0), .val (.int p1), .val (.int p2), .val (.int p3), .val (.double (own_pb p0)), .second, .val (.double (own_pb p1)), .second, .val (.double (own_pb p2)), .second, .val (.int (1 : Int32)), .val (.int kk), .val (.ref b4), .val (.double (own_pb p0)), .second, .val (.ref b8), .val (.double (own_pb p0)), .second] [(.int (0 : Int32))]))
    refine own_byW (fun _ kz => XS.ifNo X16.here hx rfl (hb hby at_164) rfl ((if0 _ _).trans (teq (by decide : ((0 : Int32) = (0 : Int32)))).2) kz) ?_
    show own_GoW _ _ _ _ _ _ _ (T16.setTop (mkF m 167 #[.val (.int p0), .val (.int p1), .val (.int p2), .val (.int p3), .val (.double (own_pb p0)), .second, .val (.double (own_pb p1)), .second, .val (.double (own_pb p2)), .second, .val (.int (1 : Int32)), .val (.int kk), .val (.ref b4), .val (.double (own_pb p0)), .second, .val (.ref b8), .val (.double (own_pb p0)), .second] []))
    refine own_byW (fun _ kz => XS.iconst X16.here hx rfl (hb hby at_167) kz) ?_
    show own_GoW _ _ _ _ _ _ _ (T16.setTop (mkF m 168 #[.val (.int p0), .val (.int p1), .val (.int p2), .val (.int p3), .val (.double (own_pb p0)), .second, .val (.double (own_pb p1)), .second, .val (.double (own_pb p2)), .second, .val (.int (1 : Int32)), .val (.int kk), .val (.ref b4), .val (.double (own_pb p0)), .second, .val (.ref b8), .val (.double (own_pb p0)), .second] [(.int (1 : Int32))]))
    refine own_byW (fun _ kz => XS.goto X16.here hx rfl (pc0 := 168) (pc' := 172) rfl (hb hby at_168) (by decide) (by decide) kz) ?_
    show own_GoW _ _ _ _ _ _ _ (T16.setTop (mkF m 172 #[.val (.int p0), .val (.int p1), .val (.int p2), .val (.int p3), .val (.double (own_pb p0)), .second, .val (.double (own_pb p1)), .second, .val (.double (own_pb p2)), .second, .val (.int (1 : Int32)), .val (.int kk), .val (.ref b4), .val (.double (own_pb p0)), .second, .val (.ref b8), .val (.double (own_pb p0)), .second] [(.int (1 : Int32))]))
    exact own_retZW X16 hS11 (by rw [hh16]; exact hk15) hx hlk Bd.returns (hb hby at_172) (by decide) (by decide) ⟨rfl, N16⟩
  · rw [hn]
    show own_GoW _ _ _ _ _ _ _ (T3.setTop (mkF m 27 #[.val (.int p0), .val (.int p1), .val (.int p2), .val (.int p3), .val (.double (own_pb p0)), .second, .val (.double (own_pb p1)), .second, .val (.double (own_pb p2)), .second, .unset, .unset, .unset, .unset, .unset, .unset, .unset, .unset] [(.int (2 : Int32))]))
    refine own_byW (fun _ kz => XS.istore X3.here hx rfl (hb hby at_27) rfl (l' := #[.val (.int p0), .val (.int p1), .val (.int p2), .val (.int p3), .val (.double (own_pb p0)), .second, .val (.double (own_pb p1)), .second, .val (.double (own_pb p2)), .second, .val (.int (2 : Int32)), .unset, .unset, .unset, .unset, .unset, .unset, .unset]) rfl kz) ?_
    show own_GoW _ _ _ _ _ _ _ (T3.setTop (mkF m 29 #[.val (.int p0), .val (.int p1), .val (.int p2), .val (.int p3), .val (.double (own_pb p0)), .second, .val (.double (own_pb p1)), .second, .val (.double (own_pb p2)), .second, .val (.int (2 : Int32)), .unset, .unset, .unset, .unset, .unset, .unset, .unset] []))
    refine own_byW (fun _ kz => XS.iloadN X3.here hx rfl (hb hby at_29) rfl kz) ?_
    refine own_byW (fun _ kz => XS.bipush X3.here hx rfl (hb hby at_30) kz) ?_
    show own_GoW _ _ _ _ _ _ _ (T3.setTop (mkF m 32 #[.val (.int p0), .val (.int p1), .val (.int p2), .val (.int p3), .val (.double (own_pb p0)), .second, .val (.double (own_pb p1)), .second, .val (.double (own_pb p2)), .second, .val (.int (2 : Int32)), .unset, .unset, .unset, .unset, .unset, .unset, .unset] [(.int (8 : Int32)), (.int p3)]))
    refine own_byW (fun _ kz => XS.iushr X3.here hx rfl (hb hby at_32) rfl kz) ?_
    show own_GoW _ _ _ _ _ _ _ (T3.setTop (mkF m 33 #[.val (.int p0), .val (.int p1), .val (.int p2), .val (.int p3), .val (.double (own_pb p0)), .second, .val (.double (own_pb p1)), .second, .val (.double (own_pb p2)), .second, .val (.int (2 : Int32)), .unset, .unset, .unset, .unset, .unset, .unset, .unset] [(.int (own_sri p3 (8 : Int32)))]))
    refine own_byW (fun _ kz => XS.sipush X3.here hx rfl (hb hby at_33) kz) ?_
    show own_GoW _ _ _ _ _ _ _ (T3.setTop (mkF m 36 #[.val (.int p0), .val (.int p1), .val (.int p2), .val (.int p3), .val (.double (own_pb p0)), .second, .val (.double (own_pb p1)), .second, .val (.double (own_pb p2)), .second, .val (.int (2 : Int32)), .unset, .unset, .unset, .unset, .unset, .unset, .unset] [(.int (255 : Int32)), (.int (own_sri p3 (8 : Int32)))]))
    refine own_byW (fun _ kz => XS.iand X3.here hx rfl (hb hby at_36) rfl kz) ?_
    show own_GoW _ _ _ _ _ _ _ (T3.setTop (mkF m 37 #[.val (.int p0), .val (.int p1), .val (.int p2), .val (.int p3), .val (.double (own_pb p0)), .second, .val (.double (own_pb p1)), .second, .val (.double (own_pb p2)), .second, .val (.int (2 : Int32)), .unset, .unset, .unset, .unset, .unset, .unset, .unset] [(.int ((own_sri p3 (8 : Int32)) &&& (255 : Int32)))]))
    refine own_byW (fun _ kz => XS.iconst X3.here hx rfl (hb hby at_37) kz) ?_
    show own_GoW _ _ _ _ _ _ _ (T3.setTop (mkF m 38 #[.val (.int p0), .val (.int p1), .val (.int p2), .val (.int p3), .val (.double (own_pb p0)), .second, .val (.double (own_pb p1)), .second, .val (.double (own_pb p2)), .second, .val (.int (2 : Int32)), .unset, .unset, .unset, .unset, .unset, .unset, .unset] [(.int (5 : Int32)), (.int ((own_sri p3 (8 : Int32)) &&& (255 : Int32)))]))
    refine own_byW (fun _ kz => XS.irem X3.here hx rfl (hb hby at_38) rfl (by decide) kz) ?_
    show own_GoW _ _ _ _ _ _ _ (T3.setTop (mkF m 39 #[.val (.int p0), .val (.int p1), .val (.int p2), .val (.int p3), .val (.double (own_pb p0)), .second, .val (.double (own_pb p1)), .second, .val (.double (own_pb p2)), .second, .val (.int (2 : Int32)), .unset, .unset, .unset, .unset, .unset, .unset, .unset] [(.int (((own_sri p3 (8 : Int32)) &&& (255 : Int32)) - (((own_sri p3 (8 : Int32)) &&& (255 : Int32)) / (5 : Int32)) * (5 : Int32)))]))
    generalize (((own_sri p3 (8 : Int32)) &&& (255 : Int32)) - (((own_sri p3 (8 : Int32)) &&& (255 : Int32)) / (5 : Int32)) * (5 : Int32)) = kk
    show own_GoW _ _ _ _ _ _ _ (T3.setTop (mkF m 39 #[.val (.int p0), .val (.int p1), .val (.int p2), .val (.int p3), .val (.double (own_pb p0)), .second, .val (.double (own_pb p1)), .second, .val (.double (own_pb p2)), .second, .val (.int (2 : Int32)), .unset, .unset, .unset, .unset, .unset, .unset, .unset] [(.int kk)]))
    refine own_byW (fun _ kz => XS.istore X3.here hx rfl (hb hby at_39) rfl (l' := #[.val (.int p0), .val (.int p1), .val (.int p2), .val (.int p3), .val (.double (own_pb p0)), .second, .val (.double (own_pb p1)), .second, .val (.double (own_pb p2)), .second, .val (.int (2 : Int32)), .val (.int kk), .unset, .unset, .unset, .unset, .unset, .unset]) rfl kz) ?_
    show own_GoW _ _ _ _ _ _ _ (T3.setTop (mkF m 41 #[.val (.int p0), .val (.int p1), .val (.int p2), .val (.int p3), .val (.double (own_pb p0)), .second, .val (.double (own_pb p1)), .second, .val (.double (own_pb p2)), .second, .val (.int (2 : Int32)), .val (.int kk), .unset, .unset, .unset, .unset, .unset, .unset] []))
    obtain ⟨T17, h17, X17, e17, E17, A17, D17, -, st17⟩ := newO X3 hx hZ hown (ow hw 6 rfl) (ow hw 7 rfl) (ow hw 8 rfl) hh3 (g := (mkF m 41 #[.val (.int p0), .val (.int p1), .val (.int p2), .val (.int p3), .val (.double (own_pb p0)), .second, .val (.double (own_pb p1)), .second, .val (.double (own_pb p2)), .second, .val (.int (2 : Int32)), .val (.int kk), .unset, .unset, .unset, .unset, .unset, .unset] [])) rfl (hb hby at_41) (by decide) (by decide)
    obtain ⟨b17, g17⟩ : ∃ z, z = h0.size := ⟨_, rfl⟩
    rw [← g17] at A17 D17 st17
    have ge_b17 : n0 ≤ b17 := Nat.le_trans Z0 (Nat.le_of_eq g17.symm)
    have ne_D_b17 : D ≠ b17 := by rw [g17]; exact Nat.ne_of_lt VDh.lt
    have Z17 : n0 ≤ h17.size := Nat.le_trans Z0 E17.1
    have O17 := O0.ext E17
    have VDh_h17 := VDh.ext E17
    have F17_modCount : Fld Z h17 b17 "java/util/AbstractList" "modCount" "I" (.int (0 : Int32)) := D17 (Or.inl (ow hw 28 rfl)) (ty := .int) (by decide)
    have F17_elementData : Fld Z h17 b17 "java/util/ArrayList" "elementData" "[Ljava/lang/Object;" .null := D17 (Or.inl (ow hw 31 rfl)) (ty := (.array (.object "java/lang/Object"))) (by decide)
    have F17_size : Fld Z h17 b17 "java/util/ArrayList" "size" "I" (.int (0 : Int32)) := D17 (Or.inl (ow hw 59 rfl)) (ty := .int) (by decide)
    refine own_byW st17 ?_
    show own_GoW _ _ _ _ _ _ _ (T17.setTop (mkF m 44 #[.val (.int p0), .val (.int p1), .val (.int p2), .val (.int p3), .val (.double (own_pb p0)), .second, .val (.double (own_pb p1)), .second, .val (.double (own_pb p2)), .second, .val (.int (2 : Int32)), .val (.int kk), .unset, .unset, .unset, .unset, .unset, .unset] [(.ref b17)]))
    refine own_byW (fun _ kz => XS.dup X17.here hx rfl (hb hby at_44) rfl rfl kz) ?_
    show own_GoW _ _ _ _ _ _ _ (T17.setTop (mkF m 45 #[.val (.int p0), .val (.int p1), .val (.int p2), .val (.int p3), .val (.double (own_pb p0)), .second, .val (.double (own_pb p1)), .second, .val (.double (own_pb p2)), .second, .val (.int (2 : Int32)), .val (.int kk), .unset, .unset, .unset, .unset, .unset, .unset] [(.ref b17), (.ref b17)]))
    obtain ⟨v18, T18, L18, X18, q18, st18⟩ := own_callI X17 hx hZ rfl hown (ow hw 9 rfl) (ow hw 10 rfl) (ow hw 8 rfl) (ow hw 11 rfl) (by decide) (rm2 l Z a0 hw [] b17 h17 n0 Z17 D SD A17 F17_modCount F17_elementData F17_size ge_b17 O17) (W := 1) (by decide) (by decide) e17 (g := (mkF m 45 #[.val (.int p0), .val (.int p1), .val (.int p2), .val (.int p3), .val (.double (own_pb p0)), .second, .val (.double (own_pb p1)), .second, .val (.double (own_pb p2)), .second, .val (.int (2 : Int32)), .val (.int kk), .unset, .unset, .unset, .unset, .unset, .unset] [(.ref b17), (.ref b17)])) rfl (by rw [hml]; rfl) (a := b17) (argsL := []) (rest := [(.ref b17)]) (lenOf pd_2 rfl) rfl rfl (by show 2 * 0 + _ ≤ _; exact Nat.le_of_eq rfl) (hb hby at_45) (by decide) (by decide)
    obtain ⟨rfl, Nq18, Kq18, o18_0, o18_1, o18_2⟩ := q18
    have N18 := Fr.app N3 Nq18
    have Z18 : n0 ≤ T18.heap.size := Nat.le_trans Z17 Kq18.1
    have O18 := O17.keep Kq18 (allS ge_b17 all0)
    have VDh_h18 := VDh_h17.keep Kq18 (ninS ne_D_b17 nin0)
    have A17_h18 := A17.keep Kq18
    refine own_byW st18 ?_
    show own_GoW _ _ _ _ _ _ _ (T18.setTop (mkF m 48 #[.val (.int p0), .val (.int p1), .val (.int p2), .val (.int p3), .val (.double (own_pb p0)), .second, .val (.double (own_pb p1)), .second, .val (.double (own_pb p2)), .second, .val (.int (2 : Int32)), .val (.int kk), .unset, .unset, .unset, .unset, .unset, .unset] [(.ref b17)]))
    refine own_byW (fun _ kz => XS.astore X18.here hx rfl (hb hby at_48) rfl rfl (l' := #[.val (.int p0), .val (.int p1), .val (.int p2), .val (.int p3), .val (.double (own_pb p0)), .second, .val (.double (own_pb p1)), .second, .val (.double (own_pb p2)), .second, .val (.int (2 : Int32)), .val (.int kk), .val (.ref b17), .unset, .unset, .unset, .unset, .unset]) rfl kz) ?_
    show own_GoW _ _ _ _ _ _ _ (T18.setTop (mkF m 50 #[.val (.int p0), .val (.int p1), .val (.int p2), .val (.int p3), .val (.double (own_pb p0)), .second, .val (.double (own_pb p1)), .second, .val (.double (own_pb p2)), .second, .val (.int (2 : Int32)), .val (.int kk), .val (.ref b17), .unset, .unset, .unset, .unset, .unset] []))
    refine own_byW (fun _ kz => XS.aload X18.here hx rfl (hb hby at_50) rfl rfl kz) ?_
    refine own_byW (fun _ kz => XS.dload X18.here hx rfl (hb hby at_52) rfl kz) ?_
    show own_GoW _ _ _ _ _ _ _ (T18.setTop (mkF m 54 #[.val (.int p0), .val (.int p1), .val (.int p2), .val (.int p3), .val (.double (own_pb p0)), .second, .val (.double (own_pb p1)), .second, .val (.double (own_pb p2)), .second, .val (.int (2 : Int32)), .val (.int kk), .val (.ref b17), .unset, .unset, .unset, .unset, .unset] [(.double (own_pb p0)), (.ref b17)]))
    obtain ⟨v19, T19, L19, X19, q19, st19⟩ := own_callS X18 hx hZ hown (ow hw 32 rfl) (ow hw 33 rfl) (ow hw 34 rfl) (ow hw 35 rfl) (by decide) (rm6 l Z a0 hw [] (own_pb p0) T18.heap n0 Z18 ) (W := 1) (by decide) (by decide) rfl (g := (mkF m 54 #[.val (.int p0), .val (.int p1), .val (.int p2), .val (.int p3), .val (.double (own_pb p0)), .second, .val (.double (own_pb p1)), .second, .val (.double (own_pb p2)), .second, .val (.int (2 : Int32)), .val (.int kk), .val (.ref b17), .unset, .unset, .unset, .unset, .unset] [(.double (own_pb p0)), (.ref b17)])) rfl (by rw [hml]; rfl) (argsL := [(.double (own_pb p0))]) (rest := [(.ref b17)]) (lenOf pd_6 rfl) rfl rfl (by show 2 * 0 + _ ≤ _; exact Nat.le_of_eq rfl) (hb hby at_54) (by decide) (by decide)
    obtain ⟨r19, rfl, Nq19, Kq19, o19_0, o19_1, o19_2⟩ := q19
    have N19 := Fr.app N18 Nq19
    have Z19 : n0 ≤ T19.heap.size := Nat.le_trans Z18 Kq19.1
    have O19 := O18.keep Kq19 all0
    have VDh_h19 := VDh_h18.keep Kq19 nin0
    have A17_h19 := A17_h18.keep Kq19
    have o18_0_h19 := o18_0.keep Kq19 nin0
    have o18_1_h19 := o18_1.keep Kq19 nin0
    have o18_2_h19 := o18_2.keep Kq19 nin0
    have ge_r19 : n0 ≤ r19 := Nat.le_trans Z18 o19_0
    have ne_D_r19 : D ≠ r19 := Nat.ne_of_lt (Nat.lt_of_lt_of_le VDh_h18.lt o19_0)
    have ne_b17_r19 : b17 ≠ r19 := Nat.ne_of_lt (Nat.lt_of_lt_of_le A17_h18.lt o19_0)
    refine own_byW st19 ?_
    show own_GoW _ _ _ _ _ _ _ (T19.setTop (mkF m 57 #[.val (.int p0), .val (.int p1), .val (.int p2), .val (.int p3), .val (.double (own_pb p0)), .second, .val (.double (own_pb p1)), .second, .val (.double (own_pb p2)), .second, .val (.int (2 : Int32)), .val (.int kk), .val (.ref b17), .unset, .unset, .unset, .unset, .unset] [(.ref r19), (.ref b17)]))
    obtain ⟨v20, T20, L20, X20, q20, st20⟩ := own_callV X19 hx hZ hown (ow hw 51 rfl) (ow hw 52 rfl) (ow hw 54 rfl) (ow hw 53 rfl) (ow hw 8 rfl) (ow hw 55 rfl) (by decide) (rm9a l Z a0 hw [] b17 r19 T19.heap n0 Z19 D SD kD A17_h19 o18_1_h19 o18_2_h19 VDh_h19 ne_D_b17 ge_b17 O19 o18_0_h19 o19_1) (W := 0) (by decide) (by decide) rfl A17_h19 (g := (mkF m 57 #[.val (.int p0), .val (.int p1), .val (.int p2), .val (.int p3), .val (.double (own_pb p0)), .second, .val (.double (own_pb p1)), .second, .val (.double (own_pb p2)), .second, .val (.int (2 : Int32)), .val (.int kk), .val (.ref b17), .unset, .unset, .unset, .unset, .unset] [(.ref r19), (.ref b17)])) rfl (by rw [hml]; rfl) (argsL := [(.ref r19)]) (rest := []) (lenOf pd_9 rfl) rfl rfl (by show 2 * 0 + _ ≤ _; exact Nat.le_of_eq rfl) (hb hby at_57) (by decide) (by decide)
    obtain ⟨ea20, kA20, rfl, Nq20, Kq20, o20_0, o20_1, o20_2, o20_3, o20_4, o20_5, o20_6⟩ := q20
    have N20 := Fr.app N19 Nq20
    have Z20 : n0 ≤ T20.heap.size := Nat.le_trans Z19 Kq20.1
    have O20 := O19.keep Kq20 (allS ge_b17 all0)
    have A17_h20 := A17_h19.keep Kq20
    have o19_1_h20 := o19_1.keep Kq20
    have o19_2_h20 := o19_2.keep Kq20 (ninS (Ne.symm ne_b17_r19) nin0)
    have ge_ea20 : n0 ≤ ea20 := Nat.le_trans Z19 o20_0
    have ne_D_ea20 : D ≠ ea20 := Nat.ne_of_lt (Nat.lt_of_lt_of_le VDh_h19.lt o20_0)
    have ne_b17_ea20 : b17 ≠ ea20 := Nat.ne_of_lt (Nat.lt_of_lt_of_le A17_h19.lt o20_0)
    have ne_r19_ea20 : r19 ≠ ea20 := Nat.ne_of_lt (Nat.lt_of_lt_of_le o19_1.lt o20_0)
    refine own_byW st20 ?_
    show own_GoW _ _ _ _ _ _ _ (T20.setTop (mkF m 60 #[.val (.int p0), .val (.int p1), .val (.int p2), .val (.int p3), .val (.double (own_pb p0)), .second, .val (.double (own_pb p1)), .second, .val (.double (own_pb p2)), .second, .val (.int (2 : Int32)), .val (.int kk), .val (.ref b17), .unset, .unset, .unset, .unset, .unset] [(.int (1 : Int32))]))
    refine own_byW (fun _ kz => XS.pop X20.here hx rfl (hb hby at_60) rfl rfl kz) ?_
    show own_GoW _ _ _ _ _ _ _ (T20.setTop (mkF m 61 #[.val (.int p0), .val (.int p1), .val (.int p2), .val (.int p3), .val (.double (own_pb p0)), .second, .val (.double (own_pb p1)), .second, .val (.double (own_pb p2)), .second, .val (.int (2 : Int32)), .val (.int kk), .val (.ref b17), .unset, .unset, .unset, .unset, .unset] []))
    refine own_byW (fun _ kz => XS.iload X20.here hx rfl (hb hby at_61) rfl kz) ?_
    refine own_byW (fun _ kz => XS.iconst X20.here hx rfl (hb hby at_63) kz) ?_
    show own_GoW _ _ _ _ _ _ _ (T20.setTop (mkF m 64 #[.val (.int p0), .val (.int p1), .val (.int p2), .val (.int p3), .val (.double (own_pb p0)), .second, .val (.double (own_pb p1)), .second, .val (.double (own_pb p2)), .second, .val (.int (2 : Int32)), .val (.int kk), .val (.ref b17), .unset, .unset, .unset, .unset, .unset] [(.int (2 : Int32)), (.int (2 : Int32))]))
    refine own_byW (fun _ kz => XS.icmpNo X20.here hx rfl (hb hby at_64) rfl (flt (by decide : ¬ ((2 : Int32) < (2 : Int32)))).1 kz) ?_
    show own_GoW _ _ _ _ _ _ _ (T20.setTop (mkF m 67 #[.val (.int p0), .val (.int p1), .val (.int p2), .val (.int p3), .val (.double (own_pb p0)), .second, .val (.double (own_pb p1)), .second, .val (.double (own_pb p2)), .second, .val (.int (2 : Int32)), .val (.int kk), .val (.ref b17), .unset, .unset, .unset, .unset, .unset] []))
    refine own_byW (fun _ kz => XS.aload X20.here hx rfl (hb hby at_67) rfl rfl kz) ?_
    refine own_byW (fun _ kz => XS.dload X20.here hx rfl (hb hby at_69) rfl kz) ?_
    show own_GoW _ _ _ _ _ _ _ (T20.setTop (mkF m 71 #[.val (.int p0), .val (.int p1), .val (.int p2), .val (.int p3), .val (.double (own_pb p0)), .second, .val (.double (own_pb p1)), .second, .val (.double (own_pb p2)), .second, .val (.int (2 : Int32)), .val (.int kk), .val (.ref b17), .unset, .unset, .unset, .unset, .unset] [(.double (own_pb p1)), (.ref b17)]))
    obtain ⟨v21, T21, L21, X21, q21, st21⟩ := own_callS X20 hx hZ hown (ow hw 32 rfl) (ow hw 33 rfl) (ow hw 34 rfl) (ow hw 35 rfl) (by decide) (rm6 l Z a0 hw [] (own_pb p1) T20.heap n0 Z20 ) (W := 1) (by decide) (by decide) rfl (g := (mkF m 71 #[.val (.int p0), .val (.int p1), .val (.int p2), .val (.int p3), .val (.double (own_pb p0)), .second, .val (.double (own_pb p1)), .second, .val (.double (own_pb p2)), .second, .val (.int (2 : Int32)), .val (.int kk), .val (.ref b17), .unset, .unset, .unset, .unset, .unset] [(.double (own_pb p1)), (.ref b17)])) rfl (by rw [hml]; rfl) (argsL := [(.double (own_pb p1))]) (rest := [(.ref b17)]) (lenOf pd_6 rfl) rfl rfl (by show 2 * 0 + _ ≤ _; exact Nat.le_of_eq rfl) (hb hby at_71) (by decide) (by decide)
    obtain ⟨r21, rfl, Nq21, Kq21, o21_0, o21_1, o21_2⟩ := q21
    have N21 := Fr.app N20 Nq21
    have Z21 : n0 ≤ T21.heap.size := Nat.le_trans Z20 Kq21.1
    have O21 := O20.keep Kq21 all0
    have A17_h21 := A17_h20.keep Kq21
    have o19_1_h21 := o19_1_h20.keep Kq21
    have o19_2_h21 := o19_2_h20.keep Kq21 nin0
    have o20_1_h21 := o20_1.keep Kq21 nin0
    have o20_2_h21 := o20_2.keep Kq21 nin0
    have o20_3_h21 := o20_3.keep Kq21 nin0
    have o20_4_h21 := o20_4.keep Kq21
    have o20_5_h21 := o20_5.keep Kq21 nin0
    have ge_r21 : n0 ≤ r21 := Nat.le_trans Z20 o21_0
    have ne_b17_r21 : b17 ≠ r21 := Nat.ne_of_lt (Nat.lt_of_lt_of_le A17_h20.lt o21_0)
    have ne_r19_r21 : r19 ≠ r21 := Nat.ne_of_lt (Nat.lt_of_lt_of_le o19_1_h20.lt o21_0)
    have ne_ea20_r21 : ea20 ≠ r21 := Nat.ne_of_lt (Nat.lt_of_lt_of_le o20_4.lt o21_0)
    refine own_byW st21 ?_
    show own_GoW _ _ _ _ _ _ _ (T21.setTop (mkF m 74 #[.val (.int p0), .val (.int p1), .val (.int p2), .val (.int p3), .val (.double (own_pb p0)), .second, .val (.double (own_pb p1)), .second, .val (.double (own_pb p2)), .second, .val (.int (2 : Int32)), .val (.int kk), .val (.ref b17), .unset, .unset, .unset, .unset, .unset] [(.ref r21), (.ref b17)]))
    obtain ⟨v22, T22, L22, X22, q22, st22⟩ := own_callV X21 hx hZ hown (ow hw 51 rfl) (ow hw 52 rfl) (ow hw 54 rfl) (ow hw 53 rfl) (ow hw 8 rfl) (ow hw 55 rfl) (by decide) (rm9b l Z a0 hw [] b17 r21 T21.heap n0 Z21 kA20 r19 ea20 A17_h21 o20_2_h21 o20_3_h21 o20_4_h21 o20_5_h21 o20_6 ne_b17_ea20 ge_b17 ge_ea20 o20_1_h21 o21_1) (W := 0) (by decide) (by decide) rfl A17_h21 (g := (mkF m 74 #[.val (.int p0), .val (.int p1), .val (.int p2), .val (.int p3), .val (.double (own_pb p0)), .second, .val (.double (own_pb p1)), .second, .val (.double (own_pb p2)), .second, .val (.int (2 : Int32)), .val (.int kk), .val (.ref b17), .unset, .unset, .unset, .unset, .unset] [(.ref r21), (.ref b17)])) rfl (by rw [hml]; rfl) (argsL := [(.ref r21)]) (rest := []) (lenOf pd_9 rfl) rfl rfl (by show 2 * 0 + _ ≤ _; exact Nat.le_of_eq rfl) (hb hby at_74) (by decide) (by decide)
    obtain ⟨rfl, Nq22, Kq22, o22_0, o22_1, o22_2, o22_3, o22_4, o22_5⟩ := q22
    have N22 := Fr.app N21 Nq22
    have Z22 : n0 ≤ T22.heap.size := Nat.le_trans Z21 Kq22.1
    have O22 := O21.keep Kq22 (allS ge_b17 (allS ge_ea20 all0))
    have A17_h22 := A17_h21.keep Kq22
    have o19_1_h22 := o19_1_h21.keep Kq22
    have o19_2_h22 := o19_2_h21.keep Kq22 (ninS (Ne.symm ne_b17_r19) (ninS ne_r19_ea20 nin0))
    have o20_4_h22 := o20_4_h21.keep Kq22
    have o21_1_h22 := o21_1.keep Kq22
    have o21_2_h22 := o21_2.keep Kq22 (ninS (Ne.symm ne_b17_r21) (ninS (Ne.symm ne_ea20_r21) nin0))
    refine own_byW st22 ?_
    show own_GoW _ _ _ _ _ _ _ (T22.setTop (mkF m 77 #[.val (.int p0), .val (.int p1), .val (.int p2), .val (.int p3), .val (.double (own_pb p0)), .second, .val (.double (own_pb p1)), .second, .val (.double (own_pb p2)), .second, .val (.int (2 : Int32)), .val (.int kk), .val (.ref b17), .unset, .unset, .unset, .unset, .unset] [(.int (1 : Int32))]))
    refine own_byW (fun _ kz => XS.pop X22.here hx rfl (hb hby at_77) rfl rfl kz) ?_
    show own_GoW _ _ _ _ _ _ _ (T22.setTop (mkF m 78 #[.val (.int p0), .val (.int p1), .val (.int p2), .val (.int p3), .val (.double (own_pb p0)), .second, .val (.double (own_pb p1)), .second, .val (.double (own_pb p2)), .second, .val (.int (2 : Int32)), .val (.int kk), .val (.ref b17), .unset, .unset, .unset, .unset, .unset] []))
    refine own_byW (fun _ kz => XS.iload X22.here hx rfl (hb hby at_78) rfl kz) ?_
    refine own_byW (fun _ kz => XS.iconst X22.here hx rfl (hb hby at_80) kz) ?_
    show own_GoW _ _ _ _ _ _ _ (T22.setTop (mkF m 81 #[.val (.int p0), .val (.int p1), .val (.int p2), .val (.int p3), .val (.double (own_pb p0)), .second, .val (.double (own_pb p1)), .second, .val (.double (own_pb p2)), .second, .val (.int (2 : Int32)), .val (.int kk), .val (.ref b17), .unset, .unset, .unset, .unset, .unset] [(.int (3 : Int32)), (.int (2 : Int32))]))
    refine own_byW (fun _ kz => XS.icmpYes X22.here hx rfl (pc0 := 81) (pc' := 95) rfl (hb hby at_81) rfl (tlt (by decide : ((2 : Int32) < (3 : Int32)))).1 (by decide) (by decide) kz) ?_
    show own_GoW _ _ _ _ _ _ _ (T22.setTop (mkF m 95 #[.val (.int p0), .val (.int p1), .val (.int p2), .val (.int p3), .val (.double (own_pb p0)), .second, .val (.double (own_pb p1)), .second, .val (.double (own_pb p2)), .second, .val (.int (2 : Int32)), .val (.int kk), .val (.ref b17), .unset, .unset, .unset, .unset, .unset] []))
    refine own_byW (fun _ kz => XS.iload X22.here hx rfl (hb hby at_95) rfl kz) ?_
    refine own_byW (fun _ kz => XS.iconst X22.here hx rfl (hb hby at_97) kz) ?_
    show own_GoW _ _ _ _ _ _ _ (T22.setTop (mkF m 98 #[.val (.int p0), .val (.int p1), .val (.int p2), .val (.int p3), .val (.double (own_pb p0)), .second, .val (.double (own_pb p1)), .second, .val (.double (own_pb p2)), .second, .val (.int (2 : Int32)), .val (.int kk), .val (.ref b17), .unset, .unset, .unset, .unset, .unset] [(.int (1 : Int32)), (.int (2 : Int32))]))
    refine own_byW (fun _ kz => XS.icmpYes X22.here hx rfl (pc0 := 98) (pc' := 108) rfl (hb hby at_98) rfl (feq (by decide : ¬ ((2 : Int32) = (1 : Int32)))).2 (by decide) (by decide) kz) ?_
    show own_GoW _ _ _ _ _ _ _ (T22.setTop (mkF m 108 #[.val (.int p0), .val (.int p1), .val (.int p2), .val (.int p3), .val (.double (own_pb p0)), .second, .val (.double (own_pb p1)), .second, .val (.double (own_pb p2)), .second, .val (.int (2 : Int32)), .val (.int kk), .val (.ref b17), .unset, .unset, .unset, .unset, .unset] []))
    refine own_byW (fun _ kz => XS.iload X22.here hx rfl (hb hby at_108) rfl kz) ?_
    refine own_byW (fun _ kz => XS.iconst X22.here hx rfl (hb hby at_110) kz) ?_
    show own_GoW _ _ _ _ _ _ _ (T22.setTop (mkF m 111 #[.val (.int p0), .val (.int p1), .val (.int p2), .val (.int p3), .val (.double (own_pb p0)), .second, .val (.double (own_pb p1)), .second, .val (.double (own_pb p2)), .second, .val (.int (2 : Int32)), .val (.int kk), .val (.ref b17), .unset, .unset, .unset, .unset, .unset] [(.int (2 : Int32)), (.int (2 : Int32))]))
    refine own_byW (fun _ kz => XS.icmpNo X22.here hx rfl (hb hby at_111) rfl (teq (by decide : ((2 : Int32) = (2 : Int32)))).2 kz) ?_
    show own_GoW _ _ _ _ _ _ _ (T22.setTop (mkF m 114 #[.val (.int p0), .val (.int p1), .val (.int p2), .val (.int p3), .val (.double (own_pb p0)), .second, .val (.double (own_pb p1)), .second, .val (.double (own_pb p2)), .second, .val (.int (2 : Int32)), .val (.int kk), .val (.ref b17), .unset, .unset, .unset, .unset, .unset] []))
    refine own_byW (fun _ kz => XS.dload X22.here hx rfl (hb hby at_114) rfl kz) ?_
    show own_GoW _ _ _ _ _ _ _ (T22.setTop (mkF m 116 #[.val (.int p0), .val (.int p1), .val (.int p2), .val (.int p3), .val (.double (own_pb p0)), .second, .val (.double (own_pb p1)), .second, .val (.double (own_pb p2)), .second, .val (.int (2 : Int32)), .val (.int kk), .val (.ref b17), .unset, .unset, .unset, .unset, .unset] [(.double (own_pb p1))]))
    refine own_byW (fun _ kz => XS.dstore X22.here hx rfl (hb hby at_116) rfl (l' := #[.val (.int p0), .val (.int p1), .val (.int p2), .val (.int p3), .val (.double (own_pb p0)), .second, .val (.double (own_pb p1)), .second, .val (.double (own_pb p2)), .second, .val (.int (2 : Int32)), .val (.int kk), .val (.ref b17), .val (.double (own_pb p1)), .second, .unset, .unset, .unset]) rfl kz) ?_
    show own_GoW _ _ _ _ _ _ _ (T22.setTop (mkF m 118 #[.val (.int p0), .val (.int p1), .val (.int p2), .val (.int p3), .val (.double (own_pb p0)), .second, .val (.double (own_pb p1)), .second, .val (.double (own_pb p2)), .second, .val (.int (2 : Int32)), .val (.int kk), .val (.ref b17), .val (.double (own_pb p1)), .second, .unset, .unset, .unset] []))
    refine own_byW (fun _ kz => XS.goto X22.here hx rfl (pc0 := 118) (pc' := 125) rfl (hb hby at_118) (by decide) (by decide) kz) ?_
    show own_GoW _ _ _ _ _ _ _ (T22.setTop (mkF m 125 #[.val (.int p0), .val (.int p1), .val (.int p2), .val (.int p3), .val (.double (own_pb p0)), .second, .val (.double (own_pb p1)), .second, .val (.double (own_pb p2)), .second, .val (.int (2 : Int32)), .val (.int kk), .val (.ref b17), .val (.double (own_pb p1)), .second, .unset, .unset, .unset] []))
    obtain ⟨T23, h23, X23, e23, E23, A23, D23, -, st23⟩ := newO X22 hx hZ hown (ow hw 82 rfl) (ow hw 83 rfl) (ow hw 84 rfl) rfl (g := (mkF m 125 #[.val (.int p0), .val (.int p1), .val (.int p2), .val (.int p3), .val (.double (own_pb p0)), .second, .val (.double (own_pb p1)), .second, .val (.double (own_pb p2)), .second, .val (.int (2 : Int32)), .val (.int kk), .val (.ref b17), .val (.double (own_pb p1)), .second, .unset, .unset, .unset] [])) rfl (hb hby at_125) (by decide) (by decide)
    obtain ⟨b23, g23⟩ : ∃ z, z = T22.heap.size := ⟨_, rfl⟩
    rw [← g23] at A23 D23 st23
    have ge_b23 : n0 ≤ b23 := Nat.le_trans Z22 (Nat.le_of_eq g23.symm)
    have ne_b17_b23 : b17 ≠ b23 := by rw [g23]; exact Nat.ne_of_lt A17_h22.lt
    have ne_r19_b23 : r19 ≠ b23 := by rw [g23]; exact Nat.ne_of_lt o19_1_h22.lt
    have ne_ea20_b23 : ea20 ≠ b23 := by rw [g23]; exact Nat.ne_of_lt o22_3.lt
    have ne_r21_b23 : r21 ≠ b23 := by rw [g23]; exact Nat.ne_of_lt o21_1_h22.lt
    have Z23 : n0 ≤ h23.size := Nat.le_trans Z22 E23.1
    have O23 := O22.ext E23
    have A17_h23 := A17_h22.ext E23
    have o19_1_h23 := o19_1_h22.ext E23
    have o19_2_h23 := o19_2_h22.ext E23
    have o22_3_h23 := o22_3.ext E23
    have o21_1_h23 := o21_1_h22.ext E23
    have o21_2_h23 := o21_2_h22.ext E23
    have o22_0_h23 := o22_0.ext E23
    have o22_1_h23 := o22_1.ext E23
    have o22_2_h23 := o22_2.ext E23
    have o22_4_h23 := o22_4.ext E23
    have F23_link : Fld Z h23 b23 "com/example/inferlink/inferlink/LinkDelay" "link" "Lcom/example/inferlink/inferlink/Link;" .null := D23 (Or.inr (ow hw 273 rfl)) (ty := (.object "com/example/inferlink/inferlink/Link")) (by decide)
    have F23_status : Fld Z h23 b23 "com/example/inferlink/inferlink/LinkDelay" "status" "Lcom/example/inferlink/inferlink/LinkStatus;" .null := D23 (Or.inr (ow hw 275 rfl)) (ty := (.object "com/example/inferlink/inferlink/LinkStatus")) (by decide)
    have F23_probabilities : Fld Z h23 b23 "com/example/inferlink/inferlink/LinkDelay" "probabilities" "Ljava/util/List;" .null := D23 (Or.inr (ow hw 277 rfl)) (ty := (.object "java/util/List")) (by decide)
    refine own_byW st23 ?_
    show own_GoW _ _ _ _ _ _ _ (T23.setTop (mkF m 128 #[.val (.int p0), .val (.int p1), .val (.int p2), .val (.int p3), .val (.double (own_pb p0)), .second, .val (.double (own_pb p1)), .second, .val (.double (own_pb p2)), .second, .val (.int (2 : Int32)), .val (.int kk), .val (.ref b17), .val (.double (own_pb p1)), .second, .unset, .unset, .unset] [(.ref b23)]))
    refine own_byW (fun _ kz => XS.dup X23.here hx rfl (hb hby at_128) rfl rfl kz) ?_
    show own_GoW _ _ _ _ _ _ _ (T23.setTop (mkF m 129 #[.val (.int p0), .val (.int p1), .val (.int p2), .val (.int p3), .val (.double (own_pb p0)), .second, .val (.double (own_pb p1)), .second, .val (.double (own_pb p2)), .second, .val (.int (2 : Int32)), .val (.int kk), .val (.ref b17), .val (.double (own_pb p1)), .second, .unset, .unset, .unset] [(.ref b23), (.ref b23)]))
    obtain ⟨T24, h24, X24, e24, E24, A24, D24, -, st24⟩ := newO X23 hx hZ hown (ow hw 85 rfl) (ow hw 86 rfl) (ow hw 87 rfl) e23 (g := (mkF m 129 #[.val (.int p0), .val (.int p1), .val (.int p2), .val (.int p3), .val (.double (own_pb p0)), .second, .val (.double (own_pb p1)), .second, .val (.double (own_pb p2)), .second, .val (.int (2 : Int32)), .val (.int kk), .val (.ref b17), .val (.double (own_pb p1)), .second, .unset, .unset, .unset] [(.ref b23), (.ref b23)])) rfl (hb hby at_129) (by decide) (by decide)
    obtain ⟨b24, g24⟩ : ∃ z, z = h23.size := ⟨_, rfl⟩
    rw [← g24] at A24 D24 st24
    have ge_b24 : n0 ≤ b24 := Nat.le_trans Z23 (Nat.le_of_eq g24.symm)
    have ne_b17_b24 : b17 ≠ b24 := by rw [g24]; exact Nat.ne_of_lt A17_h23.lt
    have ne_r19_b24 : r19 ≠ b24 := by rw [g24]; exact Nat.ne_of_lt o19_1_h23.lt
    have ne_ea20_b24 : ea20 ≠ b24 := by rw [g24]; exact Nat.ne_of_lt o22_3_h23.lt
    have ne_r21_b24 : r21 ≠ b24 := by rw [g24]; exact Nat.ne_of_lt o21_1_h23.lt
    have ne_b23_b24 : b23 ≠ b24 := by rw [g24]; exact Nat.ne_of_lt A23.lt
    have Z24 : n0 ≤ h24.size := Nat.le_trans Z23 E24.1
    have O24 := O23.ext E24
    have A17_h24 := A17_h23.ext E24
    have o19_1_h24 := o19_1_h23.ext E24
    have o19_2_h24 := o19_2_h23.ext E24
    have o22_3_h24 := o22_3_h23.ext E24
    have o21_1_h24 := o21_1_h23.ext E24
    have o21_2_h24 := o21_2_h23.ext E24
    have o22_0_h24 := o22_0_h23.ext E24
    have o22_1_h24 := o22_1_h23.ext E24
    have o22_2_h24 := o22_2_h23.ext E24
    have o22_4_h24 := o22_4_h23.ext E24
    have A23_h24 := A23.ext E24
    have F23_link_h24 := F23_link.ext E24
    have F23_status_h24 := F23_status.ext E24
    have F23_probabilities_h24 := F23_probabilities.ext E24
    have F24_child : Fld Z h24 b24 "com/example/inferlink/inferlink/Link" "child" "Ljava/lang/String;" .null := D24 (Or.inr (ow hw 107 rfl)) (ty := (.object "java/lang/String")) (by decide)
    have F24_parent : Fld Z h24 b24 "com/example/inferlink/inferlink/Link" "parent" "Ljava/lang/String;" .null := D24 (Or.inr (ow hw 109 rfl)) (ty := (.object "java/lang/String")) (by decide)
    refine own_byW st24 ?_
    show own_GoW _ _ _ _ _ _ _ (T24.setTop (mkF m 132 #[.val (.int p0), .val (.int p1), .val (.int p2), .val (.int p3), .val (.double (own_pb p0)), .second, .val (.double (own_pb p1)), .second, .val (.double (own_pb p2)), .second, .val (.int (2 : Int32)), .val (.int kk), .val (.ref b17), .val (.double (own_pb p1)), .second, .unset, .unset, .unset] [(.ref b24), (.ref b23), (.ref b23)]))
    refine own_byW (fun _ kz => XS.dup X24.here hx rfl (hb hby at_132) rfl rfl kz) ?_
    show own_GoW _ _ _ _ _ _ _ (T24.setTop (mkF m 133 #[.val (.int p0), .val (.int p1), .val (.int p2), .val (.int p3), .val (.double (own_pb p0)), .second, .val (.double (own_pb p1)), .second, .val (.double (own_pb p2)), .second, .val (.int (2 : Int32)), .val (.int kk), .val (.ref b17), .val (.double (own_pb p1)), .second, .unset, .unset, .unset] [(.ref b24), (.ref b24), (.ref b23), (.ref b23)]))
    obtain ⟨a25, T25, h25, k25, X25, e25, E25, hS25, hk25, hZ, hown, st25⟩ := ldcS (s := s) (vm0 := s.vm) X24 hx hZ hown (ow hw 88 rfl) (own_strs hw) e24 ((State.WarmedH.refl s).since 0) (Nat.zero_le _) (g := (mkF m 133 #[.val (.int p0), .val (.int p1), .val (.int p2), .val (.int p3), .val (.double (own_pb p0)), .second, .val (.double (own_pb p1)), .second, .val (.double (own_pb p2)), .second, .val (.int (2 : Int32)), .val (.int kk), .val (.ref b17), .val (.double (own_pb p1)), .second, .unset, .unset, .unset] [(.ref b24), (.ref b24), (.ref b23), (.ref b23)])) rfl (hb hby at_133) (n := 4) (by decide) (by decide) (by decide) (by decide)
    have Z25 : n0 ≤ h25.size := Nat.le_trans Z24 E25.1
    have O25 := O24.ext E25
    have A17_h25 := A17_h24.ext E25
    have o19_1_h25 := o19_1_h24.ext E25
    have o19_2_h25 := o19_2_h24.ext E25
    have o22_3_h25 := o22_3_h24.ext E25
    have o21_1_h25 := o21_1_h24.ext E25
    have o21_2_h25 := o21_2_h24.ext E25
    have o22_0_h25 := o22_0_h24.ext E25
    have o22_1_h25 := o22_1_h24.ext E25
    have o22_2_h25 := o22_2_h24.ext E25
    have o22_4_h25 := o22_4_h24.ext E25
    have A23_h25 := A23_h24.ext E25
    have F23_link_h25 := F23_link_h24.ext E25
    have F23_status_h25 := F23_status_h24.ext E25
    have F23_probabilities_h25 := F23_probabilities_h24.ext E25
    have A24_h25 := A24.ext E25
    have F24_child_h25 := F24_child.ext E25
    have F24_parent_h25 := F24_parent.ext E25
    refine own_byW st25 ?_
    show own_GoW _ _ _ _ _ _ _ (T25.setTop (mkF m 135 #[.val (.int p0), .val (.int p1), .val (.int p2), .val (.int p3), .val (.double (own_pb p0)), .second, .val (.double (own_pb p1)), .second, .val (.double (own_pb p2)), .second, .val (.int (2 : Int32)), .val (.int kk), .val (.ref b17), .val (.double (own_pb p1)), .second, .unset, .unset, .unset] [(.ref a25), (.ref b24), (.ref b24), (.ref b23), (.ref b23)]))
    obtain ⟨a26, T26, h26, k26, X26, e26, E26, hS26, hk26, hZ, hown, st26⟩ := ldcS (s := s) (vm0 := T25.vm) X25 hx hZ hown (ow hw 96 rfl) (own_strs hw) e25 hS25 hk25 (g := (mkF m 135 #[.val (.int p0), .val (.int p1), .val (.int p2), .val (.int p3), .val (.double (own_pb p0)), .second, .val (.double (own_pb p1)), .second, .val (.double (own_pb p2)), .second, .val (.int (2 : Int32)), .val (.int kk), .val (.ref b17), .val (.double (own_pb p1)), .second, .unset, .unset, .unset] [(.ref a25), (.ref b24), (.ref b24), (.ref b23), (.ref b23)])) rfl (hb hby at_135) (n := 4) (by decide) (by decide) (by decide) (by decide)
    have Z26 : n0 ≤ h26.size := Nat.le_trans Z25 E26.1
    have O26 := O25.ext E26
    have A17_h26 := A17_h25.ext E26
    have o19_1_h26 := o19_1_h25.ext E26
    have o19_2_h26 := o19_2_h25.ext E26
    have o22_3_h26 := o22_3_h25.ext E26
    have o21_1_h26 := o21_1_h25.ext E26
    have o21_2_h26 := o21_2_h25.ext E26
    have o22_0_h26 := o22_0_h25.ext E26
    have o22_1_h26 := o22_1_h25.ext E26
    have o22_2_h26 := o22_2_h25.ext E26
    have o22_4_h26 := o22_4_h25.ext E26
    have A23_h26 := A23_h25.ext E26
    have F23_link_h26 := F23_link_h25.ext E26
    have F23_status_h26 := F23_status_h25.ext E26
    have F23_probabilities_h26 := F23_probabilities_h25.ext E26
    have A24_h26 := A24_h25.ext E26
    have F24_child_h26 := F24_child_h25.ext E26
    have F24_parent_h26 := F24_parent_h25.ext E26
    refine own_byW st26 ?_
    show own_GoW _ _ _ _ _ _ _ (T26.setTop (mkF m 137 #[.val (.int p0), .val (.int p1), .val (.int p2), .val (.int p3), .val (.double (own_pb p0)), .second, .val (.double (own_pb p1)), .second, .val (.double (own_pb p2)), .second, .val (.int (2 : Int32)), .val (.int kk), .val (.ref b17), .val (.double (own_pb p1)), .second, .unset, .unset, .unset] [(.ref a26), (.ref a25), (.ref b24), (.ref b24), (.ref b23), (.ref b23)]))
    obtain ⟨v27, T27, L27, X27, q27, st27⟩ := own_callI X26 hx hZ rfl hown (ow hw 97 rfl) (ow hw 98 rfl) (ow hw 87 rfl) (ow hw 99 rfl) (by decide) (rm14 l Z a0 hw [] b24 a25 a26 h26 n0 Z26 A24_h26 F24_child_h26 F24_parent_h26 ge_b24) (W := 3) (by decide) (by decide) e26 (g := (mkF m 137 #[.val (.int p0), .val (.int p1), .val (.int p2), .val (.int p3), .val (.double (own_pb p0)), .second, .val (.double (own_pb p1)), .second, .val (.double (own_pb p2)), .second, .val (.int (2 : Int32)), .val (.int kk), .val (.ref b17), .val (.double (own_pb p1)), .second, .unset, .unset, .unset] [(.ref a26), (.ref a25), (.ref b24), (.ref b24), (.ref b23), (.ref b23)])) rfl (by rw [hml]; rfl) (a := b24) (argsL := [(.ref a25), (.ref a26)]) (rest := [(.ref b24), (.ref b23), (.ref b23)]) (lenOf pd_14 rfl) rfl rfl (by show 2 * 0 + _ ≤ _; exact Nat.le_of_eq rfl) (hb hby at_137) (by decide) (by decide)
    obtain ⟨rfl, Nq27, Kq27⟩ := q27
    have N27 := Fr.app N22 Nq27
    have Z27 : n0 ≤ T27.heap.size := Nat.le_trans Z26 Kq27.1
    have hk27 := Nat.le_trans hk26 Kq27.1
    have O27 := O26.keep Kq27 (allS ge_b24 all0)
    have A17_h27 := A17_h26.keep Kq27
    have o19_1_h27 := o19_1_h26.keep Kq27
    have o19_2_h27 := o19_2_h26.keep Kq27 (ninS ne_r19_b24 nin0)
    have o22_3_h27 := o22_3_h26.keep Kq27
    have o21_1_h27 := o21_1_h26.keep Kq27
    have o21_2_h27 := o21_2_h26.keep Kq27 (ninS ne_r21_b24 nin0)
    have o22_0_h27 := o22_0_h26.keep Kq27 (ninS ne_b17_b24 nin0)
    have o22_1_h27 := o22_1_h26.keep Kq27 (ninS ne_b17_b24 nin0)
    have o22_2_h27 := o22_2_h26.keep Kq27 (ninS ne_b17_b24 nin0)
    have o22_4_h27 := o22_4_h26.keep Kq27 (ninS ne_ea20_b24 nin0)
    have A23_h27 := A23_h26.keep Kq27
    have F23_link_h27 := F23_link_h26.keep Kq27 (ninS ne_b23_b24 nin0)
    have F23_status_h27 := F23_status_h26.keep Kq27 (ninS ne_b23_b24 nin0)
    have F23_probabilities_h27 := F23_probabilities_h26.keep Kq27 (ninS ne_b23_b24 nin0)
    refine own_byW st27 ?_
    show own_GoW _ _ _ _ _ _ _ (T27.setTop (mkF m 140 #[.val (.int p0), .val (.int p1), .val (.int p2), .val (.int p3), .val (.double (own_pb p0)), .second, .val (.double (own_pb p1)), .second, .val (.double (own_pb p2)), .second, .val (.int (2 : Int32)), .val (.int kk), .val (.ref b17), .val (.double (own_pb p1)), .second, .unset, .unset, .unset] [(.ref b24), (.ref b23), (.ref b23)]))
    refine own_byW (fun _ kz => XS.iload X27.here hx rfl (hb hby at_140) rfl kz) ?_
    show own_GoW _ _ _ _ _ _ _ (T27.setTop (mkF m 142 #[.val (.int p0), .val (.int p1), .val (.int p2), .val (.int p3), .val (.double (own_pb p0)), .second, .val (.double (own_pb p1)), .second, .val (.double (own_pb p2)), .second, .val (.int (2 : Int32)), .val (.int kk), .val (.ref b17), .val (.double (own_pb p1)), .second, .unset, .unset, .unset] [(.int kk), (.ref b24), (.ref b23), (.ref b23)]))
    have esOK_28 := ESOK.ext O27.2
    have fsOK_28 := FSOK.ext O27.2
    have esNO_LOSS_SEEN_28 := ESNO_LOSS_SEEN.ext O27.2
    have fsNO_LOSS_SEEN_28 := FSNO_LOSS_SEEN.ext O27.2
    have esCOMPOSITE_WITH_PARENT_28 := ESCOMPOSITE_WITH_PARENT.ext O27.2
    have fsCOMPOSITE_WITH_PARENT_28 := FSCOMPOSITE_WITH_PARENT.ext O27.2
    have esESTIMATE_ABOVE_ONE_28 := ESESTIMATE_ABOVE_ONE.ext O27.2
    have fsESTIMATE_ABOVE_ONE_28 := FSESTIMATE_ABOVE_ONE.ext O27.2
    have esNOT_CONVERGED_28 := ESNOT_CONVERGED.ext O27.2
    have fsNOT_CONVERGED_28 := FSNOT_CONVERGED.ext O27.2
    obtain ⟨v29, T29, L29, X29, q29, st29⟩ := own_callS X27 hx hZ hown (ow hw 110 rfl) (ow hw 111 rfl) (ow hw 2 rfl) (ow hw 112 rfl) (by decide) (rm16 l Z a0 hw [] kk T27.heap n0 Z27 sOK sNO_LOSS_SEEN sCOMPOSITE_WITH_PARENT sESTIMATE_ABOVE_ONE sNOT_CONVERGED esOK_28 fsOK_28 (SOK.ext O27.2) esNO_LOSS_SEEN_28 fsNO_LOSS_SEEN_28 (SNO_LOSS_SEEN.ext O27.2) esCOMPOSITE_WITH_PARENT_28 fsCOMPOSITE_WITH_PARENT_28 (SCOMPOSITE_WITH_PARENT.ext O27.2) esESTIMATE_ABOVE_ONE_28 fsESTIMATE_ABOVE_ONE_28 (SESTIMATE_ABOVE_ONE.ext O27.2) esNOT_CONVERGED_28 fsNOT_CONVERGED_28 (SNOT_CONVERGED.ext O27.2)) (W := 3) (by decide) (by decide) rfl (g := (mkF m 142 #[.val (.int p0), .val (.int p1), .val (.int p2), .val (.int p3), .val (.double (own_pb p0)), .second, .val (.double (own_pb p1)), .second, .val (.double (own_pb p2)), .second, .val (.int (2 : Int32)), .val (.int kk), .val (.ref b17), .val (.double (own_pb p1)), .second, .unset, .unset, .unset] [(.int kk), (.ref b24), (.ref b23), (.ref b23)])) rfl (by rw [hml]; rfl) (argsL := [(.int kk)]) (rest := [(.ref b24), (.ref b23), (.ref b23)]) (lenOf pd_16 rfl) rfl rfl (by show 2 * 0 + _ ≤ _; exact Nat.le_of_eq rfl) (hb hby at_142) (by decide) (by decide)
    obtain ⟨r29, rfl, Nq29, hh29, o29_0, o29_1⟩ := q29
    have N29 := Fr.app N27 Nq29
    rw [hh29] at o29_0
    rw [hh29] at o29_1
    refine own_byW st29 ?_
    show own_GoW _ _ _ _ _ _ _ (T29.setTop (mkF m 145 #[.val (.int p0), .val (.int p1), .val (.int p2), .val (.int p3), .val (.double (own_pb p0)), .second, .val (.double (own_pb p1)), .second, .val (.double (own_pb p2)), .second, .val (.int (2 : Int32)), .val (.int kk), .val (.ref b17), .val (.double (own_pb p1)), .second, .unset, .unset, .unset] [(.ref r29), (.ref b24), (.ref b23), (.ref b23)]))
    refine own_byW (fun _ kz => XS.aload X29.here hx rfl (hb hby at_145) rfl rfl kz) ?_
    show own_GoW _ _ _ _ _ _ _ (T29.setTop (mkF m 147 #[.val (.int p0), .val (.int p1), .val (.int p2), .val (.int p3), .val (.double (own_pb p0)), .second, .val (.double (own_pb p1)), .second, .val (.double (own_pb p2)), .second, .val (.int (2 : Int32)), .val (.int kk), .val (.ref b17), .val (.double (own_pb p1)), .second, .unset, .unset, .unset] [(.ref b17), (.ref r29), (.ref b24), (.ref b23), (.ref b23)]))
    obtain ⟨v30, T30, L30, X30, q30, st30⟩ := own_callI X29 hx hZ rfl hown (ow hw 116 rfl) (ow hw 117 rfl) (ow hw 84 rfl) (ow hw 118 rfl) (by decide) (rm17_2 l Z a0 hw [] b23 b24 r29 b17 T27.heap n0 Z27 mr MI ea20 kA20 r19 r21 (own_pb p0) (own_pb p1) A23_h27 F23_link_h27 F23_status_h27 F23_probabilities_h27 ge_b23 o29_0 o29_1 A17_h27 o22_0_h27 o22_1_h27 o22_2_h27 o22_3_h27 o22_4_h27 o19_1_h27 o19_2_h27 (own_pb_in p0) o21_1_h27 o21_2_h27 (own_pb_in p1)) (W := 1) (by decide) (by decide) hh29 (g := (mkF m 147 #[.val (.int p0), .val (.int p1), .val (.int p2), .val (.int p3), .val (.double (own_pb p0)), .second, .val (.double (own_pb p1)), .second, .val (.double (own_pb p2)), .second, .val (.int (2 : Int32)), .val (.int kk), .val (.ref b17), .val (.double (own_pb p1)), .second, .unset, .unset, .unset] [(.ref b17), (.ref r29), (.ref b24), (.ref b23), (.ref b23)])) rfl (by rw [hml]; rfl) (a := b23) (argsL := [(.ref b24), (.ref r29), (.ref b17)]) (rest := [(.ref b23)]) (lenOf pd_17 rfl) rfl rfl (by show 2 * 0 + _ ≤ _; exact Nat.le_of_eq rfl) (hb hby at_147) (by decide) (by decide)
    obtain ⟨r30, rfl, Nq30, Kq30, o30_0, o30_1, o30_2, o30_3, o30_4⟩ := q30
    have N30 := Fr.app N29 Nq30
    have Z30 : n0 ≤ T30.heap.size := Nat.le_trans Z27 Kq30.1
    have hk30 := Nat.le_trans hk27 Kq30.1
    have O30 := O27.keep Kq30 (allS ge_b23 all0)
    have o21_1_h30 := o21_1_h27.keep Kq30
    have o21_2_h30 := o21_2_h27.keep Kq30 (ninS ne_r21_b23 nin0)
    have A23_h30 := A23_h27.keep Kq30
    have ge_r30 : n0 ≤ r30 := Nat.le_trans Z27 o30_1
    have ne_b17_r30 : b17 ≠ r30 := Nat.ne_of_lt (Nat.lt_of_lt_of_le A17_h27.lt o30_1)
    have ne_r19_r30 : r19 ≠ r30 := Nat.ne_of_lt (Nat.lt_of_lt_of_le o19_1_h27.lt o30_1)
    have ne_ea20_r30 : ea20 ≠ r30 := Nat.ne_of_lt (Nat.lt_of_lt_of_le o22_3_h27.lt o30_1)
    have ne_r21_r30 : r21 ≠ r30 := Nat.ne_of_lt (Nat.lt_of_lt_of_le o21_1_h27.lt o30_1)
    have ne_b23_r30 : b23 ≠ r30 := Nat.ne_of_lt (Nat.lt_of_lt_of_le A23_h27.lt o30_1)
    have ne_r29_r30 : r29 ≠ r30 := Nat.ne_of_lt (Nat.lt_of_lt_of_le o29_0.lt o30_1)
    refine own_byW st30 ?_
    show own_GoW _ _ _ _ _ _ _ (T30.setTop (mkF m 150 #[.val (.int p0), .val (.int p1), .val (.int p2), .val (.int p3), .val (.double (own_pb p0)), .second, .val (.double (own_pb p1)), .second, .val (.double (own_pb p2)), .second, .val (.int (2 : Int32)), .val (.int kk), .val (.ref b17), .val (.double (own_pb p1)), .second, .unset, .unset, .unset] [(.ref b23)]))
    refine own_byW (fun _ kz => XS.astore X30.here hx rfl (hb hby at_150) rfl rfl (l' := #[.val (.int p0), .val (.int p1), .val (.int p2), .val (.int p3), .val (.double (own_pb p0)), .second, .val (.double (own_pb p1)), .second, .val (.double (own_pb p2)), .second, .val (.int (2 : Int32)), .val (.int kk), .val (.ref b17), .val (.double (own_pb p1)), .second, .val (.ref b23), .unset, .unset]) rfl kz) ?_
    show own_GoW _ _ _ _ _ _ _ (T30.setTop (mkF m 152 #[.val (.int p0), .val (.int p1), .val (.int p2), .val (.int p3), .val (.double (own_pb p0)), .second, .val (.double (own_pb p1)), .second, .val (.double (own_pb p2)), .second, .val (.int (2 : Int32)), .val (.int kk), .val (.ref b17), .val (.double (own_pb p1)), .second, .val (.ref b23), .unset, .unset] []))
    refine own_byW (fun _ kz => XS.aload X30.here hx rfl (hb hby at_152) rfl rfl kz) ?_
    show own_GoW _ _ _ _ _ _ _ (T30.setTop (mkF m 154 #[.val (.int p0), .val (.int p1), .val (.int p2), .val (.int p3), .val (.double (own_pb p0)), .second, .val (.double (own_pb p1)), .second, .val (.double (own_pb p2)), .second, .val (.int (2 : Int32)), .val (.int kk), .val (.ref b17), .val (.double (own_pb p1)), .second, .val (.ref b23), .unset, .unset] [(.ref b23)]))
    obtain ⟨v31, T31, L31, X31, q31, st31⟩ := own_callV X30 hx hZ hown (ow hw 278 rfl) (ow hw 279 rfl) (ow hw 281 rfl) (ow hw 280 rfl) (ow hw 84 rfl) (ow hw 282 rfl) (by decide) (rm37_2 l Z a0 hw [] b23 T30.heap n0 Z30 em SE r30 r21 (own_pb p1) o30_0 o30_2 o30_4 O30 (fun q => Nat.not_le_of_lt hem (by rw [← q]; exact ge_r21)) o21_1_h30 o21_2_h30) (W := 0) (by decide) (by decide) rfl A23_h30 (g := (mkF m 154 #[.val (.int p0), .val (.int p1), .val (.int p2), .val (.int p3), .val (.double (own_pb p0)), .second, .val (.double (own_pb p1)), .second, .val (.double (own_pb p2)), .second, .val (.int (2 : Int32)), .val (.int kk), .val (.ref b17), .val (.double (own_pb p1)), .second, .val (.ref b23), .unset, .unset] [(.ref b23)])) rfl (by rw [hml]; rfl) (argsL := []) (rest := []) (lenOf pd_37 rfl) rfl rfl (by show 2 * 0 + _ ≤ _; exact Nat.le_of_eq rfl) (hb hby at_154) (by decide) (by decide)
    obtain ⟨rfl, Nq31, hh31⟩ := q31
    have N31 := Fr.app N30 Nq31
    refine own_byW st31 ?_
    show own_GoW _ _ _ _ _ _ _ (T31.setTop (mkF m 157 #[.val (.int p0), .val (.int p1), .val (.int p2), .val (.int p3), .val (.double (own_pb p0)), .second, .val (.double (own_pb p1)), .second, .val (.double (own_pb p2)), .second, .val (.int (2 : Int32)), .val (.int kk), .val (.ref b17), .val (.double (own_pb p1)), .second, .val (.ref b23), .unset, .unset] [(.double (own_pb p1))]))
    refine own_byW (fun _ kz => XS.dstore X31.here hx rfl (hb hby at_157) rfl (l' := #[.val (.int p0), .val (.int p1), .val (.int p2), .val (.int p3), .val (.double (own_pb p0)), .second, .val (.double (own_pb p1)), .second, .val (.double (own_pb p2)), .second, .val (.int (2 : Int32)), .val (.int kk), .val (.ref b17), .val (.double (own_pb p1)), .second, .val (.ref b23), .val (.double (own_pb p1)), .second]) rfl kz) ?_
    show own_GoW _ _ _ _ _ _ _ (T31.setTop (mkF m 159 #[.val (.int p0), .val (.int p1), .val (.int p2), .val (.int p3), .val (.double (own_pb p0)), .second, .val (.double (own_pb p1)), .second, .val (.double (own_pb p2)), .second, .val (.int (2 : Int32)), .val (.int kk), .val (.ref b17), .val (.double (own_pb p1)), .second, .val (.ref b23), .val (.double (own_pb p1)), .second] []))
    refine own_byW (fun _ kz => XS.dload X31.here hx rfl (hb hby at_159) rfl kz) ?_
    refine own_byW (fun _ kz => XS.dload X31.here hx rfl (hb hby at_161) rfl kz) ?_
    show own_GoW _ _ _ _ _ _ _ (T31.setTop (mkF m 163 #[.val (.int p0), .val (.int p1), .val (.int p2), .val (.int p3), .val (.double (own_pb p0)), .second, .val (.double (own_pb p1)), .second, .val (.double (own_pb p2)), .second, .val (.int (2 : Int32)), .val (.int kk), .val (.ref b17), .val (.double (own_pb p1)), .second, .val (.ref b23), .val (.double (own_pb p1)), .second] [(.double (own_pb p1)), (.double (own_pb p1))]))
    refine own_byW (fun _ kz => XS.dcmpS X31.here hx rfl (hb hby at_163) rfl (own_pb_self p1 .l) kz) ?_
    show own_GoW _ _ _ _ _ _ _ (T31.setTop (mkF m 164 #[.val (.int p0), .val (.int p1), .val (.int p2), .val (.int p3), .val (.double (own_pb p0)), .second, .val (.double (own_pb p1)), .second, .val (.double (own_pb p2)), .second, .val (.int (2 : Int32)), .val (.int kk), .val (.ref b17), .val (.double (own_pb p1)), .second, .val (.ref b23), .val (.double (own_pb p1)), .second] [(.int (0 : Int32))]))
    refine own_byW (fun _ kz => XS.ifNo X31.here hx rfl (hb hby at_164) rfl ((if0 _ _).trans (teq (by decide : ((0 : Int32) = (0 : Int32)))).2) kz) ?_
    show own_GoW _ _ _ _ _ _ _ (T31.setTop (mkF m 167 #[.val (.int p0), .val (.int p1), .val (.int p2), .val (.int p3), .val (.double (own_pb p0)), .second, .val (.double (own_pb p1)), .second, .val (.double (own_pb p2)), .second, .val (.int (2 : Int32)), .val (.int kk), .val (.ref b17), .val (.double (own_pb p1)), .second, .val (.ref b23), .val (.double (own_pb p1)), .second] []))
    refine own_byW (fun _ kz => XS.iconst X31.here hx rfl (hb hby at_167) kz) ?_
    show own_GoW _ _ _ _ _ _ _ (T31.setTop (mkF m 168 #[.val (.int p0), .val (.int p1), .val (.int p2), .val (.int p3), .val (.double (own_pb p0)), .second, .val (.double (own_pb p1)), .second, .val (.double (own_pb p2)), .second, .val (.int (2 : Int32)), .val (.int kk), .val (.ref b17), .val (.double (own_pb p1)), .second, .val (.ref b23), .val (.double (own_pb p1)), .second] [(.int (1 : Int32))]))
    refine own_byW (fun _ kz => XS.goto X31.here hx rfl (pc0 := 168) (pc' := 172) rfl (hb hby at_168) (by decide) (by decide) kz) ?_
    show own_GoW _ _ _ _ _ _ _ (T31.setTop (mkF m 172 #[.val (.int p0), .val (.int p1), .val (.int p2), .val (.int p3), .val (.double (own_pb p0)), .second, .val (.double (own_pb p1)), .second, .val (.double (own_pb p2)), .second, .val (.int (2 : Int32)), .val (.int kk), .val (.ref b17), .val (.double (own_pb p1)), .second, .val (.ref b23), .val (.double (own_pb p1)), .second] [(.int (1 : Int32))]))
    exact own_retZW X31 hS26 (by rw [hh31]; exact hk30) hx hlk Bd.returns (hb hby at_172) (by decide) (by decide) ⟨rfl, N31⟩
  · rw [hn]
    show own_GoW _ _ _ _ _ _ _ (T3.setTop (mkF m 27 #[.val (.int p0), .val (.int p1), .val (.int p2), .val (.int p3), .val (.double (own_pb p0)), .second, .val (.double (own_pb p1)), .second, .val (.double (own_pb p2)), .second, .unset, .unset, .unset, .unset, .unset, .unset, .unset, .unset] [(.int (3 : Int32))]))
    refine own_byW (fun _ kz => XS.istore X3.here hx rfl (hb hby at_27) rfl (l' := #[.val (.int p0), .val (.int p1), .val (.int p2), .val (.int p3), .val (.double (own_pb p0)), .second, .val (.double (own_pb p1)), .second, .val (.double (own_pb p2)), .second, .val (.int (3 : Int32)), .unset, .unset, .unset, .unset, .unset, .unset, .unset]) rfl kz) ?_
    show own_GoW _ _ _ _ _ _ _ (T3.setTop (mkF m 29 #[.val (.int p0), .val (.int p1), .val (.int p2), .val (.int p3), .val (.double (own_pb p0)), .second, .val (.double (own_pb p1)), .second, .val (.double (own_pb p2)), .second, .val (.int (3 : Int32)), .unset, .unset, .unset, .unset, .unset, .unset, .unset] []))
    refine own_byW (fun _ kz => XS.iloadN X3.here hx rfl (hb hby at_29) rfl kz) ?_
    refine own_byW (fun _ kz => XS.bipush X3.here hx rfl (hb hby at_30) kz) ?_
    show own_GoW _ _ _ _ _ _ _ (T3.setTop (mkF m 32 #[.val (.int p0), .val (.int p1), .val (.int p2), .val (.int p3), .val (.double (own_pb p0)), .second, .val (.double (own_pb p1)), .second, .val (.double (own_pb p2)), .second, .val (.int (3 : Int32)), .unset, .unset, .unset, .unset, .unset, .unset, .unset] [(.int (8 : Int32)), (.int p3)]))
    refine own_byW (fun _ kz => XS.iushr X3.here hx rfl (hb hby at_32) rfl kz) ?_
    show own_GoW _ _ _ _ _ _ _ (T3.setTop (mkF m 33 #[.val (.int p0), .val (.int p1), .val (.int p2), .val (.int p3), .val (.double (own_pb p0)), .second, .val (.double (own_pb p1)), .second, .val (.double (own_pb p2)), .second, .val (.int (3 : Int32)), .unset, .unset, .unset, .unset, .unset, .unset, .unset] [(.int (own_sri p3 (8 : Int32)))]))
    refine own_byW (fun _ kz => XS.sipush X3.here hx rfl (hb hby at_33) kz) ?_
    show own_GoW _ _ _ _ _ _ _ (T3.setTop (mkF m 36 #[.val (.int p0), .val (.int p1), .val (.int p2), .val (.int p3), .val (.double (own_pb p0)), .second, .val (.double (own_pb p1)), .second, .val (.double (own_pb p2)), .second, .val (.int (3 : Int32)), .unset, .unset, .unset, .unset, .unset, .unset, .unset] [(.int (255 : Int32)), (.int (own_sri p3 (8 : Int32)))]))
    refine own_byW (fun _ kz => XS.iand X3.here hx rfl (hb hby at_36) rfl kz) ?_
    show own_GoW _ _ _ _ _ _ _ (T3.setTop (mkF m 37 #[.val (.int p0), .val (.int p1), .val (.int p2), .val (.int p3), .val (.double (own_pb p0)), .second, .val (.double (own_pb p1)), .second, .val (.double (own_pb p2)), .second, .val (.int (3 : Int32)), .unset, .unset, .unset, .unset, .unset, .unset, .unset] [(.int ((own_sri p3 (8 : Int32)) &&& (255 : Int32)))]))
    refine own_byW (fun _ kz => XS.iconst X3.here hx rfl (hb hby at_37) kz) ?_
    show own_GoW _ _ _ _ _ _ _ (T3.setTop (mkF m 38 #[.val (.int p0), .val (.int p1), .val (.int p2), .val (.int p3), .val (.double (own_pb p0)), .second, .val (.double (own_pb p1)), .second, .val (.double (own_pb p2)), .second, .val (.int (3 : Int32)), .unset, .unset, .unset, .unset, .unset, .unset, .unset] [(.int (5 : Int32)), (.int ((own_sri p3 (8 : Int32)) &&& (255 : Int32)))]))
    refine own_byW (fun _ kz => XS.irem X3.here hx rfl (hb hby at_38) rfl (by decide) kz) ?_
    show own_GoW _ _ _ _ _ _ _ (T3.setTop (mkF m 39 #[.val (.int p0), .val (.int p1), .val (.int p2), .val (.int p3), .val (.double (own_pb p0)), .second, .val (.double (own_pb p1)), .second, .val (.double (own_pb p2)), .second, .val (.int (3 : Int32)), .unset, .unset, .unset, .unset, .unset, .unset, .unset] [(.int (((own_sri p3 (8 : Int32)) &&& (255 : Int32)) - (((own_sri p3 (8 : Int32)) &&& (255 : Int32)) / (5 : Int32)) * (5 : Int32)))]))
    generalize (((own_sri p3 (8 : Int32)) &&& (255 : Int32)) - (((own_sri p3 (8 : Int32)) &&& (255 : Int32)) / (5 : Int32)) * (5 : Int32)) = kk
    show own_GoW _ _ _ _ _ _ _ (T3.setTop (mkF m 39 #[.val (.int p0), .val (.int p1), .val (.int p2), .val (.int p3), .val (.double (own_pb p0)), .second, .val (.double (own_pb p1)), .second, .val (.double (own_pb p2)), .second, .val (.int (3 : Int32)), .unset, .unset, .unset, .unset, .unset, .unset, .unset] [(.int kk)]))
    refine own_byW (fun _ kz => XS.istore X3.here hx rfl (hb hby at_39) rfl (l' := #[.val (.int p0), .val (.int p1), .val (.int p2), .val (.int p3), .val (.double (own_pb p0)), .second, .val (.double (own_pb p1)), .second, .val (.double (own_pb p2)), .second, .val (.int (3 : Int32)), .val (.int kk), .unset, .unset, .unset, .unset, .unset, .unset]) rfl kz) ?_
    show own_GoW _ _ _ _ _ _ _ (T3.setTop (mkF m 41 #[.val (.int p0), .val (.int p1), .val (.int p2), .val (.int p3), .val (.double (own_pb p0)), .second, .val (.double (own_pb p1)), .second, .val (.double (own_pb p2)), .second, .val (.int (3 : Int32)), .val (.int kk), .unset, .unset, .unset, .unset, .unset, .unset] []))
    obtain ⟨T32, h32, X32, e32, E32, A32, D32, -, st32⟩ := newO X3 hx hZ hown (ow hw 6 rfl) (ow hw 7 rfl) (ow hw 8 rfl) hh3 (g := (mkF m 41 #[.val (.int p0), .val (.int p1), .val (.int p2), .val (.int p3), .val (.double (own_pb p0)), .second, .val (.double (own_pb p1)), .second, .val (.double (own_pb p2)), .second, .val (.int (3 : Int32)), .val (.int kk), .unset, .unset, .unset, .unset, .unset, .unset] [])) rfl (hb hby at_41) (by decide) (by decide)
    obtain ⟨b32, g32⟩ : ∃ z, z = h0.size := ⟨_, rfl⟩
    rw [← g32] at A32 D32 st32
    have ge_b32 : n0 ≤ b32 := Nat.le_trans Z0 (Nat.le_of_eq g32.symm)
    have ne_D_b32 : D ≠ b32 := by rw [g32]; exact Nat.ne_of_lt VDh.lt
    have Z32 : n0 ≤ h32.size := Nat.le_trans Z0 E32.1
    have O32 := O0.ext E32
    have VDh_h32 := VDh.ext E32
    have F32_modCount : Fld Z h32 b32 "java/util/AbstractList" "modCount" "I" (.int (0 : Int32)) := D32 (Or.inl (ow hw 28 rfl)) (ty := .int) (by decide)
    have F32_elementData : Fld Z h32 b32 "java/util/ArrayList" "elementData" "[Ljava/lang/Object;" .null := D32 (Or.inl (ow hw 31 rfl)) (ty := (.array (.object "java/lang/Object"))) (by decide)
    have F32_size : Fld Z h32 b32 "java/util/ArrayList" "size" "I" (.int (0 : Int32)) := D32 (Or.inl (ow hw 59 rfl)) (ty := .int) (by decide)
    refine own_byW st32 ?_
    show own_GoW _ _ _ _ _ _ _ (T32.setTop (mkF m 44 #[.val (.int p0), .val (.int p1), .val (.int p2), .val (.int p3), .val (.double (own_pb p0)), .second, .val (.double (own_pb p1)), .second, .val (.double (own_pb p2)), .second, .val (.int (3 : Int32)), .val (.int kk), .unset, .unset, .unset, .unset, .unset, .unset] [(.ref b32)]))
    refine own_byW (fun _ kz => XS.dup X32.here hx rfl (hb hby at_44) rfl rfl kz) ?_
    show own_GoW _ _ _ _ _ _ _ (T32.setTop (mkF m 45 #[.val (.int p0), .val (.int p1), .val (.int p2), .val (.int p3), .val (.double (own_pb p0)), .second, .val (.double (own_pb p1)), .second, .val (.double (own_pb p2)), .second, .val (.int (3 : Int32)), .val (.int kk), .unset, .unset, .unset, .unset, .unset, .unset] [(.ref b32), (.ref b32)]))
    obtain ⟨v33, T33, L33, X33, q33, st33⟩ := own_callI X32 hx hZ rfl hown (ow hw 9 rfl) (ow hw 10 rfl) (ow hw 8 rfl) (ow hw 11 rfl) (by decide) (rm2 l Z a0 hw [] b32 h32 n0 Z32 D SD A32 F32_modCount F32_elementData F32_size ge_b32 O32) (W := 1) (by decide) (by decide) e32 (g := (mkF m 45 #[.val (.int p0), .val (.int p1), .val (.int p2), .val (.int p3), .val (.double (own_pb p0)), .second, .val (.double (own_pb p1)), .second, .val (.double (own_pb p2)), .second, .val (.int (3 : Int32)), .val (.int kk), .unset, .unset, .unset, .unset, .unset, .unset] [(.ref b32), (.ref b32)])) rfl (by rw [hml]; rfl) (a := b32) (argsL := []) (rest := [(.ref b32)]) (lenOf pd_2 rfl) rfl rfl (by show 2 * 0 + _ ≤ _; exact Nat.le_of_eq rfl) (hb hby at_45) (by decide) (by decide)
    obtain ⟨rfl, Nq33, Kq33, o33_0, o33_1, o33_2⟩ := q33
    have N33 := Fr.app N3 Nq33
    have Z33 : n0 ≤ T33.heap.size := Nat.le_trans Z32 Kq33.1
    have O33 := O32.keep Kq33 (allS ge_b32 all0)
    have VDh_h33 := VDh_h32.keep Kq33 (ninS ne_D_b32 nin0)
    have A32_h33 := A32.keep Kq33
    refine own_byW st33 ?_
    show own_GoW _ _ _ _ _ _ _ (T33.setTop (mkF m 48 #[.val (.int p0), .val (.int p1), .val (.int p2), .val (.int p3), .val (.double (own_pb p0)), .second, .val (.double (own_pb p1)), .second, .val (.double (own_pb p2)), .second, .val (.int (3 : Int32)), .val (.int kk), .unset, .unset, .unset, .unset, .unset, .unset] [(.ref b32)]))
    refine own_byW (fun _ kz => XS.astore X33.here hx rfl (hb hby at_48) rfl rfl (l' := #[.val (.int p0), .val (.int p1), .val (.int p2), .val (.int p3), .val (.double (own_pb p0)), .second, .val (.double (own_pb p1)), .second, .val (.double (own_pb p2)), .second, .val (.int (3 : Int32)), .val (.int kk), .val (.ref b32), .unset, .unset, .unset, .unset, .unset]) rfl kz) ?_
    show own_GoW _ _ _ _ _ _ _ (T33.setTop (mkF m 50 #[.val (.int p0), .val (.int p1), .val (.int p2), .val (.int p3), .val (.double (own_pb p0)), .second, .val (.double (own_pb p1)), .second, .val (.double (own_pb p2)), .second, .val (.int (3 : Int32)), .val (.int kk), .val (.ref b32), .unset, .unset, .unset, .unset, .unset] []))
    refine own_byW (fun _ kz => XS.aload X33.here hx rfl (hb hby at_50) rfl rfl kz) ?_
    refine own_byW (fun _ kz => XS.dload X33.here hx rfl (hb hby at_52) rfl kz) ?_
    show own_GoW _ _ _ _ _ _ _ (T33.setTop (mkF m 54 #[.val (.int p0), .val (.int p1), .val (.int p2), .val (.int p3), .val (.double (own_pb p0)), .second, .val (.double (own_pb p1)), .second, .val (.double (own_pb p2)), .second, .val (.int (3 : Int32)), .val (.int kk), .val (.ref b32), .unset, .unset, .unset, .unset, .unset] [(.double (own_pb p0)), (.ref b32)]))
    obtain ⟨v34, T34, L34, X34, q34, st34⟩ := own_callS X33 hx hZ hown (ow hw 32 rfl) (ow hw 33 rfl) (ow hw 34 rfl) (ow hw 35 rfl) (by decide) (rm6 l Z a0 hw [] (own_pb p0) T33.heap n0 Z33 ) (W := 1) (by decide) (by decide) rfl (g := (mkF m 54 #[.val (.int p0), .val (.int p1), .val (.int p2), .val (.int p3), .val (.double (own_pb p0)), .second, .val (.double (own_pb p1)), .second, .val (.double (own_pb p2)), .second, .val (.int (3 : Int32)), .val (.int kk), .val (.ref b32), .unset, .unset, .unset, .unset, .unset] [(.double (own_pb p0)), (.ref b32)])) rfl (by rw [hml]; rfl) (argsL := [(.double (own_pb p0))]) (rest := [(.ref b32)]) (lenOf pd_6 rfl) rfl rfl (by show 2 * 0 + _ ≤ _; exact Nat.le_of_eq rfl) (hb hby at_54) (by decide) (by decide)
    obtain ⟨r34, rfl, Nq34, Kq34, o34_0, o34_1, o34_2⟩ := q34
    have N34 := Fr.app N33 Nq34
    have Z34 : n0 ≤ T34.heap.size := Nat.le_trans Z33 Kq34.1
    have O34 := O33.keep Kq34 all0
    have VDh_h34 := VDh_h33.keep Kq34 nin0
    have A32_h34 := A32_h33.keep Kq34
    have o33_0_h34 := o33_0.keep Kq34 nin0
    have o33_1_h34 := o33_1.keep Kq34 nin0
    have o33_2_h34 := o33_2.keep Kq34 nin0
    have ge_r34 : n0 ≤ r34 := Nat.le_trans Z33 o34_0
    have ne_D_r34 : D ≠ r34 := Nat.ne_of_lt (Nat.lt_of_lt_of_le VDh_h33.lt o34_0)
    have ne_b32_r34 : b32 ≠ r34 := Nat.ne_of_lt (Nat.lt_of_lt_of_le A32_h33.lt o34_0)
    refine own_byW st34 ?_
    show own_GoW _ _ _ _ _ _ _ (T34.setTop (mkF m 57 #[.val (.int p0), .val (.int p1), .val (.int p2), .val (.int p3), .val (.double (own_pb p0)), .second, .val (.double (own_pb p1)), .second, .val (.double (own_pb p2)), .second, .val (.int (3 : Int32)), .val (.int kk), .val (.ref b32), .unset, .unset, .unset, .unset, .unset] [(.ref r34), (.ref b32)]))
    obtain ⟨v35, T35, L35, X35, q35, st35⟩ := own_callV X34 hx hZ hown (ow hw 51 rfl) (ow hw 52 rfl) (ow hw 54 rfl) (ow hw 53 rfl) (ow hw 8 rfl) (ow hw 55 rfl) (by decide) (rm9a l Z a0 hw [] b32 r34 T34.heap n0 Z34 D SD kD A32_h34 o33_1_h34 o33_2_h34 VDh_h34 ne_D_b32 ge_b32 O34 o33_0_h34 o34_1) (W := 0) (by decide) (by decide) rfl A32_h34 (g := (mkF m 57 #[.val (.int p0), .val (.int p1), .val (.int p2), .val (.int p3), .val (.double (own_pb p0)), .second, .val (.double (own_pb p1)), .second, .val (.double (own_pb p2)), .second, .val (.int (3 : Int32)), .val (.int kk), .val (.ref b32), .unset, .unset, .unset, .unset, .unset] [(.ref r34), (.ref b32)])) rfl (by rw [hml]; rfl) (argsL := [(.ref r34)]) (rest := []) (lenOf pd_9 rfl) rfl rfl (by show 2 * 0 + _ ≤ _; exact Nat.le_of_eq rfl) (hb hby at_57) (by decide) (by decide)
    obtain ⟨ea35, kA35, rfl, Nq35, Kq35, o35_0, o35_1, o35_2, o35_3, o35_4, o35_5, o35_6⟩ := q35
    have N35 := Fr.app N34 Nq35
    have Z35 : n0 ≤ T35.heap.size := Nat.le_trans Z34 Kq35.1
    have O35 := O34.keep Kq35 (allS ge_b32 all0)
    have A32_h35 := A32_h34.keep Kq35
    have o34_1_h35 := o34_1.keep Kq35
    have o34_2_h35 := o34_2.keep Kq35 (ninS (Ne.symm ne_b32_r34) nin0)
    have ge_ea35 : n0 ≤ ea35 := Nat.le_trans Z34 o35_0
    have ne_D_ea35 : D ≠ ea35 := Nat.ne_of_lt (Nat.lt_of_lt_of_le VDh_h34.lt o35_0)
    have ne_b32_ea35 : b32 ≠ ea35 := Nat.ne_of_lt (Nat.lt_of_lt_of_le A32_h34.lt o35_0)
    have ne_r34_ea35 : r34 ≠ ea35 := Nat.ne_of_lt (Nat.lt_of_lt_of_le o34_1.lt o35_0)
    refine own_byW st35 ?_
    show own_GoW _ _ _ _ _ _ _ (T35.setTop (mkF m 60 #[.val (.int p0), .val (.int p1), .val (.int p2), .val (.int p3), .val (.double (own_pb p0)), .second, .val (.double (own_pb p1)), .second, .val (.double (own_pb p2)), .second, .val (.int (3 : Int32)), .val (.int kk), .val (.ref b32), .unset, .unset, .unset, .unset, .unset] [(.int (1 : Int32))]))
    refine own_byW (fun _ kz => XS.pop X35.here hx rfl (hb hby at_60) rfl rfl kz) ?_
    show own_GoW _ _ _ _ _ _ _ (T35.setTop (mkF m 61 #[.val (.int p0), .val (.int p1), .val (.int p2), .val (.int p3), .val (.double (own_pb p0)), .second, .val (.double (own_pb p1)), .second, .val (.double (own_pb p2)), .second, .val (.int (3 : Int32)), .val (.int kk), .val (.ref b32), .unset, .unset, .unset, .unset, .unset] []))
    refine own_byW (fun _ kz => XS.iload X35.here hx rfl (hb hby at_61) rfl kz) ?_
    refine own_byW (fun _ kz => XS.iconst X35.here hx rfl (hb hby at_63) kz) ?_
    show own_GoW _ _ _ _ _ _ _ (T35.setTop (mkF m 64 #[.val (.int p0), .val (.int p1), .val (.int p2), .val (.int p3), .val (.double (own_pb p0)), .second, .val (.double (own_pb p1)), .second, .val (.double (own_pb p2)), .second, .val (.int (3 : Int32)), .val (.int kk), .val (.ref b32), .unset, .unset, .unset, .unset, .unset] [(.int (2 : Int32)), (.int (3 : Int32))]))
    refine own_byW (fun _ kz => XS.icmpNo X35.here hx rfl (hb hby at_64) rfl (flt (by decide : ¬ ((3 : Int32) < (2 : Int32)))).1 kz) ?_
    show own_GoW _ _ _ _ _ _ _ (T35.setTop (mkF m 67 #[.val (.int p0), .val (.int p1), .val (.int p2), .val (.int p3), .val (.double (own_pb p0)), .second, .val (.double (own_pb p1)), .second, .val (.double (own_pb p2)), .second, .val (.int (3 : Int32)), .val (.int kk), .val (.ref b32), .unset, .unset, .unset, .unset, .unset] []))
    refine own_byW (fun _ kz => XS.aload X35.here hx rfl (hb hby at_67) rfl rfl kz) ?_
    refine own_byW (fun _ kz => XS.dload X35.here hx rfl (hb hby at_69) rfl kz) ?_
    show own_GoW _ _ _ _ _ _ _ (T35.setTop (mkF m 71 #[.val (.int p0), .val (.int p1), .val (.int p2), .val (.int p3), .val (.double (own_pb p0)), .second, .val (.double (own_pb p1)), .second, .val (.double (own_pb p2)), .second, .val (.int (3 : Int32)), .val (.int kk), .val (.ref b32), .unset, .unset, .unset, .unset, .unset] [(.double (own_pb p1)), (.ref b32)]))
    obtain ⟨v36, T36, L36, X36, q36, st36⟩ := own_callS X35 hx hZ hown (ow hw 32 rfl) (ow hw 33 rfl) (ow hw 34 rfl) (ow hw 35 rfl) (by decide) (rm6 l Z a0 hw [] (own_pb p1) T35.heap n0 Z35 ) (W := 1) (by decide) (by decide) rfl (g := (mkF m 71 #[.val (.int p0), .val (.int p1), .val (.int p2), .val (.int p3), .val (.double (own_pb p0)), .second, .val (.double (own_pb p1)), .second, .val (.double (own_pb p2)), .second, .val (.int (3 : Int32)), .val (.int kk), .val (.ref b32), .unset, .unset, .unset, .unset, .unset] [(.double (own_pb p1)), (.ref b32)])) rfl (by rw [hml]; rfl) (argsL := [(.double (own_pb p1))]) (rest := [(.ref b32)]) (lenOf pd_6 rfl) rfl rfl (by show 2 * 0 + _ ≤ _; exact Nat.le_of_eq rfl) (hb hby at_71) (by decide) (by decide)
    obtain ⟨r36, rfl, Nq36, Kq36, o36_0, o36_1, o36_2⟩ := q36
    have N36 := Fr.app N35 Nq36
    have Z36 : n0 ≤ T36.heap.size := Nat.le_trans Z35 Kq36.1
    have O36 := O35.keep Kq36 all0
    have A32_h36 := A32_h35.keep Kq36
    have o34_1_h36 := o34_1_h35.keep Kq36
    have o34_2_h36 := o34_2_h35.keep Kq36 nin0
    have o35_1_h36 := o35_1.keep Kq36 nin0
    have o35_2_h36 := o35_2.keep Kq36 nin0
    have o35_3_h36 := o35_3.keep Kq36 nin0
    have o35_4_h36 := o35_4.keep Kq36
    have o35_5_h36 := o35_5.keep Kq36 nin0
    have ge_r36 : n0 ≤ r36 := Nat.le_trans Z35 o36_0
    have ne_b32_r36 : b32 ≠ r36 := Nat.ne_of_lt (Nat.lt_of_lt_of_le A32_h35.lt o36_0)
    have ne_r34_r36 : r34 ≠ r36 := Nat.ne_of_lt (Nat.lt_of_lt_of_le o34_1_h35.lt o36_0)
    have ne_ea35_r36 : ea35 ≠ r36 := Nat.ne_of_lt (Nat.lt_of_lt_of_le o35_4.lt o36_0)
    refine own_byW st36 ?_
    show own_GoW _ _ _ _ _ _ _ (T36.setTop (mkF m 74 #[.val (.int p0), .val (.int p1), .val (.int p2), .val (.int p3), .val (.double (own_pb p0)), .second, .val (.double (own_pb p1)), .second, .val (.double (own_pb p2)), .second, .val (.int (3 : Int32)), .val (.int kk), .val (.ref b32), .unset, .unset, .unset, .unset, .unset] [(.ref r36), (.ref b32)]))
    obtain ⟨v37, T37, L37, X37, q37, st37⟩ := own_callV X36 hx hZ hown (ow hw 51 rfl) (ow hw 52 rfl) (ow hw 54 rfl) (ow hw 53 rfl) (ow hw 8 rfl) (ow hw 55 rfl) (by decide) (rm9b l Z a0 hw [] b32 r36 T36.heap n0 Z36 kA35 r34 ea35 A32_h36 o35_2_h36 o35_3_h36 o35_4_h36 o35_5_h36 o35_6 ne_b32_ea35 ge_b32 ge_ea35 o35_1_h36 o36_1) (W := 0) (by decide) (by decide) rfl A32_h36 (g := (mkF m 74 #[.val (.int p0), .val (.int p1), .val (.int p2), .val (.int p3), .val (.double (own_pb p0)), .second, .val (.double (own_pb p1)), .second, .val (.double (own_pb p2)), .second, .val (.int (3 : Int32)), .val (.int kk), .val (.ref b32), .unset, .unset, .unset, .unset, .unset] [(.ref r36), (.ref b32)])) rfl (by rw [hml]; rfl) (argsL := [(.ref r36)]) (rest := []) (lenOf pd_9 rfl) rfl rfl (by show 2 * 0 + _ ≤ _; exact Nat.le_of_eq rfl) (hb hby at_74) (by decide) (by decide)
    obtain ⟨rfl, Nq37, Kq37, o37_0, o37_1, o37_2, o37_3, o37_4, o37_5⟩ := q37
    have N37 := Fr.app N36 Nq37
    have Z37 : n0 ≤ T37.heap.size := Nat.le_trans Z36 Kq37.1
    have O37 := O36.keep Kq37 (allS ge_b32 (allS ge_ea35 all0))
    have A32_h37 := A32_h36.keep Kq37
    have o34_1_h37 := o34_1_h36.keep Kq37
    have o34_2_h37 := o34_2_h36.keep Kq37 (ninS (Ne.symm ne_b32_r34) (ninS ne_r34_ea35 nin0))
    have o35_4_h37 := o35_4_h36.keep Kq37
    have o36_1_h37 := o36_1.keep Kq37
    have o36_2_h37 := o36_2.keep Kq37 (ninS (Ne.symm ne_b32_r36) (ninS (Ne.symm ne_ea35_r36) nin0))
    refine own_byW st37 ?_
    show own_GoW _ _ _ _ _ _ _ (T37.setTop (mkF m 77 #[.val (.int p0), .val (.int p1), .val (.int p2), .val (.int p3), .val (.double (own_pb p0)), .second, .val (.double (own_pb p1)), .second, .val (.double (own_pb p2)), .second, .val (.int (3 : Int32)), .val (.int kk), .val (.ref b32), .unset, .unset, .unset, .unset, .unset] [(.int (1 : Int32))]))
    refine own_byW (fun _ kz => XS.pop X37.here hx rfl (hb hby at_77) rfl rfl kz) ?_
    show own_GoW _ _ _ _ _ _ _ (T37.setTop (mkF m 78 #[.val (.int p0), .val (.int p1), .val (.int p2), .val (.int p3), .val (.double (own_pb p0)), .second, .val (.double (own_pb p1)), .second, .val (.double (own_pb p2)), .second, .val (.int (3 : Int32)), .val (.int kk), .val (.ref b32), .unset, .unset, .unset, .unset, .unset] []))
    refine own_byW (fun _ kz => XS.iload X37.here hx rfl (hb hby at_78) rfl kz) ?_
    refine own_byW (fun _ kz => XS.iconst X37.here hx rfl (hb hby at_80) kz) ?_
    show own_GoW _ _ _ _ _ _ _ (T37.setTop (mkF m 81 #[.val (.int p0), .val (.int p1), .val (.int p2), .val (.int p3), .val (.double (own_pb p0)), .second, .val (.double (own_pb p1)), .second, .val (.double (own_pb p2)), .second, .val (.int (3 : Int32)), .val (.int kk), .val (.ref b32), .unset, .unset, .unset, .unset, .unset] [(.int (3 : Int32)), (.int (3 : Int32))]))
    refine own_byW (fun _ kz => XS.icmpNo X37.here hx rfl (hb hby at_81) rfl (flt (by decide : ¬ ((3 : Int32) < (3 : Int32)))).1 kz) ?_
    show own_GoW _ _ _ _ _ _ _ (T37.setTop (mkF m 84 #[.val (.int p0), .val (.int p1), .val (.int p2), .val (.int p3), .val (.double (own_pb p0)), .second, .val (.double (own_pb p1)), .second, .val (.double (own_pb p2)), .second, .val (.int (3 : Int32)), .val (.int kk), .val (.ref b32), .unset, .unset, .unset, .unset, .unset] []))
    refine own_byW (fun _ kz => XS.aload X37.here hx rfl (hb hby at_84) rfl rfl kz) ?_
    refine own_byW (fun _ kz => XS.dload X37.here hx rfl (hb hby at_86) rfl kz) ?_
    show own_GoW _ _ _ _ _ _ _ (T37.setTop (mkF m 88 #[.val (.int p0), .val (.int p1), .val (.int p2), .val (.int p3), .val (.double (own_pb p0)), .second, .val (.double (own_pb p1)), .second, .val (.double (own_pb p2)), .second, .val (.int (3 : Int32)), .val (.int kk), .val (.ref b32), .unset, .unset, .unset, .unset, .unset] [(.double (own_pb p2)), (.ref b32)]))
    obtain ⟨v38, T38, L38, X38, q38, st38⟩ := own_callS X37 hx hZ hown (ow hw 32 rfl) (ow hw 33 rfl) (ow hw 34 rfl) (ow hw 35 rfl) (by decide) (rm6 l Z a0 hw [] (own_pb p2) T37.heap n0 Z37 ) (W := 1) (by decide) (by decide) rfl (g := (mkF m 88 #[.val (.int p0), .val (.int p1), .val (.int p2), .val (.int p3), .val (.double (own_pb p0)), .second, .val (.double (own_pb p1)), .second, .val (.double (own_pb p2)), .second, .val (.int (3 : Int32)), .val (.int kk), .val (.ref b32), .unset, .unset, .unset, .unset, .unset] [(.double (own_pb p2)), (.ref b32)])) rfl (by rw [hml]; rfl) (argsL := [(.double (own_pb p2))]) (rest := [(.ref b32)]) (lenOf pd_6 rfl) rfl rfl (by show 2 * 0 + _ ≤ _; exact Nat.le_of_eq rfl) (hb hby at_88) (by decide) (by decide)
    obtain ⟨r38, rfl, Nq38, Kq38, o38_0, o38_1, o38_2⟩ := q38
    have N38 := Fr.app N37 Nq38
    have Z38 : n0 ≤ T38.heap.size := Nat.le_trans Z37 Kq38.1
    have O38 := O37.keep Kq38 all0
    have A32_h38 := A32_h37.keep Kq38
    have o34_1_h38 := o34_1_h37.keep Kq38
    have o34_2_h38 := o34_2_h37.keep Kq38 nin0
    have o37_3_h38 := o37_3.keep Kq38
    have o36_1_h38 := o36_1_h37.keep Kq38
    have o36_2_h38 := o36_2_h37.keep Kq38 nin0
    have o37_0_h38 := o37_0.keep Kq38 nin0
    have o37_1_h38 := o37_1.keep Kq38 nin0
    have o37_2_h38 := o37_2.keep Kq38 nin0
    have o37_4_h38 := o37_4.keep Kq38 nin0
    have ge_r38 : n0 ≤ r38 := Nat.le_trans Z37 o38_0
    have ne_b32_r38 : b32 ≠ r38 := Nat.ne_of_lt (Nat.lt_of_lt_of_le A32_h37.lt o38_0)
    have ne_r34_r38 : r34 ≠ r38 := Nat.ne_of_lt (Nat.lt_of_lt_of_le o34_1_h37.lt o38_0)
    have ne_ea35_r38 : ea35 ≠ r38 := Nat.ne_of_lt (Nat.lt_of_lt_of_le o37_3.lt o38_0)
    have ne_r36_r38 : r36 ≠ r38 := Nat.ne_of_lt (Nat.lt_of_lt_of_le o36_1_h37.lt o38_0)
    refine own_byW st38 ?_
    show own_GoW _ _ _ _ _ _ _ (T38.setTop (mkF m 91 #[.val (.int p0), .val (.int p1), .val (.int p2), .val (.int p3), .val (.double (own_pb p0)), .second, .val (.double (own_pb p1)), .second, .val (.double (own_pb p2)), .second, .val (.int (3 : Int32)), .val (.int kk), .val (.ref b32), .unset, .unset, .unset, .unset, .unset] [(.ref r38), (.ref b32)]))
    obtain ⟨v39, T39, L39, X39, q39, st39⟩ := own_callV X38 hx hZ hown (ow hw 51 rfl) (ow hw 52 rfl) (ow hw 54 rfl) (ow hw 53 rfl) (ow hw 8 rfl) (ow hw 55 rfl) (by decide) (rm9c l Z a0 hw [] b32 r38 T38.heap n0 Z38 kA35 r34 r36 ea35 A32_h38 o37_1_h38 o37_2_h38 o37_3_h38 o37_4_h38 o37_5 ne_b32_ea35 ge_b32 ge_ea35 o37_0_h38 o38_1) (W := 0) (by decide) (by decide) rfl A32_h38 (g := (mkF m 91 #[.val (.int p0), .val (.int p1), .val (.int p2), .val (.int p3), .val (.double (own_pb p0)), .second, .val (.double (own_pb p1)), .second, .val (.double (own_pb p2)), .second, .val (.int (3 : Int32)), .val (.int kk), .val (.ref b32), .unset, .unset, .unset, .unset, .unset] [(.ref r38), (.ref b32)])) rfl (by rw [hml]; rfl) (argsL := [(.ref r38)]) (rest := []) (lenOf pd_9 rfl) rfl rfl (by show 2 * 0 + _ ≤ _; exact Nat.le_of_eq rfl) (hb hby at_91) (by decide) (by decide)
    obtain ⟨rfl, Nq39, Kq39, o39_0, o39_1, o39_2, o39_3, o39_4, o39_5⟩ := q39
    have N39 := Fr.app N38 Nq39
    have Z39 : n0 ≤ T39.heap.size := Nat.le_trans Z38 Kq39.1
    have O39 := O38.keep Kq39 (allS ge_b32 (allS ge_ea35 all0))
    have A32_h39 := A32_h38.keep Kq39
    have o34_1_h39 := o34_1_h38.keep Kq39
    have o34_2_h39 := o34_2_h38.keep Kq39 (ninS (Ne.symm ne_b32_r34) (ninS ne_r34_ea35 nin0))
    have o37_3_h39 := o37_3_h38.keep Kq39
    have o36_1_h39 := o36_1_h38.keep Kq39
    have o36_2_h39 := o36_2_h38.keep Kq39 (ninS (Ne.symm ne_b32_r36) (ninS (Ne.symm ne_ea35_r36) nin0))
    have o38_1_h39 := o38_1.keep Kq39
    have o38_2_h39 := o38_2.keep Kq39 (ninS (Ne.symm ne_b32_r38) (ninS (Ne.symm ne_ea35_r38) nin0))
    refine own_byW st39 ?_
    show own_GoW _ _ _ _ _ _ _ (T39.setTop (mkF m 94 #[.val (.int p0), .val (.int p1), .val (.int p2), .val (.int p3), .val (.double (own_pb p0)), .second, .val (.double (own_pb p1)), .second, .val (.double (own_pb p2)), .second, .val (.int (3 : Int32)), .val (.int kk), .val (.ref b32), .unset, .unset, .unset, .unset, .unset] [(.int (1 : Int32))]))
    refine own_byW (fun _ kz => XS.pop X39.here hx rfl (hb hby at_94) rfl rfl kz) ?_
    show own_GoW _ _ _ _ _ _ _ (T39.setTop (mkF m 95 #[.val (.int p0), .val (.int p1), .val (.int p2), .val (.int p3), .val (.double (own_pb p0)), .second, .val (.double (own_pb p1)), .second, .val (.double (own_pb p2)), .second, .val (.int (3 : Int32)), .val (.int kk), .val (.ref b32), .unset, .unset, .unset, .unset, .unset] []))
    refine own_byW (fun _ kz => XS.iload X39.here hx rfl (hb hby at_95) rfl kz) ?_
    refine own_byW (fun _ kz => XS.iconst X39.here hx rfl (hb hby at_97) kz) ?_
    show own_GoW _ _ _ _ _ _ _ (T39.setTop (mkF m 98 #[.val (.int p0), .val (.int p1), .val (.int p2), .val (.int p3), .val (.double (own_pb p0)), .second, .val (.double (own_pb p1)), .second, .val (.double (own_pb p2)), .second, .val (.int (3 : Int32)), .val (.int kk), .val (.ref b32), .unset, .unset, .unset, .unset, .unset] [(.int (1 : Int32)), (.int (3 : Int32))]))
    refine own_byW (fun _ kz => XS.icmpYes X39.here hx rfl (pc0 := 98) (pc' := 108) rfl (hb hby at_98) rfl (feq (by decide : ¬ ((3 : Int32) = (1 : Int32)))).2 (by decide) (by decide) kz) ?_
    show own_GoW _ _ _ _ _ _ _ (T39.setTop (mkF m 108 #[.val (.int p0), .val (.int p1), .val (.int p2), .val (.int p3), .val (.double (own_pb p0)), .second, .val (.double (own_pb p1)), .second, .val (.double (own_pb p2)), .second, .val (.int (3 : Int32)), .val (.int kk), .val (.ref b32), .unset, .unset, .unset, .unset, .unset] []))
    refine own_byW (fun _ kz => XS.iload X39.here hx rfl (hb hby at_108) rfl kz) ?_
    refine own_byW (fun _ kz => XS.iconst X39.here hx rfl (hb hby at_110) kz) ?_
    show own_GoW _ _ _ _ _ _ _ (T39.setTop (mkF m 111 #[.val (.int p0), .val (.int p1), .val (.int p2), .val (.int p3), .val (.double (own_pb p0)), .second, .val (.double (own_pb p1)), .second, .val (.double (own_pb p2)), .second, .val (.int (3 : Int32)), .val (.int kk), .val (.ref b32), .unset, .unset, .unset, .unset, .unset] [(.int (2 : Int32)), (.int (3 : Int32))]))
    refine own_byW (fun _ kz => XS.icmpYes X39.here hx rfl (pc0 := 111) (pc' := 121) rfl (hb hby at_111) rfl (feq (by decide : ¬ ((3 : Int32) = (2 : Int32)))).2 (by decide) (by decide) kz) ?_
    show own_GoW _ _ _ _ _ _ _ (T39.setTop (mkF m 121 #[.val (.int p0), .val (.int p1), .val (.int p2), .val (.int p3), .val (.double (own_pb p0)), .second, .val (.double (own_pb p1)), .second, .val (.double (own_pb p2)), .second, .val (.int (3 : Int32)), .val (.int kk), .val (.ref b32), .unset, .unset, .unset, .unset, .unset] []))
    refine own_byW (fun _ kz => XS.dload X39.here hx rfl (hb hby at_121) rfl kz) ?_
    show own_GoW _ _ _ _ _ _ _ (T39.setTop (mkF m 123 #[.val (.int p0), .val (.int p1), .val (.int p2), .val (.int p3), .val (.double (own_pb p0)), .second, .val (.double (own_pb p1)), .second, .val (.double (own_pb p2)), .second, .val (.int (3 : Int32)), .val (.int kk), .val (.ref b32), .unset, .unset, .unset, .unset, .unset] [(.double (own_pb p2))]))
    refine own_byW (fun _ kz => XS.dstore X39.here hx rfl (hb hby at_123) rfl (l' := #[.val (.int p0), .val (.int p1), .val (.int p2), .val (.int p3), .val (.double (own_pb p0)), .second, .val (.double (own_pb p1)), .second, .val (.double (own_pb p2)), .second, .val (.int (3 : Int32)), .val (.int kk), .val (.ref b32), .val (.double (own_pb p2)), .second, .unset, .unset, .unset]) rfl kz) ?_
    show own_GoW _ _ _ _ _ _ _ (T39.setTop (mkF m 125 #[.val (.int p0), .val (.int p1), .val (.int p2), .val (.int p3), .val (.double (own_pb p0)), .second, .val (.double (own_pb p1)), .second, .val (.double (own_pb p2)), .second, .val (.int (3 : Int32)), .val (.int kk), .val (.ref b32), .val (.double (own_pb p2)), .second, .unset, .unset, .unset] []))
    obtain ⟨T40, h40, X40, e40, E40, A40, D40, -, st40⟩ := newO X39 hx hZ hown (ow hw 82 rfl) (ow hw 83 rfl) (ow hw 84 rfl) rfl (g := (mkF m 125 #[.val (.int p0), .val (.int p1), .val (.int p2), .val (.int p3), .val (.double (own_pb p0)), .second, .val (.double (own_pb p1)), .second, .val (.double (own_pb p2)), .second, .val (.int (3 : Int32)), .val (.int kk), .val (.ref b32), .val (.double (own_pb p2)), .second, .unset, .unset, .unset] [])) rfl (hb hby at_125) (by decide) (by decide)
    obtain ⟨b40, g40⟩ : ∃ z, z = T39.heap.size := ⟨_, rfl⟩
    rw [← g40] at A40 D40 st40
    have ge_b40 : n0 ≤ b40 := Nat.le_trans Z39 (Nat.le_of_eq g40.symm)
    have ne_b32_b40 : b32 ≠ b40 := by rw [g40]; exact Nat.ne_of_lt A32_h39.lt
    have ne_r34_b40 : r34 ≠ b40 := by rw [g40]; exact Nat.ne_of_lt o34_1_h39.lt
    have ne_ea35_b40 : ea35 ≠ b40 := by rw [g40]; exact Nat.ne_of_lt o39_3.lt
    have ne_r36_b40 : r36 ≠ b40 := by rw [g40]; exact Nat.ne_of_lt o36_1_h39.lt
    have ne_r38_b40 : r38 ≠ b40 := by rw [g40]; exact Nat.ne_of_lt o38_1_h39.lt
    have Z40 : n0 ≤ h40.size := Nat.le_trans Z39 E40.1
    have O40 := O39.ext E40
    have A32_h40 := A32_h39.ext E40
    have o34_1_h40 := o34_1_h39.ext E40
    have o34_2_h40 := o34_2_h39.ext E40
    have o39_3_h40 := o39_3.ext E40
    have o36_1_h40 := o36_1_h39.ext E40
    have o36_2_h40 := o36_2_h39.ext E40
    have o38_1_h40 := o38_1_h39.ext E40
    have o38_2_h40 := o38_2_h39.ext E40
    have o39_0_h40 := o39_0.ext E40
    have o39_1_h40 := o39_1.ext E40
    have o39_2_h40 := o39_2.ext E40
    have o39_4_h40 := o39_4.ext E40
    have F40_link : Fld Z h40 b40 "com/example/inferlink/inferlink/LinkDelay" "link" "Lcom/example/inferlink/inferlink/Link;" .null := D40 (Or.inr (ow hw 273 rfl)) (ty := (.object "com/example/inferlink/inferlink/Link")) (by decide)
    have F40_status : Fld Z h40 b40 "com/example/inferlink/inferlink/LinkDelay" "status" "Lcom/example/inferlink/inferlink/LinkStatus;" .null := D40 (Or.inr (ow hw 275 rfl)) (ty := (.object "com/example/inferlink/inferlink/LinkStatus")) (by decide)
    have F40_probabilities : Fld Z h40 b40 "com/example/inferlink/inferlink/LinkDelay" "probabilities" "Ljava/util/List;" .null := D40 (Or.inr (ow hw 277 rfl)) (ty := (.object "java/util/List")) (by decide)
    refine own_byW st40 ?_
    show own_GoW _ _ _ _ _ _ _ (T40.setTop (mkF m 128 #[.val (.int p0), .val (.int p1), .val (.int p2), .val (.int p3), .val (.double (own_pb p0)), .second, .val (.double (own_pb p1)), .second, .val (.double (own_pb p2)), .second, .val (.int (3 : Int32)), .val (.int kk), .val (.ref b32), .val (.double (own_pb p2)), .second, .unset, .unset, .unset] [(.ref b40)]))
    refine own_byW (fun _ kz => XS.dup X40.here hx rfl (hb hby at_128) rfl rfl kz) ?_
    show own_GoW _ _ _ _ _ _ _ (T40.setTop (mkF m 129 #[.val (.int p0), .val (.int p1), .val (.int p2), .val (.int p3), .val (.double (own_pb p0)), .second, .val (.double (own_pb p1)), .second, .val (.double (own_pb p2)), .second, .val (.int (3 : Int32)), .val (.int kk), .val (.ref b32), .val (.double (own_pb p2)), .second, .unset, .unset, .unset] [(.ref b40), (.ref b40)]))
    obtain ⟨T41, h41, X41, e41, E41, A41, D41, -, st41⟩ := newO X40 hx hZ hown (ow hw 85 rfl) (ow hw 86 rfl) (ow hw 87 rfl) e40 (g := (mkF m 129 #[.val (.int p0), .val (.int p1), .val (.int p2), .val (.int p3), .val (.double (own_pb p0)), .second, .val (.double (own_pb p1)), .second, .val (.double (own_pb p2)), .second, .val (.int (3 : Int32)), .val (.int kk), .val (.ref b32), .val (.double (own_pb p2)), .second, .unset, .unset, .unset] [(.ref b40), (.ref b40)])) rfl (hb hby at_129) (by decide) (by decide)
    obtain ⟨b41, g41⟩ : ∃ z, z = h40.size := ⟨_, rfl⟩
    rw [← g41] at A41 D41 st41
    have ge_b41 : n0 ≤ b41 := Nat.le_trans Z40 (Nat.le_of_eq g41.symm)
    have ne_b32_b41 : b32 ≠ b41 := by rw [g41]; exact Nat.ne_of_lt A32_h40.lt
    have ne_r34_b41 : r34 ≠ b41 := by rw [g41]; exact Nat.ne_of_lt o34_1_h40.lt
    have ne_ea35_b41 : ea35 ≠ b41 := by rw [g41]; exact Nat.ne_of_lt o39_3_h40.lt
    have ne_r36_b41 : r36 ≠ b41 := by rw [g41]; exact Nat.ne_of_lt o36_1_h40.lt
    have ne_r38_b41 : r38 ≠ b41 := by rw [g41]; exact Nat.ne_of_lt o38_1_h40.lt
    have ne_b40_b41 : b40 ≠ b41 := by rw [g41]; exact Nat.ne_of_lt A40.lt
    have Z41 : n0 ≤ h41.size := Nat.le_trans Z40 E41.1
    have O41 := O40.ext E41
    have A32_h41 := A32_h40.ext E41
    have o34_1_h41 := o34_1_h40.ext E41
    have o34_2_h41 := o34_2_h40.ext E41
    have o39_3_h41 := o39_3_h40.ext E41
    have o36_1_h41 := o36_1_h40.ext E41
    have o36_2_h41 := o36_2_h40.ext E41
    have o38_1_h41 := o38_1_h40.ext E41
    have o38_2_h41 := o38_2_h40.ext E41
    have o39_0_h41 := o39_0_h40.ext E41
    have o39_1_h41 := o39_1_h40.ext E41
    have o39_2_h41 := o39_2_h40.ext E41
    have o39_4_h41 := o39_4_h40.ext E41
    have A40_h41 := A40.ext E41
    have F40_link_h41 := F40_link.ext E41
    have F40_status_h41 := F40_status.ext E41
    have F40_probabilities_h41 := F40_probabilities.ext E41
    have F41_child : Fld Z h41 b41 "com/example/inferlink/inferlink/Link" "child" "Ljava/lang/String;" .null := D41 (Or.inr (ow hw 107 rfl)) (ty := (.object "java/lang/String")) (by decide)
    have F41_parent : Fld Z h41 b41 "com/example/inferlink/inferlink/Link" "parent" "Ljava/lang/String;" .null := D41 (Or.inr (ow hw 109 rfl)) (ty := (.object "java/lang/String")) (by decide)
    refine own_byW st41 ?_
    show own_GoW _ _ _ _ _ _ _ (T41.setTop (mkF m 132 #[.val (.int p0), .val (.int p1), .val (.int p2), .val (.int p3), .val (.double (own_pb p0)), .second, .val (.double (own_pb p1)), .second, .val (.double (own_pb p2)), .second, .val (.int (3 : Int32)), .val (.int kk), .val (.ref b32), .val (.double (own_pb p2)), .second, .unset, .unset, .unset] [(.ref b41), (.ref b40), (.ref b40)]))
    refine own_byW (fun _ kz => XS.dup X41.here hx rfl (hb hby at_132) rfl rfl kz) ?_
    show own_GoW _ _ _ _ _ _ _ (T41.setTop (mkF m 133 #[.val (.int p0), .val (.int p1), .val (.int p2), .val (.int p3), .val (.double (own_pb p0)), .second, .val (.double (own_pb p1)), .second, .val (.double (own_pb p2)), .second, .val (.int (3 : Int32)), .val (.int kk), .val (.ref b32), .val (.double (own_pb p2)), .second, .unset, .unset, .unset] [(.ref b41), (.ref b41), (.ref b40), (.ref b40)]))
    obtain ⟨a42, T42, h42, k42, X42, e42, E42, hS42, hk42, hZ, hown, st42⟩ := ldcS (s := s) (vm0 := s.vm) X41 hx hZ hown (ow hw 88 rfl) (own_strs hw) e41 ((State.WarmedH.refl s).since 0) (Nat.zero_le _) (g := (mkF m 133 #[.val (.int p0), .val (.int p1), .val (.int p2), .val (.int p3), .val (.double (own_pb p0)), .second, .val (.double (own_pb p1)), .second, .val (.double (own_pb p2)), .second, .val (.int (3 : Int32)), .val (.int kk), .val (.ref b32), .val (.double (own_pb p2)), .second, .unset, .unset, .unset] [(.ref b41), (.ref b41), (.ref b40), (.ref b40)])) rfl (hb hby at_133) (n := 4) (by decide) (by decide) (by decide) (by decide)
    have Z42 : n0 ≤ h42.size := Nat.le_trans Z41 E42.1
    have O42 := O41.ext E42
    have A32_h42 := A32_h41.ext E42
    have o34_1_h42 := o34_1_h41.ext E42
    have o34_2_h42 := o34_2_h41.ext E42
    have o39_3_h42 := o39_3_h41.ext E42
    have o36_1_h42 := o36_1_h41.ext E42
    have o36_2_h42 := o36_2_h41.ext E42
    have o38_1_h42 := o38_1_h41.ext E42
    have o38_2_h42 := o38_2_h41.ext E42
    have o39_0_h42 := o39_0_h41.ext E42
    have o39_1_h42 := o39_1_h41.ext E42
    have o39_2_h42 := o39_2_h41.ext E42
    have o39_4_h42 := o39_4_h41.ext E42
    have A40_h42 := A40_h41.ext E42
    have F40_link_h42 := F40_link_h41.ext E42
    have F40_status_h42 := F40_status_h41.ext E42
    have F40_probabilities_h42 := F40_probabilities_h41.ext E42
    have A41_h42 := A41.ext E42
    have F41_child_h42 := F41_child.ext E42
    have F41_parent_h42 := F41_parent.ext E42
    refine own_byW st42 ?_
    show own_GoW _ _ _ _ _ _ _ (T42.setTop (mkF m 135 #[.val (.int p0), .val (.int p1), .val (.int p2), .val (.int p3), .val (.double (own_pb p0)), .second, .val (.double (own_pb p1)), .second, .val (.double (own_pb p2)), .second, .val (.int (3 : Int32)), .val (.int kk), .val (.ref b32), .val (.double (own_pb p2)), .second, .unset, .unset, .unset] [(.ref a42), (.ref b41), (.ref b41), (.ref b40), (.ref b40)]))
    obtain ⟨a43, T43, h43, k43, X43, e43, E43, hS43, hk43, hZ, hown, st43⟩ := ldcS (s := s) (vm0 := T42.vm) X42 hx hZ hown (ow hw 96 rfl) (own_strs hw) e42 hS42 hk42 (g := (mkF m 135 #[.val (.int p0), .val (.int p1), .val (.int p2), .val (.int p3), .val (.double (own_pb p0)), .second, .val (.double (own_pb p1)), .second, .val (.double (own_pb p2)), .second, .val (.int (3 : Int32)), .val (.int kk), .val (.ref b32), .val (.double (own_pb p2)), .second, .unset, .unset, .unset] [(.ref a42), (.ref b41), (.ref b41), (.ref b40), (.ref b40)])) rfl (hb hby at_135) (n := 4) (by decide) (by decide) (by decide) (by decide)
    have Z43 : n0 ≤ h43.size := Nat.le_trans Z42 E43.1
    have O43 := O42.ext E43
    have A32_h43 := A32_h42.ext E43
    have o34_1_h43 := o34_1_h42.ext E43
    have o34_2_h43 := o34_2_h42.ext E43
    have o39_3_h43 := o39_3_h42.ext E43
    have o36_1_h43 := o36_1_h42.ext E43
    have o36_2_h43 := o36_2_h42.ext E43
    have o38_1_h43 := o38_1_h42.ext E43
    have o38_2_h43 := o38_2_h42.ext E43
    have o39_0_h43 := o39_0_h42.ext E43
    have o39_1_h43 := o39_1_h42.ext E43
    have o39_2_h43 := o39_2_h42.ext E43
    have o39_4_h43 := o39_4_h42.ext E43
    have A40_h43 := A40_h42.ext E43
    have F40_link_h43 := F40_link_h42.ext E43
    have F40_status_h43 := F40_status_h42.ext E43
    have F40_probabilities_h43 := F40_probabilities_h42.ext E43
    have A41_h43 := A41_h42.ext E43
    have F41_child_h43 := F41_child_h42.ext E43
    have F41_parent_h43 := F41_parent_h42.ext E43
    refine own_byW st43 ?_
    show own_GoW _ _ _ _ _ _ _ (T43.setTop (mkF m 137 #[.val (.int p0), .val (.int p1), .val (.int p2), .val (.int p3), .val (.double (own_pb p0)), .second, .val (.double (own_pb p1)), .second, .val (.double (own_pb p2)), .second, .val (.int (3 : Int32)), .val (.int kk), .val (.ref b32), .val (.double (own_pb p2)), .second, .unset, .unset, .unset] [(.ref a43), (.ref a42), (.ref b41), (.ref b41), (.ref b40), (.ref b40)]))
    obtain ⟨v44, T44, L44, X44, q44, st44⟩ := own_callI X43 hx hZ rfl hown (ow hw 97 rfl) (ow hw 98 rfl) (ow hw 87 rfl) (ow hw 99 rfl) (by decide) (rm14 l Z a0 hw [] b41 a42 a43 h43 n0 Z43 A41_h43 F41_child_h43 F41_parent_h43 ge_b41) (W := 3) (by decide) (by decide) e43 (g := (mkF m 137 #[.val (.int p0), .val (.int p1), .val (.int p2), .val (.int p3), .val (.double (own_pb p0)), .second, .val (.double (own_pb p1)), .second, .val (.double (own_pb p2)), .second, .val (.int (3 : Int32)), .val (.int kk), .val (.ref b32), .val (.double (own_pb p2)), .second, .unset, .unset, .unset] [(.ref a43), (.ref a42), (.ref b41), (.ref b41), (.ref b40), (.ref b40)])) rfl (by rw [hml]; rfl) (a := b41) (argsL := [(.ref a42), (.ref a43)]) (rest := [(.ref b41), (.ref b40), (.ref b40)]) (lenOf pd_14 rfl) rfl rfl (by show 2 * 0 + _ ≤ _; exact Nat.le_of_eq rfl) (hb hby at_137) (by decide) (by decide)
    obtain ⟨rfl, Nq44, Kq44⟩ := q44
    have N44 := Fr.app N39 Nq44
    have Z44 : n0 ≤ T44.heap.size := Nat.le_trans Z43 Kq44.1
    have hk44 := Nat.le_trans hk43 Kq44.1
    have O44 := O43.keep Kq44 (allS ge_b41 all0)
    have A32_h44 := A32_h43.keep Kq44
    have o34_1_h44 := o34_1_h43.keep Kq44
    have o34_2_h44 := o34_2_h43.keep Kq44 (ninS ne_r34_b41 nin0)
    have o39_3_h44 := o39_3_h43.keep Kq44
    have o36_1_h44 := o36_1_h43.keep Kq44
    have o36_2_h44 := o36_2_h43.keep Kq44 (ninS ne_r36_b41 nin0)
    have o38_1_h44 := o38_1_h43.keep Kq44
    have o38_2_h44 := o38_2_h43.keep Kq44 (ninS ne_r38_b41 nin0)
    have o39_0_h44 := o39_0_h43.keep Kq44 (ninS ne_b32_b41 nin0)
    have o39_1_h44 := o39_1_h43.keep Kq44 (ninS ne_b32_b41 nin0)
    have o39_2_h44 := o39_2_h43.keep Kq44 (ninS ne_b32_b41 nin0)
    have o39_4_h44 := o39_4_h43.keep Kq44 (ninS ne_ea35_b41 nin0)
    have A40_h44 := A40_h43.keep Kq44
    have F40_link_h44 := F40_link_h43.keep Kq44 (ninS ne_b40_b41 nin0)
    have F40_status_h44 := F40_status_h43.keep Kq44 (ninS ne_b40_b41 nin0)
    have F40_probabilities_h44 := F40_probabilities_h43.keep Kq44 (ninS ne_b40_b41 nin0)
    refine own_byW st44 ?_
    show own_GoW _ _ _ _ _ _ _ (T44.setTop (mkF m 140 #[.val (.int p0), .val (.int p1), .val (.int p2), .val (.int p3), .val (.double (own_pb p0)), .second, .val (.double (own_pb p1)), .second, .val (.double (own_pb p2)), .second, .val (.int (3 : Int32)), .val (.int kk), .val (.ref b32), .val (.double (own_pb p2)), .second, .unset, .unset, .unset] [(.ref b41), (.ref b40), (.ref b40)]))
    refine own_byW (fun _ kz => XS.iload X44.here hx rfl (hb hby at_140) rfl kz) ?_
    show own_GoW _ _ _ _ _ _ _ (T44.setTop (mkF m 142 #[.val (.int p0), .val (.int p1), .val (.int p2), .val (.int p3), .val (.double (own_pb p0)), .second, .val (.double (own_pb p1)), .second, .val (.double (own_pb p2)), .second, .val (.int (3 : Int32)), .val (.int kk), .val (.ref b32), .val (.double (own_pb p2)), .second, .unset, .unset, .unset] [(.int kk), (.ref b41), (.ref b40), (.ref b40)]))
    have esOK_45 := ESOK.ext O44.2
    have fsOK_45 := FSOK.ext O44.2
    have esNO_LOSS_SEEN_45 := ESNO_LOSS_SEEN.ext O44.2
    have fsNO_LOSS_SEEN_45 := FSNO_LOSS_SEEN.ext O44.2
    have esCOMPOSITE_WITH_PARENT_45 := ESCOMPOSITE_WITH_PARENT.ext O44.2
    have fsCOMPOSITE_WITH_PARENT_45 := FSCOMPOSITE_WITH_PARENT.ext O44.2
    have esESTIMATE_ABOVE_ONE_45 := ESESTIMATE_ABOVE_ONE.ext O44.2
    have fsESTIMATE_ABOVE_ONE_45 := FSESTIMATE_ABOVE_ONE.ext O44.2
    have esNOT_CONVERGED_45 := ESNOT_CONVERGED.ext O44.2
    have fsNOT_CONVERGED_45 := FSNOT_CONVERGED.ext O44.2
    obtain ⟨v46, T46, L46, X46, q46, st46⟩ := own_callS X44 hx hZ hown (ow hw 110 rfl) (ow hw 111 rfl) (ow hw 2 rfl) (ow hw 112 rfl) (by decide) (rm16 l Z a0 hw [] kk T44.heap n0 Z44 sOK sNO_LOSS_SEEN sCOMPOSITE_WITH_PARENT sESTIMATE_ABOVE_ONE sNOT_CONVERGED esOK_45 fsOK_45 (SOK.ext O44.2) esNO_LOSS_SEEN_45 fsNO_LOSS_SEEN_45 (SNO_LOSS_SEEN.ext O44.2) esCOMPOSITE_WITH_PARENT_45 fsCOMPOSITE_WITH_PARENT_45 (SCOMPOSITE_WITH_PARENT.ext O44.2) esESTIMATE_ABOVE_ONE_45 fsESTIMATE_ABOVE_ONE_45 (SESTIMATE_ABOVE_ONE.ext O44.2) esNOT_CONVERGED_45 fsNOT_CONVERGED_45 (SNOT_CONVERGED.ext O44.2)) (W := 3) (by decide) (by decide) rfl (g := (mkF m 142 #[.val (.int p0), .val (.int p1), .val (.int p2), .val (.int p3), .val (.double (own_pb p0)), .second, .val (.double (own_pb p1)), .second, .val (.double (own_pb p2)), .second, .val (.int (3 : Int32)), .val (.int kk), .val (.ref b32), .val (.double (own_pb p2)), .second, .unset, .unset, .unset] [(.int kk), (.ref b41), (.ref b40), (.ref b40)])) rfl (by rw [hml]; rfl) (argsL := [(.int kk)]) (rest := [(.ref b41), (.ref b40), (.ref b40)]) (lenOf pd_16 rfl) rfl rfl (by show 2 * 0 + _ ≤ _; exact Nat.le_of_eq rfl) (hb hby at_142) (by decide) (by decide)
    obtain ⟨r46, rfl, Nq46, hh46, o46_0, o46_1⟩ := q46
    have N46 := Fr.app N44 Nq46
    rw [hh46] at o46_0
    rw [hh46] at o46_1
    refine own_byW st46 ?_
    show own_GoW _ _ _ _ _ _ _ (T46.setTop (mkF m 145 #[.val (.int p0), .val (.int p1), .val (.int p2), .val (.int p3), .val (.double (own_pb p0)), .second, .val (.double (own_pb p1)), .second, .val (.double (own_pb p2)), .second, .val (.int (3 : Int32)), .val (.int kk), .val (.ref b32), .val (.double (own_pb p2)), .second, .unset, .unset, .unset] [(.ref r46), (.ref b41), (.ref b40), (.ref b40)]))
    refine own_byW (fun _ kz => XS.aload X46.here hx rfl (hb hby at_145) rfl rfl kz) ?_
    show own_GoW _ _ _ _ _ _ _ (T46.setTop (mkF m 147 #[.val (.int p0), .val (.int p1), .val (.int p2), .val (.int p3), .val (.double (own_pb p0)), .second, .val (.double (own_pb p1)), .second, .val (.double (own_pb p2)), .second, .val (.int (3 : Int32)), .val (.int kk), .val (.ref b32), .val (.double (own_pb p2)), .second, .unset, .unset, .unset] [(.ref b32), (.ref r46), (.ref b41), (.ref b40), (.ref b40)]))
    obtain ⟨v47, T47, L47, X47, q47, st47⟩ := own_callI X46 hx hZ rfl hown (ow hw 116 rfl) (ow hw 117 rfl) (ow hw 84 rfl) (ow hw 118 rfl) (by decide) (rm17_3 l Z a0 hw [] b40 b41 r46 b32 T44.heap n0 Z44 mr MI ea35 kA35 r34 r36 r38 (own_pb p0) (own_pb p1) (own_pb p2) A40_h44 F40_link_h44 F40_status_h44 F40_probabilities_h44 ge_b40 o46_0 o46_1 A32_h44 o39_0_h44 o39_1_h44 o39_2_h44 o39_3_h44 o39_4_h44 o34_1_h44 o34_2_h44 (own_pb_in p0) o36_1_h44 o36_2_h44 (own_pb_in p1) o38_1_h44 o38_2_h44 (own_pb_in p2)) (W := 1) (by decide) (by decide) hh46 (g := (mkF m 147 #[.val (.int p0), .val (.int p1), .val (.int p2), .val (.int p3), .val (.double (own_pb p0)), .second, .val (.double (own_pb p1)), .second, .val (.double (own_pb p2)), .second, .val (.int (3 : Int32)), .val (.int kk), .val (.ref b32), .val (.double (own_pb p2)), .second, .unset, .unset, .unset] [(.ref b32), (.ref r46), (.ref b41), (.ref b40), (.ref b40)])) rfl (by rw [hml]; rfl) (a := b40) (argsL := [(.ref b41), (.ref r46), (.ref b32)]) (rest := [(.ref b40)]) (lenOf pd_17 rfl) rfl rfl (by show 2 * 0 + _ ≤ _; exact Nat.le_of_eq rfl) (hb hby at_147) (by decide) (by decide)
    obtain ⟨r47, ra47, kC47, rfl, Nq47, Kq47, o47_0, o47_1, o47_2, o47_3, o47_4, o47_5, o47_6⟩ := q47
    have N47 := Fr.app N46 Nq47
    have Z47 : n0 ≤ T47.heap.size := Nat.le_trans Z44 Kq47.1
    have hk47 := Nat.le_trans hk44 Kq47.1
    have O47 := O44.keep Kq47 (allS ge_b40 all0)
    have o38_1_h47 := o38_1_h44.keep Kq47
    have o38_2_h47 := o38_2_h44.keep Kq47 (ninS ne_r38_b40 nin0)
    have A40_h47 := A40_h44.keep Kq47
    have ge_r47 : n0 ≤ r47 := Nat.le_trans Z44 o47_1
    have ne_b32_r47 : b32 ≠ r47 := Nat.ne_of_lt (Nat.lt_of_lt_of_le A32_h44.lt o47_1)
    have ne_r34_r47 : r34 ≠ r47 := Nat.ne_of_lt (Nat.lt_of_lt_of_le o34_1_h44.lt o47_1)
    have ne_ea35_r47 : ea35 ≠ r47 := Nat.ne_of_lt (Nat.lt_of_lt_of_le o39_3_h44.lt o47_1)
    have ne_r36_r47 : r36 ≠ r47 := Nat.ne_of_lt (Nat.lt_of_lt_of_le o36_1_h44.lt o47_1)
    have ne_r38_r47 : r38 ≠ r47 := Nat.ne_of_lt (Nat.lt_of_lt_of_le o38_1_h44.lt o47_1)
    have ne_b40_r47 : b40 ≠ r47 := Nat.ne_of_lt (Nat.lt_of_lt_of_le A40_h44.lt o47_1)
    have ne_r46_r47 : r46 ≠ r47 := Nat.ne_of_lt (Nat.lt_of_lt_of_le o46_0.lt o47_1)
    have ge_ra47 : n0 ≤ ra47 := Nat.le_trans Z44 o47_2
    have ne_b32_ra47 : b32 ≠ ra47 := Nat.ne_of_lt (Nat.lt_of_lt_of_le A32_h44.lt o47_2)
    have ne_r34_ra47 : r34 ≠ ra47 := Nat.ne_of_lt (Nat.lt_of_lt_of_le o34_1_h44.lt o47_2)
    have ne_ea35_ra47 : ea35 ≠ ra47 := Nat.ne_of_lt (Nat.lt_of_lt_of_le o39_3_h44.lt o47_2)
    have ne_r36_ra47 : r36 ≠ ra47 := Nat.ne_of_lt (Nat.lt_of_lt_of_le o36_1_h44.lt o47_2)
    have ne_r38_ra47 : r38 ≠ ra47 := Nat.ne_of_lt (Nat.lt_of_lt_of_le o38_1_h44.lt o47_2)
    have ne_b40_ra47 : b40 ≠ ra47 := Nat.ne_of_lt (Nat.lt_of_lt_of_le A40_h44.lt o47_2)
    have ne_r46_ra47 : r46 ≠ ra47 := Nat.ne_of_lt (Nat.lt_of_lt_of_le o46_0.lt o47_2)
    refine own_byW st47 ?_
    show own_GoW _ _ _ _ _ _ _ (T47.setTop (mkF m 150 #[.val (.int p0), .val (.int p1), .val (.int p2), .val (.int p3), .val (.double (own_pb p0)), .second, .val (.double (own_pb p1)), .second, .val (.double (own_pb p2)), .second, .val (.int (3 : Int32)), .val (.int kk), .val (.ref b32), .val (.double (own_pb p2)), .second, .unset, .unset, .unset] [(.ref b40)]))
    refine own_byW (fun _ kz => XS.astore X47.here hx rfl (hb hby at_150) rfl rfl (l' := #[.val (.int p0), .val (.int p1), .val (.int p2), .val (.int p3), .val (.double (own_pb p0)), .second, .val (.double (own_pb p1)), .second, .val (.double (own_pb p2)), .second, .val (.int (3 : Int32)), .val (.int kk), .val (.ref b32), .val (.double (own_pb p2)), .second, .val (.ref b40), .unset, .unset]) rfl kz) ?_
    show own_GoW _ _ _ _ _ _ _ (T47.setTop (mkF m 152 #[.val (.int p0), .val (.int p1), .val (.int p2), .val (.int p3), .val (.double (own_pb p0)), .second, .val (.double (own_pb p1)), .second, .val (.double (own_pb p2)), .second, .val (.int (3 : Int32)), .val (.int kk), .val (.ref b32), .val (.double (own_pb p2)), .second, .val (.ref b40), .unset, .unset] []))
    refine own_byW (fun _ kz => XS.aload X47.here hx rfl (hb hby at_152) rfl rfl kz) ?_
    show own_GoW _ _ _ _ _ _ _ (T47.setTop (mkF m 154 #[.val (.int p0), .val (.int p1), .val (.int p2), .val (.int p3), .val (.double (own_pb p0)), .second, .val (.double (own_pb p1)), .second, .val (.double (own_pb p2)), .second, .val (.int (3 : Int32)), .val (.int kk), .val (.ref b32), .val (.double (own_pb p2)), .second, .val (.ref b40), .unset, .unset] [(.ref b40)]))
    obtain ⟨v48, T48, L48, X48, q48, st48⟩ := own_callV X47 hx hZ hown (ow hw 278 rfl) (ow hw 279 rfl) (ow hw 281 rfl) (ow hw 280 rfl) (ow hw 84 rfl) (ow hw 282 rfl) (by decide) (rm37_3 l Z a0 hw [] b40 T47.heap n0 Z47 r47 ra47 kC47 r34 r36 r38 (own_pb p2) o47_0 o47_4 o47_5 o47_6 o38_1_h47 o38_2_h47) (W := 0) (by decide) (by decide) rfl A40_h47 (g := (mkF m 154 #[.val (.int p0), .val (.int p1), .val (.int p2), .val (.int p3), .val (.double (own_pb p0)), .second, .val (.double (own_pb p1)), .second, .val (.double (own_pb p2)), .second, .val (.int (3 : Int32)), .val (.int kk), .val (.ref b32), .val (.double (own_pb p2)), .second, .val (.ref b40), .unset, .unset] [(.ref b40)])) rfl (by rw [hml]; rfl) (argsL := []) (rest := []) (lenOf pd_37 rfl) rfl rfl (by show 2 * 0 + _ ≤ _; exact Nat.le_of_eq rfl) (hb hby at_154) (by decide) (by decide)
    obtain ⟨rfl, Nq48, hh48⟩ := q48
    have N48 := Fr.app N47 Nq48
    refine own_byW st48 ?_
    show own_GoW _ _ _ _ _ _ _ (T48.setTop (mkF m 157 #[.val (.int p0), .val (.int p1), .val (.int p2), .val (.int p3), .val (.double (own_pb p0)), .second, .val (.double (own_pb p1)), .second, .val (.double (own_pb p2)), .second, .val (.int (3 : Int32)), .val (.int kk), .val (.ref b32), .val (.double (own_pb p2)), .second, .val (.ref b40), .unset, .unset] [(.double (own_pb p2))]))
    refine own_byW (fun _ kz => XS.dstore X48.here hx rfl (hb hby at_157) rfl (l' := #[.val (.int p0), .val (.int p1), .val (.int p2), .val (.int p3), .val (.double (own_pb p0)), .second, .val (.double (own_pb p1)), .second, .val (.double (own_pb p2)), .second, .val (.int (3 : Int32)), .val (.int kk), .val (.ref b32), .val (.double (own_pb p2)), .second, .val (.ref b40), .val (.double (own_pb p2)), .second]) rfl kz) ?_
    show own_GoW _ _ _ _ _ _ _ (T48.setTop (mkF m 159 #[.val (.int p0), .val (.int p1), .val (.int p2), .val (.int p3), .val (.double (own_pb p0)), .second, .val (.double (own_pb p1)), .second, .val (.double (own_pb p2)), .second, .val (.int (3 : Int32)), .val (.int kk), .val (.ref b32), .val (.double (own_pb p2)), .second, .val (.ref b40), .val (.double (own_pb p2)), .second] []))
    refine own_byW (fun _ kz => XS.dload X48.here hx rfl (hb hby at_159) rfl kz) ?_
    refine own_byW (fun _ kz => XS.dload X48.here hx rfl (hb hby at_161) rfl kz) ?_
    show own_GoW _ _ _ _ _ _ _ (T48.setTop (mkF m 163 #[.val (.int p0), .val (.int p1), .val (.int p2), .val (.int p3), .val (.double (own_pb p0)), .second, .val (.double (own_pb p1)), .second, .val (.double (own_pb p2)), .second, .val (.int (3 : Int32)), .val (.int kk), .val (.ref b32), .val (.double (own_pb p2)), .second, .val (.ref b40), .val (.double (own_pb p2)), .second] [(.double (own_pb p2)), (.double (own_pb p2))]))
    refine own_byW (fun _ kz => XS.dcmpS X48.here hx rfl (hb hby at_163) rfl (own_pb_self p2 .l) kz) ?_
    show own_GoW _ _ _ _ _ _ _ (T48.setTop (mkF m 164 #[.val (.int p0), .val (.int p1), .val (.int p2), .val (.int p3), .val (.double (own_pb p0)), .second, .val (.double (own_pb p1)), .second, .val (.double (own_pb p2)), .second, .val (.int (3 : Int32)), .val (.int kk), .val (.ref b32), .val (.double (own_pb p2)), .second, .val (.ref b40), .val (.double (own_pb p2)), .second] [(.int (0 : Int32))]))
    refine own_byW (fun _ kz => XS.ifNo X48.here hx rfl (hb hby at_164) rfl ((if0 _ _).trans (teq (by decide : ((0 : Int32) = (0 : Int32)))).2) kz) ?_
    show own_GoW _ _ _ _ _ _ _ (T48.setTop (mkF m 167 #[.val (.int p0), .val (.int p1), .val (.int p2), .val (.int p3), .val (.double (own_pb p0)), .second, .val (.double (own_pb p1)), .second, .val (.double (own_pb p2)), .second, .val (.int (3 : Int32)), .val (.int kk), .val (.ref b32), .val (.double (own_pb p2)), .second, .val (.ref b40), .val (.double (own_pb p2)), .second] []))
    refine own_byW (fun _ kz => XS.iconst X48.here hx rfl (hb hby at_167) kz) ?_
    show own_GoW _ _ _ _ _ _ _ (T48.setTop (mkF m 168 #[.val (.int p0), .val (.int p1), .val (.int p2), .val (.int p3), .val (.double (own_pb p0)), .second, .val (.double (own_pb p1)), .second, .val (.double (own_pb p2)), .second, .val (.int (3 : Int32)), .val (.int kk), .val (.ref b32), .val (.double (own_pb p2)), .second, .val (.ref b40), .val (.double (own_pb p2)), .second] [(.int (1 : Int32))]))
    refine own_byW (fun _ kz => XS.goto X48.here hx rfl (pc0 := 168) (pc' := 172) rfl (hb hby at_168) (by decide) (by decide) kz) ?_
    show own_GoW _ _ _ _ _ _ _ (T48.setTop (mkF m 172 #[.val (.int p0), .val (.int p1), .val (.int p2), .val (.int p3), .val (.double (own_pb p0)), .second, .val (.double (own_pb p1)), .second, .val (.double (own_pb p2)), .second, .val (.int (3 : Int32)), .val (.int kk), .val (.ref b32), .val (.double (own_pb p2)), .second, .val (.ref b40), .val (.double (own_pb p2)), .second] [(.int (1 : Int32))]))
    exact own_retZW X48 hS43 (by rw [hh48]; exact hk47) hx hlk Bd.returns (hb hby at_172) (by decide) (by decide) ⟨rfl, N48⟩
theorem own_ord {t : Term} {args : Array Value} {s : State} {a : Addr} {k : Int32} {C n d : String} (ev : t.eval args s none [] s = some (.ref a)) (h : (Jvm.Cond.eq (.field t C n d) (.int k)).value args s none s [] = some true) : Fld s s.heap a C n d (.int k) :=
  Fld.start ((fld_at ev).symm.trans (eqv_i (F := .int k) rfl h))
theorem own_len0 {t : Term} {args : Array Value} {s : State} {a : Addr} {cl : Cell} {ty : FieldType} (ev : t.eval args s none [] s = some (.ref a)) (A : Arr s s.heap a cl ty) (h : (Jvm.Cond.eq (.length t) (.int 0)).value args s none s [] = some true) : cl.slots.size = 0 := by
  have ha : s.arrayAt? a = some cl := Arr.fin (Vm.Alike.refl _) A
  have q := eqv_i (F := .int 0) rfl h
  by_cases hl : cl.slots.size < 2 ^ 31
  · rw [len_f ev ha hl] at q
    have h1 : cl.slots.size.toInt32 = 0 := Value.int.inj (Option.some.inj q)
    have h2 : cl.slots.size.toInt32.toNatClampNeg = cl.slots.size := Int32.toNatClampNeg_ofNat_of_lt hl
    rw [h1] at h2
    exact h2.symm
  · simp [Term.eval, ev, ha, hl] at q
set_option maxRecDepth 65536 in
set_option maxHeartbeats 40000000 in
theorem comes_1 {Post : Tables → Env → Array Value → State → Outcome → State → Prop} (hpost : ∀ tb e args s v u, (limb_1_1.after args s (.returned v) u = true ∧ limb_1_2.after args s (.returned v) u = true ∧ True) → FramedW s (.returned v) u (Jvm.fieldLocs frame_1_writes args s ++ Jvm.arrayLocs frame_1_arrays args s ++ Jvm.staticLocs frame_1_statics s) 40 2240 → Post tb e args s (.returned v) u) :
    ArmFor flags0 classFile x code maxLocals ret World_1 tables_1 room_1 Calls_1 rest_1 Pre_1 Post := by
  intro l hfl _ _ p e ha hc hk s m args below hf hA hF happ hP
  obtain ⟨hcalls, hrest, hpre⟩ := hP
  obtain ⟨-, -, -, hnamed, -, -, -, hat⟩ := (Spec.applies_iff hf).mp happ
  obtain ⟨hg, hn⟩ := and_e (Cond.before_iff.mp (show (Jvm.Cond.and given_1 narrow_1).before args s = true from hpre))
  obtain ⟨hcount, hr0⟩ := and_e hg
  obtain ⟨ha0, hr1⟩ := and_e hr0
  obtain ⟨ha1, hr2⟩ := and_e hr1
  obtain ⟨ha2, hr3⟩ := and_e hr2
  obtain ⟨w0, w1, w2, w3, rfl⟩ : ∃ w0 w1 w2 w3 : Value, args = #[w0, w1, w2, w3] := by
    have hs : args.size = 4 := by simpa [Cond.value, given_1] using hcount
    obtain ⟨L⟩ := args
    match L, hs with
    | [w0, w1, w2, w3], _ => exact ⟨w0, w1, w2, w3, rfl⟩
  have hw := fun d (hd : d ∈ tables_1) => atoms_spec (ws := Jvm.Cond.code x code maxLocals ret :: tables_1) hat d (List.mem_cons_of_mem _ hd)
  obtain ⟨i0, ev0⟩ := is_v ha0
  obtain rfl : w0 = (.int i0) := Option.some.inj ev0
  obtain ⟨i1, ev1⟩ := is_v ha1
  obtain rfl : w1 = (.int i1) := Option.some.inj ev1
  obtain ⟨i2, ev2⟩ := is_v ha2
  obtain rfl : w2 = (.int i2) := Option.some.inj ev2
  obtain ⟨i3, ev3⟩ := is_v hr3
  obtain rfl : w3 = (.int i3) := Option.some.inj ev3
  obtain ⟨xOK, yOK⟩ := and_e hn
  obtain ⟨zOK, tOK⟩ := and_e yOK
  obtain ⟨sOK, evOK⟩ := exa_v xOK
  have SOK := Sta.start evOK (Or.inr ⟨(ow hw 114 rfl), (ow hw 115 rfl)⟩)
  have ESOK := Exa.start evOK xOK
  have FSOK := own_ord evOK zOK
  obtain ⟨xNO_LOSS_SEEN, yNO_LOSS_SEEN⟩ := and_e tOK
  obtain ⟨zNO_LOSS_SEEN, tNO_LOSS_SEEN⟩ := and_e yNO_LOSS_SEEN
  obtain ⟨sNO_LOSS_SEEN, evNO_LOSS_SEEN⟩ := exa_v xNO_LOSS_SEEN
  have SNO_LOSS_SEEN := Sta.start evNO_LOSS_SEEN (Or.inr ⟨(ow hw 114 rfl), (ow hw 307 rfl)⟩)
  have ESNO_LOSS_SEEN := Exa.start evNO_LOSS_SEEN xNO_LOSS_SEEN
  have FSNO_LOSS_SEEN := own_ord evNO_LOSS_SEEN zNO_LOSS_SEEN
  obtain ⟨xESTIMATE_ABOVE_ONE, yESTIMATE_ABOVE_ONE⟩ := and_e tNO_LOSS_SEEN
  obtain ⟨zESTIMATE_ABOVE_ONE, tESTIMATE_ABOVE_ONE⟩ := and_e yESTIMATE_ABOVE_ONE
  obtain ⟨sESTIMATE_ABOVE_ONE, evESTIMATE_ABOVE_ONE⟩ := exa_v xESTIMATE_ABOVE_ONE
  have SESTIMATE_ABOVE_ONE := Sta.start evESTIMATE_ABOVE_ONE (Or.inr ⟨(ow hw 114 rfl), (ow hw 347 rfl)⟩)
  have ESESTIMATE_ABOVE_ONE := Exa.start evESTIMATE_ABOVE_ONE xESTIMATE_ABOVE_ONE
  have FSESTIMATE_ABOVE_ONE := own_ord evESTIMATE_ABOVE_ONE zESTIMATE_ABOVE_ONE
  obtain ⟨xNOT_CONVERGED, yNOT_CONVERGED⟩ := and_e tESTIMATE_ABOVE_ONE
  obtain ⟨zNOT_CONVERGED, tNOT_CONVERGED⟩ := and_e yNOT_CONVERGED
  obtain ⟨sNOT_CONVERGED, evNOT_CONVERGED⟩ := exa_v xNOT_CONVERGED
  have SNOT_CONVERGED := Sta.start evNOT_CONVERGED (Or.inr ⟨(ow hw 114 rfl), (ow hw 349 rfl)⟩)
  have ESNOT_CONVERGED := Exa.start evNOT_CONVERGED xNOT_CONVERGED
  have FSNOT_CONVERGED := own_ord evNOT_CONVERGED zNOT_CONVERGED
  obtain ⟨xCOMPOSITE_WITH_PARENT, yCOMPOSITE_WITH_PARENT⟩ := and_e tNOT_CONVERGED
  obtain ⟨sCOMPOSITE_WITH_PARENT, evCOMPOSITE_WITH_PARENT⟩ := exa_v xCOMPOSITE_WITH_PARENT
  have SCOMPOSITE_WITH_PARENT := Sta.start evCOMPOSITE_WITH_PARENT (Or.inr ⟨(ow hw 114 rfl), (ow hw 351 rfl)⟩)
  have ESCOMPOSITE_WITH_PARENT := Exa.start evCOMPOSITE_WITH_PARENT xCOMPOSITE_WITH_PARENT
  have FSCOMPOSITE_WITH_PARENT := own_ord evCOMPOSITE_WITH_PARENT yCOMPOSITE_WITH_PARENT
  have hr_0 := Cond.before_iff.mp (show rest_1_c.before _ s = true from hrest)
  unfold rest_1_c at hr_0
  obtain ⟨j0, hr_1⟩ := and_e hr_0
  obtain ⟨j1, hr_2⟩ := and_e hr_1
  obtain ⟨j2, hr_3⟩ := and_e hr_2
  obtain ⟨j3, hr_4⟩ := and_e hr_3
  obtain ⟨j4, hr_5⟩ := and_e hr_4
  obtain ⟨j5, hr_6⟩ := and_e hr_5
  obtain ⟨j6, hr_7⟩ := and_e hr_6
  obtain ⟨j7, hr_8⟩ := and_e hr_7
  obtain ⟨j8, hr_9⟩ := and_e hr_8
  obtain ⟨j9, hr_10⟩ := and_e hr_9
  obtain ⟨j10, hr_11⟩ := and_e hr_10
  obtain ⟨j11, hr_12⟩ := and_e hr_11
  obtain ⟨j12, hr_13⟩ := and_e hr_12
  obtain ⟨j13, hr_14⟩ := and_e hr_13
  obtain ⟨j14, hr_15⟩ := and_e hr_14
  obtain ⟨j15, hr_16⟩ := and_e hr_15
  obtain ⟨j16, hr_17⟩ := and_e hr_16
  obtain ⟨j17, hr_18⟩ := and_e hr_17
  obtain ⟨D, evD⟩ := exa_v j7
  have SD := Sta.start evD (Or.inr ⟨(ow hw 8 rfl), Cond.before_iff.mpr j2⟩)
  obtain ⟨cD, AD⟩ := Arr.start evD j6
  have lD : cD.slots.size = 0 := own_len0 evD AD j8
  have VD : Arv s s.heap D cD.cls (.object "java/lang/Object") 0 [] .null := ⟨cD, AD, rfl, by rw [lD]; rfl, by decide, fun q hq => by omega, fun q hq => by omega⟩
  obtain ⟨em, evE⟩ := exa_v j11
  have SE := Sta.start evE (Or.inl (Cond.before_iff.mpr j10))
  have EE := Exa.start evE j11
  obtain ⟨⟨cM, kM, mr, m1, m2, m3, -⟩, -⟩ := hcalls
  obtain ⟨n, o, h1, h2, h3, _, L, rfl, ⟨rfl, N⟩, hq⟩ := rm0 l s _ hw tables_1 i0 i1 i2 i3 s.heap s.heap.size (Nat.le_refl _) D cD.cls em mr SD VD SE EE.lt ⟨cM, kM, m1, m2, m3⟩ sOK sNO_LOSS_SEEN sCOMPOSITE_WITH_PARENT sESTIMATE_ABOVE_ONE sNOT_CONVERGED SOK ESOK FSOK SNO_LOSS_SEEN ESNO_LOSS_SEEN FSNO_LOSS_SEEN SCOMPOSITE_WITH_PARENT ESCOMPOSITE_WITH_PARENT FSCOMPOSITE_WITH_PARENT SESTIMATE_ABOVE_ONE ESESTIMATE_ABOVE_ONE FSESTIMATE_ABOVE_ONE SNOT_CONVERGED ESNOT_CONVERGED FSNOT_CONVERGED (Old.start s) p e ha hc hk s m _ below hf ((Spec.applies_iff_loose hf).mp happ).1 ⟨rfl, State.Warmed39.refl s, rfl⟩ trivial
  refine ⟨n, _, h1, h2, h3, hpost _ _ _ _ _ _ ⟨Cond.after_iff.mpr rfl, Cond.after_iff.mpr (eq_i res_at (Term.int_eval (1)) rfl), trivial⟩ ⟨hq.1, hq.2.1, hq.2.2.1, (hq.2.2.2.sift fun y hy => Or.inr (N y hy)).mono (by decide) (by decide)⟩⟩
theorem main_1_1 : Claimed_1_1 := comes_1 fun _ _ _ _ _ _ h hF => ⟨h.1, hF⟩
theorem main_1_2 : Claimed_1_2 := comes_1 fun _ _ _ _ _ _ h hF => ⟨h.2.1, hF⟩
end Jvm.Pilot.@@N@@
namespace Jvm.Pilot.@@N@@
open Jvm Jvm.ClassFile Sem Op Lib Jvm.Free Jvm.Stand Jvm.Pilot.@@N@@.Jvm.D
/-! MADE BY PROGRAM (witnessworld.py) out of the Statement's table words and the real class files: 41 classes; the members and pool entries that the words name. The judged class is class 1, her method 3. -/
namespace start1
open Jvm.ClassFile
def u (s : String) : CpInfo := .utf8 (stringToUtf16 s)
/-- a pool by its gaps: so many unusable entries, then the entry; so many at the end -/
def gap : Nat → List CpInfo → List CpInfo
  | 0, r => r
  | n + 1, r => .unusable :: gap n r
def poolList (es : List (Nat × CpInfo)) (last : Nat) : List CpInfo := es.foldr (fun e r => gap e.1 (e.2 :: r)) (gap last [])
def pool (es : List (Nat × CpInfo)) (last : Nat) : Array CpInfo := ⟨poolList es last⟩
def fileOf (pool : Array CpInfo) (this : Nat) (attrs : Array Attribute := #[]) (ms : Array MethodInfo := #[]) (fl : Nat := 33) (sup : Nat := 0) (ifs : Array Nat := #[]) (fds : Array FieldInfo := #[]) : ClassFile where
  minorVersion := 0
  majorVersion := 65
  constantPool := pool
  accessFlags := fl
  thisClass := this
  superClass := sup
  interfaces := ifs
  fields := fds
  methods := ms
  attributes := attrs
def plain (name : String) (sup : Option ClassId) : Class where
  name := name
  kind := .ordinary
  loader := none
  accessFlags := 33
  super := sup
  interfaces := #[]
  cf := none
  fields := #[]
  methods := #[]
  instanceTypes := #[]
  staticTypes := #[]
  resolved := #[]
  callSites := []
  init := .initialized
  statics := none
  mirror := none

def pool0 : Array CpInfo := pool [(5, u "<init>"), (0, u "()V"), (1, .class_ 10), (1, u "java/lang/Object"), (0, u "getClass"), (0, u "()Ljava/lang/Class;")] 111

def k0c0 : Code := { maxStack := 0, maxLocals := 1, code := object_method_1_code, exceptionTable := #[], attributes := #[] }
def k0m0 : Method := { name := "<init>", desc := "()V", sig := { parameters := [], returnType := none }, accessFlags := 1, code := some k0c0 }
def k0m1 : Method := { name := "getClass", desc := "()Ljava/lang/Class;", sig := { parameters := [], returnType := some (.object "java/lang/Class") }, accessFlags := 273, code := none }
/-- java/lang/Object -/
def k0 : Class := { plain "java/lang/Object" none with
  accessFlags := 33
  interfaces := #[]
  cf := some (fileOf pool0 8 #[] #[{ accessFlags := 1, nameIndex := 5, descriptorIndex := 6, attributes := #[] }, { accessFlags := 273, nameIndex := 11, descriptorIndex := 12, attributes := #[] }] 33 0 #[] #[])
  fields := #[]
  methods := #[k0m0, k0m1]
  instanceTypes := #[]
  staticTypes := #[]
  resolved := Array.replicate 124 none
  statics := none }

def pool1 : Array CpInfo := pool [(2, .class_ 4), (0, .nameAndType 5 6), (0, u "java/lang/Object"), (0, u "<init>"), (0, u "()V"), (0, .integer 65535), (0, .double 4643211215818981376), (1, .fieldref 11 12), (0, .class_ 13), (0, .nameAndType 14 15), (0, u "com/example/inferlink/inferlink/LinkStatus"), (0, u "OK"), (0, u "Lcom/example/inferlink/inferlink/LinkStatus;"), (0, .fieldref 11 17), (0, .nameAndType 18 15), (0, u "NO_LOSS_SEEN"), (0, .fieldref 11 20), (0, .nameAndType 21 15), (0, u "COMPOSITE_WITH_PARENT"), (0, .fieldref 11 23), (0, .nameAndType 24 15), (0, u "ESTIMATE_ABOVE_ONE"), (0, .fieldref 11 26), (0, .nameAndType 27 15), (0, u "NOT_CONVERGED"), (0, .methodref 29 30), (0, .class_ 31), (0, .nameAndType 32 33), (0, u "com/example/inferlink/inferlink/LinkDelayLostPinLaw"), (0, u "prob"), (0, u "(I)D"), (0, .class_ 35), (0, u "java/util/ArrayList"), (0, .methodref 34 3), (0, .methodref 38 39), (0, .class_ 40), (0, .nameAndType 41 42), (0, u "java/lang/Double"), (0, u "valueOf"), (0, u "(D)Ljava/lang/Double;"), (0, .methodref 34 44), (0, .nameAndType 45 46), (0, u "add"), (0, u "(Ljava/lang/Object;)Z"), (0, .class_ 48), (0, u "com/example/inferlink/inferlink/LinkDelay"), (0, .class_ 50), (0, u "com/example/inferlink/inferlink/Link"), (0, .string 52), (0, u "c"), (0, .string 54), (0, u "p"), (0, .methodref 49 56), (0, .nameAndType 5 57), (0, u "(Ljava/lang/String;Ljava/lang/String;)V"), (0, .methodref 29 59), (0, .nameAndType 60 61), (0, u "status"), (0, u "(I)Lcom/example/inferlink/inferlink/LinkStatus;"), (0, .methodref 47 63), (0, .nameAndType 5 64), (0, u "(Lcom/example/inferlink/inferlink/Link;Lcom/example/inferlink/inferlink/LinkStatus;Ljava/util/List;)V"), (0, .methodref 47 66), (0, .nameAndType 67 68), (0, u "lost"), (0, u "()D"), (3, u "law"), (0, u "(IIII)Z")] 2

def k1m0 : Method := { name := "<init>", desc := "()V", sig := { parameters := [], returnType := none }, accessFlags := 1, code := none }
def k1c1 : Code := { maxStack := 4, maxLocals := 1, code := method_2_code, exceptionTable := #[], attributes := #[] }
def k1m1 : Method := { name := "prob", desc := "(I)D", sig := { parameters := [.int], returnType := some .double }, accessFlags := 10, code := some k1c1 }
def k1c2 : Code := { maxStack := 2, maxLocals := 1, code := method_3_code, exceptionTable := #[], attributes := #[] }
def k1m2 : Method := { name := "status", desc := "(I)Lcom/example/inferlink/inferlink/LinkStatus;", sig := { parameters := [.int], returnType := some (.object "com/example/inferlink/inferlink/LinkStatus") }, accessFlags := 10, code := some k1c2 }
def k1c3 : Code := { maxStack := 6, maxLocals := 18, code := code, exceptionTable := #[], attributes := #[] }
def k1m3 : Method := { name := "law", desc := "(IIII)Z", sig := { parameters := [.int, .int, .int, .int], returnType := some .boolean }, accessFlags := 9, code := some k1c3 }
/-- com/example/inferlink/inferlink/LinkDelayLostPinLaw -/
def k1 : Class := { plain "com/example/inferlink/inferlink/LinkDelayLostPinLaw" (some 0) with
  accessFlags := 49
  interfaces := #[]
  cf := some (fileOf pool1 29 #[] #[{ accessFlags := 1, nameIndex := 5, descriptorIndex := 6, attributes := #[] }, { accessFlags := 10, nameIndex := 32, descriptorIndex := 33, attributes := #[] }, { accessFlags := 10, nameIndex := 60, descriptorIndex := 61, attributes := #[] }, { accessFlags := 9, nameIndex := 72, descriptorIndex := 73, attributes := #[] }] 49 2 #[] #[])
  fields := #[]
  methods := #[k1m0, k1m1, k1m2, k1m3]
  instanceTypes := #[]
  staticTypes := #[]
  resolved := Array.replicate 76 none
  statics := none }

def pool2 : Array CpInfo := pool [(8, .class_ 10), (1, u "java/lang/Iterable"), (24, .class_ 36), (0, u "java/lang/Object")] 25

/-- java/lang/Iterable -/
def k2 : Class := { plain "java/lang/Iterable" (some 0) with
  accessFlags := 1537
  interfaces := #[]
  cf := some (fileOf pool2 8 #[] #[] 1537 35 #[] #[])
  fields := #[]
  methods := #[]
  instanceTypes := #[]
  staticTypes := #[]
  resolved := Array.replicate 62 none
  statics := none }

def pool3 : Array CpInfo := pool [(10, .class_ 12), (1, u "java/util/Collection"), (0, u "toArray"), (16, u "()Z"), (29, .class_ 61), (0, u "java/lang/Object"), (0, .class_ 63), (0, u "java/lang/Iterable"), (2, u "isEmpty"), (3, u "()[Ljava/lang/Object;")] 44

def k3m0 : Method := { name := "isEmpty", desc := "()Z", sig := { parameters := [], returnType := some .boolean }, accessFlags := 1025, code := none }
def k3m1 : Method := { name := "toArray", desc := "()[Ljava/lang/Object;", sig := { parameters := [], returnType := some (.array (.object "java/lang/Object")) }, accessFlags := 1025, code := none }
/-- java/util/Collection -/
def k3 : Class := { plain "java/util/Collection" (some 0) with
  accessFlags := 1537
  interfaces := #[2]
  cf := some (fileOf pool3 10 #[] #[{ accessFlags := 1025, nameIndex := 66, descriptorIndex := 30, attributes := #[] }, { accessFlags := 1025, nameIndex := 13, descriptorIndex := 70, attributes := #[] }] 1537 60 #[62] #[])
  fields := #[]
  methods := #[k3m0, k3m1]
  instanceTypes := #[]
  staticTypes := #[]
  resolved := Array.replicate 115 none
  statics := none }

def pool4 : Array CpInfo := pool [(1, .methodref 2 3), (0, .class_ 4), (0, .nameAndType 5 6), (0, u "java/lang/Object"), (0, u "<init>"), (0, u "()V"), (1, .class_ 10), (1, u "java/util/AbstractCollection"), (66, .class_ 78), (0, u "java/util/Collection")] 81

def k4c0 : Code := { maxStack := 1, maxLocals := 1, code := jdk_22_method_1_code, exceptionTable := #[], attributes := #[] }
def k4m0 : Method := { name := "<init>", desc := "()V", sig := { parameters := [], returnType := none }, accessFlags := 4, code := some k4c0 }
/-- java/util/AbstractCollection -/
def k4 : Class := { plain "java/util/AbstractCollection" (some 0) with
  accessFlags := 1057
  interfaces := #[3]
  cf := some (fileOf pool4 8 #[] #[{ accessFlags := 4, nameIndex := 5, descriptorIndex := 6, attributes := #[] }] 1057 2 #[77] #[])
  fields := #[]
  methods := #[k4m0]
  instanceTypes := #[]
  staticTypes := #[]
  resolved := Array.replicate 160 none
  statics := none }

def pool5 : Array CpInfo := pool [(8, .class_ 10), (1, u "java/util/SequencedCollection"), (15, .class_ 27), (0, u "java/lang/Object"), (0, .class_ 29), (0, u "java/util/Collection")] 27

/-- java/util/SequencedCollection -/
def k5 : Class := { plain "java/util/SequencedCollection" (some 0) with
  accessFlags := 1537
  interfaces := #[3]
  cf := some (fileOf pool5 8 #[] #[] 1537 26 #[28] #[])
  fields := #[]
  methods := #[]
  instanceTypes := #[]
  staticTypes := #[]
  resolved := Array.replicate 57 none
  statics := none }

def pool6 : Array CpInfo := pool [(8, .class_ 10), (1, u "java/util/List"), (7, u "()Z"), (12, u "(Ljava/lang/Object;)V"), (16, u "<init>"), (18, u "isEmpty"), (7, u "get"), (0, u "(I)Ljava/lang/Object;"), (2, u "size"), (0, u "()I"), (7, u "of"), (2, .class_ 93), (1, u "java/util/ImmutableCollections"), (2, .class_ 97), (0, u "java/util/ImmutableCollections$List12"), (0, .methodref 96 99), (0, .nameAndType 48 31), (0, .methodref 96 101), (0, .nameAndType 48 102), (0, u "(Ljava/lang/Object;Ljava/lang/Object;)V"), (0, .class_ 104), (0, u "java/lang/Object"), (3, u "([Ljava/lang/Object;)Ljava/util/List;"), (0, .methodref 91 110), (0, .nameAndType 111 108), (0, u "listFromArray"), (0, .methodref 91 113), (0, .nameAndType 114 115), (0, u "listCopy"), (0, u "(Ljava/util/Collection;)Ljava/util/List;"), (4, .class_ 121), (0, u "java/util/SequencedCollection"), (1, u "iterator"), (0, u "()Ljava/util/Iterator;"), (109, u "copyOf")] 16

def k6m0 : Method := { name := "size", desc := "()I", sig := { parameters := [], returnType := some .int }, accessFlags := 1025, code := none }
def k6m1 : Method := { name := "isEmpty", desc := "()Z", sig := { parameters := [], returnType := some .boolean }, accessFlags := 1025, code := none }
def k6m2 : Method := { name := "iterator", desc := "()Ljava/util/Iterator;", sig := { parameters := [], returnType := some (.object "java/util/Iterator") }, accessFlags := 1025, code := none }
def k6m3 : Method := { name := "get", desc := "(I)Ljava/lang/Object;", sig := { parameters := [.int], returnType := some (.object "java/lang/Object") }, accessFlags := 1025, code := none }
def k6c4 : Code := { maxStack := 5, maxLocals := 2, code := jdk_40_method_47_code, exceptionTable := #[], attributes := #[] }
def k6m4 : Method := { name := "of", desc := "([Ljava/lang/Object;)Ljava/util/List;", sig := { parameters := [(.array (.object "java/lang/Object"))], returnType := some (.object "java/util/List") }, accessFlags := 137, code := some k6c4 }
def k6c5 : Code := { maxStack := 1, maxLocals := 1, code := jdk_40_method_48_code, exceptionTable := #[], attributes := #[] }
def k6m5 : Method := { name := "copyOf", desc := "(Ljava/util/Collection;)Ljava/util/List;", sig := { parameters := [(.object "java/util/Collection")], returnType := some (.object "java/util/List") }, accessFlags := 9, code := some k6c5 }
/-- java/util/List -/
def k6 : Class := { plain "java/util/List" (some 0) with
  accessFlags := 1537
  interfaces := #[5]
  cf := some (fileOf pool6 8 #[] #[{ accessFlags := 1025, nameIndex := 79, descriptorIndex := 80, attributes := #[] }, { accessFlags := 1025, nameIndex := 67, descriptorIndex := 18, attributes := #[] }, { accessFlags := 1025, nameIndex := 123, descriptorIndex := 124, attributes := #[] }, { accessFlags := 1025, nameIndex := 75, descriptorIndex := 76, attributes := #[] }, { accessFlags := 137, nameIndex := 88, descriptorIndex := 108, attributes := #[] }, { accessFlags := 9, nameIndex := 234, descriptorIndex := 115, attributes := #[] }] 1537 103 #[120] #[])
  fields := #[]
  methods := #[k6m0, k6m1, k6m2, k6m3, k6m4, k6m5]
  instanceTypes := #[]
  staticTypes := #[]
  resolved := Array.replicate 251 none
  statics := none }

def pool7 : Array CpInfo := pool [(1, .methodref 2 3), (0, .class_ 4), (0, .nameAndType 5 6), (0, u "java/util/AbstractCollection"), (0, u "<init>"), (0, u "()V"), (0, .fieldref 8 9), (0, .class_ 10), (0, .nameAndType 11 12), (0, u "java/util/AbstractList"), (0, u "modCount"), (0, u "I"), (64, .class_ 78), (0, u "java/util/AbstractList$Itr"), (3, .class_ 83), (0, u "java/util/AbstractList$ListItr"), (9, .class_ 94), (0, u "java/util/AbstractList$RandomAccessSubList"), (3, .class_ 99), (0, u "java/util/AbstractList$SubList"), (33, .class_ 134), (0, u "java/util/List"), (73, .class_ 209), (0, u "java/util/AbstractList$SubList$1"), (0, .class_ 211), (0, u "java/util/AbstractList$RandomAccessSpliterator")] 6

def k7c0 : Code := { maxStack := 2, maxLocals := 1, code := jdk_39_method_1_code, exceptionTable := #[], attributes := #[] }
def k7m0 : Method := { name := "<init>", desc := "()V", sig := { parameters := [], returnType := none }, accessFlags := 4, code := some k7c0 }
/-- java/util/AbstractList -/
def k7 : Class := { plain "java/util/AbstractList" (some 4) with
  accessFlags := 1057
  interfaces := #[6]
  cf := some (fileOf pool7 8 #[.nestMembers #[93, 98, 208, 210, 82, 77]] #[{ accessFlags := 4, nameIndex := 5, descriptorIndex := 6, attributes := #[] }] 1057 2 #[133] #[{ accessFlags := 132, nameIndex := 11, descriptorIndex := 12, attributes := #[] }])
  fields := #[{ name := "modCount", type := .int, accessFlags := 132, slot := 0, constantValue := 0 }]
  methods := #[k7m0]
  instanceTypes := #[.int]
  staticTypes := #[]
  resolved := Array.replicate 218 none
  statics := none }

def pool8 : Array CpInfo := pool [(1, .class_ 2), (0, u "java/util/RandomAccess"), (0, .class_ 4), (0, u "java/lang/Object")] 2

/-- java/util/RandomAccess -/
def k8 : Class := { plain "java/util/RandomAccess" (some 0) with
  accessFlags := 1537
  interfaces := #[]
  cf := some (fileOf pool8 1 #[] #[] 1537 3 #[] #[])
  fields := #[]
  methods := #[]
  instanceTypes := #[]
  staticTypes := #[]
  resolved := Array.replicate 7 none
  statics := none }

def pool9 : Array CpInfo := pool [(1, .class_ 2), (0, u "java/lang/Cloneable"), (0, .class_ 4), (0, u "java/lang/Object")] 2

/-- java/lang/Cloneable -/
def k9 : Class := { plain "java/lang/Cloneable" (some 0) with
  accessFlags := 1537
  interfaces := #[]
  cf := some (fileOf pool9 1 #[] #[] 1537 3 #[] #[])
  fields := #[]
  methods := #[]
  instanceTypes := #[]
  staticTypes := #[]
  resolved := Array.replicate 7 none
  statics := none }

def pool10 : Array CpInfo := pool [(1, .class_ 2), (0, u "java/io/Serializable"), (0, .class_ 4), (0, u "java/lang/Object")] 2

/-- java/io/Serializable -/
def k10 : Class := { plain "java/io/Serializable" (some 0) with
  accessFlags := 1537
  interfaces := #[]
  cf := some (fileOf pool10 1 #[] #[] 1537 3 #[] #[])
  fields := #[]
  methods := #[]
  instanceTypes := #[]
  staticTypes := #[]
  resolved := Array.replicate 7 none
  statics := none }

def pool11 : Array CpInfo := pool [(1, .methodref 2 3), (0, .class_ 4), (0, .nameAndType 5 6), (0, u "java/util/AbstractList"), (0, u "<init>"), (0, u "()V"), (0, .class_ 8), (0, u "java/lang/Object"), (0, .fieldref 10 11), (0, .class_ 12), (0, .nameAndType 13 14), (0, u "java/util/ArrayList"), (0, u "elementData"), (0, u "[Ljava/lang/Object;"), (2, u "EMPTY_ELEMENTDATA"), (21, .fieldref 10 40), (0, .nameAndType 41 14), (0, u "DEFAULTCAPACITY_EMPTY_ELEMENTDATA"), (4, u "toArray"), (0, u "()[Ljava/lang/Object;"), (0, .fieldref 10 49), (0, .nameAndType 50 51), (0, u "size"), (0, u "I"), (6, .class_ 60), (1, u "java/util/Arrays"), (0, u "copyOf"), (1, .fieldref 10 64), (0, .nameAndType 65 51), (0, u "modCount"), (0, .methodref 58 67), (0, .nameAndType 61 68), (0, u "([Ljava/lang/Object;I)[Ljava/lang/Object;"), (0, .methodref 10 70), (0, .nameAndType 71 72), (0, u "grow"), (0, u "(I)[Ljava/lang/Object;"), (6, .methodref 80 81), (0, .class_ 82), (0, .nameAndType 83 84), (0, u "java/lang/Math"), (0, u "max"), (0, u "(II)I"), (11, u "(Ljava/lang/Object;)Z"), (32, .methodref 10 130), (0, .nameAndType 71 47), (0, .methodref 10 132), (0, .nameAndType 133 134), (0, u "add"), (0, u "(Ljava/lang/Object;[Ljava/lang/Object;I)V"), (13, .class_ 149), (0, u "java/util/List"), (16, u "iterator"), (0, u "()Ljava/util/Iterator;"), (5, u "()Z"), (88, .class_ 263), (0, u "java/util/ArrayList$ListItr"), (3, .class_ 268), (0, u "java/util/ArrayList$Itr"), (0, .methodref 267 270), (0, .nameAndType 5 271), (0, u "(Ljava/util/ArrayList;)V"), (4, .class_ 277), (0, u "java/util/ArrayList$SubList"), (12, .class_ 291), (0, u "java/util/ArrayList$ArrayListSpliterator"), (37, .class_ 330), (0, u "java/util/RandomAccess"), (0, .class_ 332), (0, u "java/lang/Cloneable"), (0, .class_ 334), (0, u "java/io/Serializable"), (0, u "serialVersionUID"), (0, u "J"), (3, u "DEFAULT_CAPACITY"), (22, u "isEmpty"), (136, .class_ 501), (0, u "java/util/ArrayList$SubList$2"), (0, .class_ 503), (0, u "java/util/ArrayList$SubList$1")] 5

def k11c0 : Code := { maxStack := 2, maxLocals := 1, code := jdk_38_method_2_code, exceptionTable := #[], attributes := #[] }
def k11m0 : Method := { name := "<init>", desc := "()V", sig := { parameters := [], returnType := none }, accessFlags := 1, code := some k11c0 }
def k11c1 : Code := { maxStack := 4, maxLocals := 4, code := jdk_38_method_6_code, exceptionTable := #[], attributes := #[] }
def k11m1 : Method := { name := "grow", desc := "(I)[Ljava/lang/Object;", sig := { parameters := [.int], returnType := some (.array (.object "java/lang/Object")) }, accessFlags := 2, code := some k11c1 }
def k11c2 : Code := { maxStack := 3, maxLocals := 1, code := jdk_38_method_7_code, exceptionTable := #[], attributes := #[] }
def k11m2 : Method := { name := "grow", desc := "()[Ljava/lang/Object;", sig := { parameters := [], returnType := some (.array (.object "java/lang/Object")) }, accessFlags := 2, code := some k11c2 }
def k11c3 : Code := { maxStack := 1, maxLocals := 1, code := jdk_38_method_9_code, exceptionTable := #[], attributes := #[] }
def k11m3 : Method := { name := "isEmpty", desc := "()Z", sig := { parameters := [], returnType := some .boolean }, accessFlags := 1, code := some k11c3 }
def k11c4 : Code := { maxStack := 2, maxLocals := 1, code := jdk_38_method_16_code, exceptionTable := #[], attributes := #[] }
def k11m4 : Method := { name := "toArray", desc := "()[Ljava/lang/Object;", sig := { parameters := [], returnType := some (.array (.object "java/lang/Object")) }, accessFlags := 1, code := some k11c4 }
def k11c5 : Code := { maxStack := 3, maxLocals := 4, code := jdk_38_method_24_code, exceptionTable := #[], attributes := #[] }
def k11m5 : Method := { name := "add", desc := "(Ljava/lang/Object;[Ljava/lang/Object;I)V", sig := { parameters := [(.object "java/lang/Object"), (.array (.object "java/lang/Object")), .int], returnType := none }, accessFlags := 2, code := some k11c5 }
def k11c6 : Code := { maxStack := 4, maxLocals := 2, code := jdk_38_method_25_code, exceptionTable := #[], attributes := #[] }
def k11m6 : Method := { name := "add", desc := "(Ljava/lang/Object;)Z", sig := { parameters := [(.object "java/lang/Object")], returnType := some .boolean }, accessFlags := 1, code := some k11c6 }
def k11c7 : Code := { maxStack := 3, maxLocals := 1, code := jdk_38_method_55_code, exceptionTable := #[], attributes := #[] }
def k11m7 : Method := { name := "iterator", desc := "()Ljava/util/Iterator;", sig := { parameters := [], returnType := some (.object "java/util/Iterator") }, accessFlags := 1, code := some k11c7 }
/-- java/util/ArrayList -/
def k11 : Class := { plain "java/util/ArrayList" (some 7) with
  accessFlags := 33
  interfaces := #[6, 8, 9, 10]
  cf := some (fileOf pool11 10 #[.nestMembers #[290, 276, 500, 502, 262, 267]] #[{ accessFlags := 1, nameIndex := 5, descriptorIndex := 6, attributes := #[] }, { accessFlags := 2, nameIndex := 71, descriptorIndex := 72, attributes := #[] }, { accessFlags := 2, nameIndex := 71, descriptorIndex := 47, attributes := #[] }, { accessFlags := 1, nameIndex := 363, descriptorIndex := 173, attributes := #[] }, { accessFlags := 1, nameIndex := 46, descriptorIndex := 47, attributes := #[] }, { accessFlags := 2, nameIndex := 133, descriptorIndex := 134, attributes := #[] }, { accessFlags := 1, nameIndex := 133, descriptorIndex := 96, attributes := #[] }, { accessFlags := 1, nameIndex := 166, descriptorIndex := 167, attributes := #[] }] 33 2 #[148, 329, 331, 333] #[{ accessFlags := 26, nameIndex := 335, descriptorIndex := 336, attributes := #[] }, { accessFlags := 26, nameIndex := 340, descriptorIndex := 51, attributes := #[] }, { accessFlags := 26, nameIndex := 17, descriptorIndex := 14, attributes := #[] }, { accessFlags := 26, nameIndex := 41, descriptorIndex := 14, attributes := #[] }, { accessFlags := 128, nameIndex := 13, descriptorIndex := 14, attributes := #[] }, { accessFlags := 2, nameIndex := 50, descriptorIndex := 51, attributes := #[] }])
  fields := #[{ name := "serialVersionUID", type := .long, accessFlags := 26, slot := 0, constantValue := 0 }, { name := "DEFAULT_CAPACITY", type := .int, accessFlags := 26, slot := 1, constantValue := 0 }, { name := "EMPTY_ELEMENTDATA", type := (.array (.object "java/lang/Object")), accessFlags := 26, slot := 2, constantValue := 0 }, { name := "DEFAULTCAPACITY_EMPTY_ELEMENTDATA", type := (.array (.object "java/lang/Object")), accessFlags := 26, slot := 3, constantValue := 0 }, { name := "elementData", type := (.array (.object "java/lang/Object")), accessFlags := 128, slot := 1, constantValue := 0 }, { name := "size", type := .int, accessFlags := 2, slot := 2, constantValue := 0 }]
  methods := #[k11m0, k11m1, k11m2, k11m3, k11m4, k11m5, k11m6, k11m7]
  instanceTypes := #[.int, (.array (.object "java/lang/Object")), .int]
  staticTypes := #[.long, .int, (.array (.object "java/lang/Object")), (.array (.object "java/lang/Object"))]
  resolved := Array.replicate 509 none
  statics := some 0 }

def pool12 : Array CpInfo := pool [(1, .methodref 2 3), (0, .class_ 4), (0, .nameAndType 5 6), (0, u "java/lang/Object"), (0, u "<init>"), (0, u "()V"), (1, .class_ 10), (1, u "java/lang/Number"), (2, .class_ 14), (0, u "java/io/Serializable"), (0, u "serialVersionUID"), (0, u "J")] 20

def k12c0 : Code := { maxStack := 1, maxLocals := 1, code := jdk_18_method_1_code, exceptionTable := #[], attributes := #[] }
def k12m0 : Method := { name := "<init>", desc := "()V", sig := { parameters := [], returnType := none }, accessFlags := 1, code := some k12c0 }
/-- java/lang/Number -/
def k12 : Class := { plain "java/lang/Number" (some 0) with
  accessFlags := 1057
  interfaces := #[10]
  cf := some (fileOf pool12 8 #[] #[{ accessFlags := 1, nameIndex := 5, descriptorIndex := 6, attributes := #[] }] 1057 2 #[13] #[{ accessFlags := 26, nameIndex := 15, descriptorIndex := 16, attributes := #[] }])
  fields := #[{ name := "serialVersionUID", type := .long, accessFlags := 26, slot := 0, constantValue := 0 }]
  methods := #[k12m0]
  instanceTypes := #[]
  staticTypes := #[.long]
  resolved := Array.replicate 37 none
  statics := none }

def pool13 : Array CpInfo := pool [(1, .class_ 2), (0, u "java/lang/Comparable"), (0, .class_ 4), (0, u "java/lang/Object")] 7

/-- java/lang/Comparable -/
def k13 : Class := { plain "java/lang/Comparable" (some 0) with
  accessFlags := 1537
  interfaces := #[]
  cf := some (fileOf pool13 1 #[] #[] 1537 3 #[] #[])
  fields := #[]
  methods := #[]
  instanceTypes := #[]
  staticTypes := #[]
  resolved := Array.replicate 12 none
  statics := none }

def pool14 : Array CpInfo := pool [(1, .class_ 2), (0, u "java/lang/constant/Constable"), (0, .class_ 4), (0, u "java/lang/Object")] 6

/-- java/lang/constant/Constable -/
def k14 : Class := { plain "java/lang/constant/Constable" (some 0) with
  accessFlags := 1537
  interfaces := #[]
  cf := some (fileOf pool14 1 #[] #[] 1537 3 #[] #[])
  fields := #[]
  methods := #[]
  instanceTypes := #[]
  staticTypes := #[]
  resolved := Array.replicate 11 none
  statics := none }

def pool15 : Array CpInfo := pool [(1, .class_ 2), (0, u "java/lang/constant/ConstantDesc"), (0, .class_ 4), (0, u "java/lang/Object")] 32

/-- java/lang/constant/ConstantDesc -/
def k15 : Class := { plain "java/lang/constant/ConstantDesc" (some 0) with
  accessFlags := 1537
  interfaces := #[]
  cf := some (fileOf pool15 1 #[] #[] 1537 3 #[] #[])
  fields := #[]
  methods := #[]
  instanceTypes := #[]
  staticTypes := #[]
  resolved := Array.replicate 37 none
  statics := none }

def pool16 : Array CpInfo := pool [(1, .class_ 2), (0, u "java/lang/Double"), (17, u "<init>"), (84, .methodref 1 106), (0, .nameAndType 20 107), (0, u "(D)V"), (5, .methodref 114 115), (0, .class_ 116), (0, .nameAndType 20 117), (0, u "java/lang/Number"), (0, u "()V"), (0, .fieldref 1 119), (0, .nameAndType 120 121), (0, u "value"), (0, u "D"), (51, u "TYPE"), (0, u "Ljava/lang/Class;"), (0, .class_ 176), (0, u "java/lang/Comparable"), (0, .class_ 178), (0, u "java/lang/constant/Constable"), (0, .class_ 180), (0, u "java/lang/constant/ConstantDesc"), (0, u "POSITIVE_INFINITY"), (3, u "NEGATIVE_INFINITY"), (2, u "NaN"), (2, u "MAX_VALUE"), (0, u "MIN_NORMAL"), (0, u "MIN_VALUE"), (2, u "SIZE"), (0, u "I"), (1, u "PRECISION"), (1, u "MAX_EXPONENT"), (1, u "MIN_EXPONENT"), (1, u "BYTES"), (3, u "serialVersionUID"), (0, u "J"), (14, u "valueOf"), (5, u "(D)Ljava/lang/Double;"), (23, u "doubleValue"), (0, u "()D")] 33

def k16c0 : Code := { maxStack := 4, maxLocals := 2, code := jdk_117_method_4_code, exceptionTable := #[], attributes := #[] }
def k16m0 : Method := { name := "valueOf", desc := "(D)Ljava/lang/Double;", sig := { parameters := [.double], returnType := some (.object "java/lang/Double") }, accessFlags := 9, code := some k16c0 }
def k16c1 : Code := { maxStack := 3, maxLocals := 3, code := jdk_117_method_9_code, exceptionTable := #[], attributes := #[] }
def k16m1 : Method := { name := "<init>", desc := "(D)V", sig := { parameters := [.double], returnType := none }, accessFlags := 1, code := some k16c1 }
def k16c2 : Code := { maxStack := 2, maxLocals := 1, code := jdk_117_method_19_code, exceptionTable := #[], attributes := #[] }
def k16m2 : Method := { name := "doubleValue", desc := "()D", sig := { parameters := [], returnType := some .double }, accessFlags := 1, code := some k16c2 }
/-- java/lang/Double -/
def k16 : Class := { plain "java/lang/Double" (some 12) with
  accessFlags := 49
  interfaces := #[13, 14, 15]
  cf := some (fileOf pool16 1 #[] #[{ accessFlags := 9, nameIndex := 225, descriptorIndex := 231, attributes := #[] }, { accessFlags := 1, nameIndex := 20, descriptorIndex := 107, attributes := #[] }, { accessFlags := 1, nameIndex := 255, descriptorIndex := 256, attributes := #[] }] 49 114 #[175, 177, 179] #[{ accessFlags := 25, nameIndex := 181, descriptorIndex := 121, attributes := #[] }, { accessFlags := 25, nameIndex := 185, descriptorIndex := 121, attributes := #[] }, { accessFlags := 25, nameIndex := 188, descriptorIndex := 121, attributes := #[] }, { accessFlags := 25, nameIndex := 191, descriptorIndex := 121, attributes := #[] }, { accessFlags := 25, nameIndex := 192, descriptorIndex := 121, attributes := #[] }, { accessFlags := 25, nameIndex := 193, descriptorIndex := 121, attributes := #[] }, { accessFlags := 25, nameIndex := 196, descriptorIndex := 197, attributes := #[] }, { accessFlags := 25, nameIndex := 199, descriptorIndex := 197, attributes := #[] }, { accessFlags := 25, nameIndex := 201, descriptorIndex := 197, attributes := #[] }, { accessFlags := 25, nameIndex := 203, descriptorIndex := 197, attributes := #[] }, { accessFlags := 25, nameIndex := 205, descriptorIndex := 197, attributes := #[] }, { accessFlags := 25, nameIndex := 173, descriptorIndex := 174, attributes := #[] }, { accessFlags := 18, nameIndex := 120, descriptorIndex := 121, attributes := #[] }, { accessFlags := 26, nameIndex := 209, descriptorIndex := 210, attributes := #[] }])
  fields := #[{ name := "POSITIVE_INFINITY", type := .double, accessFlags := 25, slot := 0, constantValue := 0 }, { name := "NEGATIVE_INFINITY", type := .double, accessFlags := 25, slot := 1, constantValue := 0 }, { name := "NaN", type := .double, accessFlags := 25, slot := 2, constantValue := 0 }, { name := "MAX_VALUE", type := .double, accessFlags := 25, slot := 3, constantValue := 0 }, { name := "MIN_NORMAL", type := .double, accessFlags := 25, slot := 4, constantValue := 0 }, { name := "MIN_VALUE", type := .double, accessFlags := 25, slot := 5, constantValue := 0 }, { name := "SIZE", type := .int, accessFlags := 25, slot := 6, constantValue := 0 }, { name := "PRECISION", type := .int, accessFlags := 25, slot := 7, constantValue := 0 }, { name := "MAX_EXPONENT", type := .int, accessFlags := 25, slot := 8, constantValue := 0 }, { name := "MIN_EXPONENT", type := .int, accessFlags := 25, slot := 9, constantValue := 0 }, { name := "BYTES", type := .int, accessFlags := 25, slot := 10, constantValue := 0 }, { name := "TYPE", type := (.object "java/lang/Class"), accessFlags := 25, slot := 11, constantValue := 0 }, { name := "value", type := .double, accessFlags := 18, slot := 0, constantValue := 0 }, { name := "serialVersionUID", type := .long, accessFlags := 26, slot := 12, constantValue := 0 }]
  methods := #[k16m0, k16m1, k16m2]
  instanceTypes := #[.double]
  staticTypes := #[.double, .double, .double, .double, .double, .double, .int, .int, .int, .int, .int, (.object "java/lang/Class"), .long]
  resolved := Array.replicate 290 none
  statics := none }

def pool17 : Array CpInfo := pool [(1, .class_ 2), (0, u "java/lang/Math"), (1, .class_ 6), (1, u "java/lang/Object"), (0, u "<init>"), (0, u "()V"), (89, .class_ 100), (1, u "java/lang/Math$RandomNumberGeneratorHolder"), (71, u "negativeZeroFloatBits"), (0, u "J"), (2, u "negativeZeroDoubleBits"), (21, u "max"), (2, u "min"), (43, u "$assertionsDisabled"), (0, u "Z"), (88, u "(II)I"), (2, u "twoToTheDoubleScaleDown"), (0, u "D"), (4, u "twoToTheDoubleScaleUp"), (9, u "E"), (3, u "PI"), (2, u "TAU"), (2, u "DEGREES_TO_RADIANS"), (0, u "RADIANS_TO_DEGREES")] 94

def k17m0 : Method := { name := "<init>", desc := "()V", sig := { parameters := [], returnType := none }, accessFlags := 2, code := none }
def k17c1 : Code := { maxStack := 2, maxLocals := 2, code := jdk_29_method_65_code, exceptionTable := #[], attributes := #[] }
def k17m1 : Method := { name := "max", desc := "(II)I", sig := { parameters := [.int, .int], returnType := some .int }, accessFlags := 9, code := some k17c1 }
def k17c2 : Code := { maxStack := 2, maxLocals := 2, code := jdk_29_method_69_code, exceptionTable := #[], attributes := #[] }
def k17m2 : Method := { name := "min", desc := "(II)I", sig := { parameters := [.int, .int], returnType := some .int }, accessFlags := 9, code := some k17c2 }
/-- java/lang/Math -/
def k17 : Class := { plain "java/lang/Math" (some 0) with
  accessFlags := 49
  interfaces := #[]
  cf := some (fileOf pool17 1 #[.nestMembers #[98]] #[{ accessFlags := 2, nameIndex := 7, descriptorIndex := 8, attributes := #[] }, { accessFlags := 9, nameIndex := 198, descriptorIndex := 335, attributes := #[] }, { accessFlags := 9, nameIndex := 201, descriptorIndex := 335, attributes := #[] }] 49 4 #[] #[{ accessFlags := 25, nameIndex := 354, descriptorIndex := 339, attributes := #[] }, { accessFlags := 25, nameIndex := 358, descriptorIndex := 339, attributes := #[] }, { accessFlags := 25, nameIndex := 361, descriptorIndex := 339, attributes := #[] }, { accessFlags := 26, nameIndex := 364, descriptorIndex := 339, attributes := #[] }, { accessFlags := 26, nameIndex := 365, descriptorIndex := 339, attributes := #[] }, { accessFlags := 26, nameIndex := 172, descriptorIndex := 173, attributes := #[] }, { accessFlags := 26, nameIndex := 176, descriptorIndex := 173, attributes := #[] }, { accessFlags := 8, nameIndex := 344, descriptorIndex := 339, attributes := #[] }, { accessFlags := 8, nameIndex := 338, descriptorIndex := 339, attributes := #[] }, { accessFlags := 4120, nameIndex := 245, descriptorIndex := 246, attributes := #[] }])
  fields := #[{ name := "E", type := .double, accessFlags := 25, slot := 0, constantValue := 0 }, { name := "PI", type := .double, accessFlags := 25, slot := 1, constantValue := 0 }, { name := "TAU", type := .double, accessFlags := 25, slot := 2, constantValue := 0 }, { name := "DEGREES_TO_RADIANS", type := .double, accessFlags := 26, slot := 3, constantValue := 0 }, { name := "RADIANS_TO_DEGREES", type := .double, accessFlags := 26, slot := 4, constantValue := 0 }, { name := "negativeZeroFloatBits", type := .long, accessFlags := 26, slot := 5, constantValue := 0 }, { name := "negativeZeroDoubleBits", type := .long, accessFlags := 26, slot := 6, constantValue := 0 }, { name := "twoToTheDoubleScaleUp", type := .double, accessFlags := 8, slot := 7, constantValue := 0 }, { name := "twoToTheDoubleScaleDown", type := .double, accessFlags := 8, slot := 8, constantValue := 0 }, { name := "$assertionsDisabled", type := .boolean, accessFlags := 4120, slot := 9, constantValue := 0 }]
  methods := #[k17m0, k17m1, k17m2]
  instanceTypes := #[]
  staticTypes := #[.double, .double, .double, .double, .double, .long, .long, .double, .double, .boolean]
  resolved := Array.replicate 460 none
  statics := none }

def pool18 : Array CpInfo := pool [(1, .methodref 2 3), (0, .class_ 4), (0, .nameAndType 5 6), (0, u "java/lang/Object"), (0, u "<init>"), (0, u "()V"), (0, .class_ 8), (0, u "java/lang/Record")] 13

def k18c0 : Code := { maxStack := 1, maxLocals := 1, code := jdk_30_method_1_code, exceptionTable := #[], attributes := #[] }
def k18m0 : Method := { name := "<init>", desc := "()V", sig := { parameters := [], returnType := none }, accessFlags := 4, code := some k18c0 }
/-- java/lang/Record -/
def k18 : Class := { plain "java/lang/Record" (some 0) with
  accessFlags := 1057
  interfaces := #[]
  cf := some (fileOf pool18 7 #[] #[{ accessFlags := 4, nameIndex := 5, descriptorIndex := 6, attributes := #[] }] 1057 2 #[] #[])
  fields := #[]
  methods := #[k18m0]
  instanceTypes := #[]
  staticTypes := #[]
  resolved := Array.replicate 22 none
  statics := none }

def pool19 : Array CpInfo := pool [(1, .methodref 2 3), (0, .class_ 4), (0, .nameAndType 5 6), (0, u "java/lang/Record"), (0, u "<init>"), (0, u "()V"), (0, .interfaceMethodref 8 9), (0, .class_ 10), (0, .nameAndType 11 12), (0, u "java/util/List"), (0, u "isEmpty"), (0, u "()Z"), (0, .methodref 14 15), (0, .class_ 16), (0, .nameAndType 17 12), (0, u "com/example/inferlink/inferlink/LinkStatus"), (0, u "hasSuccess"), (19, .interfaceMethodref 8 38), (0, .nameAndType 39 40), (0, u "iterator"), (0, u "()Ljava/util/Iterator;"), (0, .interfaceMethodref 42 43), (0, .class_ 44), (0, .nameAndType 45 12), (0, u "java/util/Iterator"), (0, u "hasNext"), (0, .interfaceMethodref 42 47), (0, .nameAndType 48 49), (0, u "next"), (0, u "()Ljava/lang/Object;"), (0, .class_ 51), (0, u "java/lang/Double"), (0, .methodref 50 53), (0, .nameAndType 54 55), (0, u "doubleValue"), (0, u "()D"), (3, .interfaceMethodref 8 60), (0, .nameAndType 61 62), (0, u "copyOf"), (0, u "(Ljava/util/Collection;)Ljava/util/List;"), (0, .fieldref 64 65), (0, .class_ 66), (0, .nameAndType 67 68), (0, u "com/example/inferlink/inferlink/LinkDelay"), (0, u "link"), (0, u "Lcom/example/inferlink/inferlink/Link;"), (0, .fieldref 64 70), (0, .nameAndType 71 72), (0, u "status"), (0, u "Lcom/example/inferlink/inferlink/LinkStatus;"), (0, .fieldref 64 74), (0, .nameAndType 75 76), (0, u "probabilities"), (0, u "Ljava/util/List;"), (11, .interfaceMethodref 8 89), (0, .nameAndType 90 91), (0, u "size"), (0, u "()I"), (0, .interfaceMethodref 8 93), (0, .nameAndType 94 95), (0, u "get"), (0, u "(I)Ljava/lang/Object;"), (14, u "(Lcom/example/inferlink/inferlink/Link;Lcom/example/inferlink/inferlink/LinkStatus;Ljava/util/List;)V"), (5, u "lost")] 39

def k19c0 : Code := { maxStack := 4, maxLocals := 7, code := prog_20_method_1_code, exceptionTable := #[], attributes := #[] }
def k19m0 : Method := { name := "<init>", desc := "(Lcom/example/inferlink/inferlink/Link;Lcom/example/inferlink/inferlink/LinkStatus;Ljava/util/List;)V", sig := { parameters := [(.object "com/example/inferlink/inferlink/Link"), (.object "com/example/inferlink/inferlink/LinkStatus"), (.object "java/util/List")], returnType := none }, accessFlags := 1, code := some k19c0 }
def k19c1 : Code := { maxStack := 3, maxLocals := 1, code := prog_20_method_2_code, exceptionTable := #[], attributes := #[] }
def k19m1 : Method := { name := "lost", desc := "()D", sig := { parameters := [], returnType := some .double }, accessFlags := 1, code := some k19c1 }
/-- com/example/inferlink/inferlink/LinkDelay -/
def k19 : Class := { plain "com/example/inferlink/inferlink/LinkDelay" (some 18) with
  accessFlags := 49
  interfaces := #[]
  cf := some (fileOf pool19 64 #[] #[{ accessFlags := 1, nameIndex := 5, descriptorIndex := 110, attributes := #[] }, { accessFlags := 1, nameIndex := 116, descriptorIndex := 55, attributes := #[] }] 49 2 #[] #[{ accessFlags := 18, nameIndex := 67, descriptorIndex := 68, attributes := #[] }, { accessFlags := 18, nameIndex := 71, descriptorIndex := 72, attributes := #[] }, { accessFlags := 18, nameIndex := 75, descriptorIndex := 76, attributes := #[] }])
  fields := #[{ name := "link", type := (.object "com/example/inferlink/inferlink/Link"), accessFlags := 18, slot := 0, constantValue := 0 }, { name := "status", type := (.object "com/example/inferlink/inferlink/LinkStatus"), accessFlags := 18, slot := 1, constantValue := 0 }, { name := "probabilities", type := (.object "java/util/List"), accessFlags := 18, slot := 2, constantValue := 0 }]
  methods := #[k19m0, k19m1]
  instanceTypes := #[(.object "com/example/inferlink/inferlink/Link"), (.object "com/example/inferlink/inferlink/LinkStatus"), (.object "java/util/List")]
  staticTypes := #[]
  resolved := Array.replicate 156 none
  statics := none }

def pool20 : Array CpInfo := pool [(1, .methodref 2 3), (0, .class_ 4), (0, .nameAndType 5 6), (0, u "java/lang/Record"), (0, u "<init>"), (0, u "()V"), (0, .fieldref 8 9), (0, .class_ 10), (0, .nameAndType 11 12), (0, u "com/example/inferlink/inferlink/Link"), (0, u "child"), (0, u "Ljava/lang/String;"), (0, .fieldref 8 14), (0, .nameAndType 15 12), (0, u "parent"), (12, u "(Ljava/lang/String;Ljava/lang/String;)V")] 27

def k20c0 : Code := { maxStack := 2, maxLocals := 3, code := prog_19_method_1_code, exceptionTable := #[], attributes := #[] }
def k20m0 : Method := { name := "<init>", desc := "(Ljava/lang/String;Ljava/lang/String;)V", sig := { parameters := [(.object "java/lang/String"), (.object "java/lang/String")], returnType := none }, accessFlags := 1, code := some k20c0 }
/-- com/example/inferlink/inferlink/Link -/
def k20 : Class := { plain "com/example/inferlink/inferlink/Link" (some 18) with
  accessFlags := 49
  interfaces := #[]
  cf := some (fileOf pool20 8 #[] #[{ accessFlags := 1, nameIndex := 5, descriptorIndex := 28, attributes := #[] }] 49 2 #[] #[{ accessFlags := 18, nameIndex := 11, descriptorIndex := 12, attributes := #[] }, { accessFlags := 18, nameIndex := 15, descriptorIndex := 12, attributes := #[] }])
  fields := #[{ name := "child", type := (.object "java/lang/String"), accessFlags := 18, slot := 0, constantValue := 0 }, { name := "parent", type := (.object "java/lang/String"), accessFlags := 18, slot := 1, constantValue := 0 }]
  methods := #[k20m0]
  instanceTypes := #[(.object "java/lang/String"), (.object "java/lang/String")]
  staticTypes := #[]
  resolved := Array.replicate 56 none
  statics := none }

def pool21 : Array CpInfo := pool [(2, .class_ 4), (1, u "java/lang/CharSequence"), (42, .class_ 48), (0, u "java/lang/CharSequence$1CodePointIterator"), (10, .class_ 60), (0, u "java/lang/CharSequence$1CharIterator"), (5, .class_ 67), (0, u "java/lang/Object")] 63

/-- java/lang/CharSequence -/
def k21 : Class := { plain "java/lang/CharSequence" (some 0) with
  accessFlags := 1537
  interfaces := #[]
  cf := some (fileOf pool21 2 #[.nestMembers #[47, 59]] #[] 1537 66 #[] #[])
  fields := #[]
  methods := #[]
  instanceTypes := #[]
  staticTypes := #[]
  resolved := Array.replicate 131 none
  statics := none }

def pool22 : Array CpInfo := pool [(2, .class_ 4), (1, u "java/lang/Object"), (0, u "<init>"), (0, u "()V"), (3, .class_ 12), (1, u "java/lang/String"), (0, u "value"), (0, u "[B"), (2, u "coder"), (0, u "B"), (2, u "hash"), (0, u "I"), (2, u "hashIsZero"), (0, u "Z"), (13, u "COMPACT_STRINGS"), (534, .class_ 576), (0, u "java/lang/CharSequence"), (22, u "CASE_INSENSITIVE_ORDER"), (0, u "Ljava/util/Comparator;"), (500, u "serialPersistentFields"), (0, u "[Ljava/io/ObjectStreamField;"), (0, .class_ 1104), (0, u "java/lang/String$CaseInsensitiveComparator"), (1, .class_ 1107), (0, u "java/io/Serializable"), (0, .class_ 1109), (0, u "java/lang/Comparable"), (0, .class_ 1111), (0, u "java/lang/constant/Constable"), (0, .class_ 1113), (0, u "java/lang/constant/ConstantDesc"), (2, u "serialVersionUID"), (0, u "J"), (3, u "REPL"), (0, u "C"), (2, u "LATIN1"), (1, u "UTF16")] 323

def k22m0 : Method := { name := "<init>", desc := "()V", sig := { parameters := [], returnType := none }, accessFlags := 1, code := none }
/-- java/lang/String -/
def k22 : Class := { plain "java/lang/String" (some 0) with
  accessFlags := 49
  interfaces := #[10, 13, 21, 14, 15]
  cf := some (fileOf pool22 10 #[.nestMembers #[1103]] #[{ accessFlags := 1, nameIndex := 5, descriptorIndex := 6, attributes := #[] }] 49 2 #[1106, 1108, 575, 1110, 1112] #[{ accessFlags := 18, nameIndex := 13, descriptorIndex := 14, attributes := #[] }, { accessFlags := 18, nameIndex := 17, descriptorIndex := 18, attributes := #[] }, { accessFlags := 2, nameIndex := 21, descriptorIndex := 22, attributes := #[] }, { accessFlags := 2, nameIndex := 25, descriptorIndex := 26, attributes := #[] }, { accessFlags := 26, nameIndex := 1116, descriptorIndex := 1117, attributes := #[] }, { accessFlags := 24, nameIndex := 40, descriptorIndex := 26, attributes := #[] }, { accessFlags := 26, nameIndex := 1101, descriptorIndex := 1102, attributes := #[] }, { accessFlags := 26, nameIndex := 1121, descriptorIndex := 1122, attributes := #[] }, { accessFlags := 25, nameIndex := 599, descriptorIndex := 600, attributes := #[] }, { accessFlags := 24, nameIndex := 1125, descriptorIndex := 18, attributes := #[] }, { accessFlags := 24, nameIndex := 1127, descriptorIndex := 18, attributes := #[] }])
  fields := #[{ name := "value", type := (.array .byte), accessFlags := 18, slot := 0, constantValue := 0 }, { name := "coder", type := .byte, accessFlags := 18, slot := 1, constantValue := 0 }, { name := "hash", type := .int, accessFlags := 2, slot := 2, constantValue := 0 }, { name := "hashIsZero", type := .boolean, accessFlags := 2, slot := 3, constantValue := 0 }, { name := "serialVersionUID", type := .long, accessFlags := 26, slot := 0, constantValue := 0 }, { name := "COMPACT_STRINGS", type := .boolean, accessFlags := 24, slot := 1, constantValue := 0 }, { name := "serialPersistentFields", type := (.array (.object "java/io/ObjectStreamField")), accessFlags := 26, slot := 2, constantValue := 0 }, { name := "REPL", type := .char, accessFlags := 26, slot := 3, constantValue := 0 }, { name := "CASE_INSENSITIVE_ORDER", type := (.object "java/util/Comparator"), accessFlags := 25, slot := 4, constantValue := 0 }, { name := "LATIN1", type := .byte, accessFlags := 24, slot := 5, constantValue := 0 }, { name := "UTF16", type := .byte, accessFlags := 24, slot := 6, constantValue := 0 }]
  methods := #[k22m0]
  instanceTypes := #[(.array .byte), .byte, .int, .boolean]
  staticTypes := #[.long, .boolean, (.array (.object "java/io/ObjectStreamField")), .char, (.object "java/util/Comparator"), .byte, .byte]
  resolved := Array.replicate 1451 none
  statics := none }

def pool23 : Array CpInfo := pool [(2, .class_ 4), (1, u "java/lang/Enum"), (0, u "name"), (0, u "Ljava/lang/String;"), (2, u "ordinal"), (0, u "I"), (1, .class_ 14), (1, u "java/lang/Object"), (4, u "hash"), (86, .class_ 108), (1, u "java/lang/Enum$EnumDesc"), (2, .class_ 112), (0, u "java/lang/constant/Constable"), (0, .class_ 114), (0, u "java/lang/Comparable"), (0, .class_ 116), (0, u "java/io/Serializable")] 87

/-- java/lang/Enum -/
def k23 : Class := { plain "java/lang/Enum" (some 0) with
  accessFlags := 1057
  interfaces := #[14, 13, 10]
  cf := some (fileOf pool23 2 #[.nestMembers #[106]] #[] 1057 12 #[111, 113, 115] #[{ accessFlags := 18, nameIndex := 5, descriptorIndex := 6, attributes := #[] }, { accessFlags := 18, nameIndex := 9, descriptorIndex := 10, attributes := #[] }, { accessFlags := 2, nameIndex := 19, descriptorIndex := 10, attributes := #[] }])
  fields := #[{ name := "name", type := (.object "java/lang/String"), accessFlags := 18, slot := 0, constantValue := 0 }, { name := "ordinal", type := .int, accessFlags := 18, slot := 1, constantValue := 0 }, { name := "hash", type := .int, accessFlags := 2, slot := 2, constantValue := 0 }]
  methods := #[]
  instanceTypes := #[(.object "java/lang/String"), .int, .int]
  staticTypes := #[]
  resolved := Array.replicate 204 none
  statics := none }

def pool24 : Array CpInfo := pool [(1, .class_ 2), (0, u "com/example/inferlink/inferlink/LinkStatus"), (2, u "OK"), (0, u "Lcom/example/inferlink/inferlink/LinkStatus;"), (2, u "NO_LOSS_SEEN"), (2, u "NOT_REACHED"), (2, u "COMPOSITE"), (2, u "COMPOSITE_WITH_PARENT"), (2, u "ESTIMATE_ABOVE_ONE"), (2, u "NOT_IDENTIFIABLE"), (2, u "NOT_CONVERGED"), (2, u "$VALUES"), (0, u "[Lcom/example/inferlink/inferlink/LinkStatus;"), (6, .class_ 40), (1, u "java/lang/Enum"), (8, u "label"), (0, u "Ljava/lang/String;"), (0, .fieldref 1 52), (0, .nameAndType 53 54), (0, u "hasSuccess"), (0, u "Z"), (2, u "supported"), (39, u "()Z")] 5

def k24c0 : Code := { maxStack := 1, maxLocals := 1, code := prog_22_method_5_code, exceptionTable := #[], attributes := #[] }
def k24m0 : Method := { name := "hasSuccess", desc := "()Z", sig := { parameters := [], returnType := some .boolean }, accessFlags := 1, code := some k24c0 }
/-- com/example/inferlink/inferlink/LinkStatus -/
def k24 : Class := { plain "com/example/inferlink/inferlink/LinkStatus" (some 23) with
  accessFlags := 16433
  interfaces := #[]
  cf := some (fileOf pool24 1 #[] #[{ accessFlags := 1, nameIndex := 53, descriptorIndex := 97, attributes := #[] }] 16433 38 #[] #[{ accessFlags := 16409, nameIndex := 5, descriptorIndex := 6, attributes := #[] }, { accessFlags := 16409, nameIndex := 9, descriptorIndex := 6, attributes := #[] }, { accessFlags := 16409, nameIndex := 12, descriptorIndex := 6, attributes := #[] }, { accessFlags := 16409, nameIndex := 15, descriptorIndex := 6, attributes := #[] }, { accessFlags := 16409, nameIndex := 18, descriptorIndex := 6, attributes := #[] }, { accessFlags := 16409, nameIndex := 21, descriptorIndex := 6, attributes := #[] }, { accessFlags := 16409, nameIndex := 24, descriptorIndex := 6, attributes := #[] }, { accessFlags := 16409, nameIndex := 27, descriptorIndex := 6, attributes := #[] }, { accessFlags := 18, nameIndex := 49, descriptorIndex := 50, attributes := #[] }, { accessFlags := 18, nameIndex := 53, descriptorIndex := 54, attributes := #[] }, { accessFlags := 18, nameIndex := 57, descriptorIndex := 54, attributes := #[] }, { accessFlags := 4122, nameIndex := 30, descriptorIndex := 31, attributes := #[] }])
  fields := #[{ name := "OK", type := (.object "com/example/inferlink/inferlink/LinkStatus"), accessFlags := 16409, slot := 0, constantValue := 0 }, { name := "NO_LOSS_SEEN", type := (.object "com/example/inferlink/inferlink/LinkStatus"), accessFlags := 16409, slot := 1, constantValue := 0 }, { name := "NOT_REACHED", type := (.object "com/example/inferlink/inferlink/LinkStatus"), accessFlags := 16409, slot := 2, constantValue := 0 }, { name := "COMPOSITE", type := (.object "com/example/inferlink/inferlink/LinkStatus"), accessFlags := 16409, slot := 3, constantValue := 0 }, { name := "COMPOSITE_WITH_PARENT", type := (.object "com/example/inferlink/inferlink/LinkStatus"), accessFlags := 16409, slot := 4, constantValue := 0 }, { name := "ESTIMATE_ABOVE_ONE", type := (.object "com/example/inferlink/inferlink/LinkStatus"), accessFlags := 16409, slot := 5, constantValue := 0 }, { name := "NOT_IDENTIFIABLE", type := (.object "com/example/inferlink/inferlink/LinkStatus"), accessFlags := 16409, slot := 6, constantValue := 0 }, { name := "NOT_CONVERGED", type := (.object "com/example/inferlink/inferlink/LinkStatus"), accessFlags := 16409, slot := 7, constantValue := 0 }, { name := "label", type := (.object "java/lang/String"), accessFlags := 18, slot := 3, constantValue := 0 }, { name := "hasSuccess", type := .boolean, accessFlags := 18, slot := 4, constantValue := 0 }, { name := "supported", type := .boolean, accessFlags := 18, slot := 5, constantValue := 0 }, { name := "$VALUES", type := (.array (.object "com/example/inferlink/inferlink/LinkStatus")), accessFlags := 4122, slot := 8, constantValue := 0 }]
  methods := #[k24m0]
  instanceTypes := #[(.object "java/lang/String"), .int, .int, (.object "java/lang/String"), .boolean, .boolean]
  staticTypes := #[(.object "com/example/inferlink/inferlink/LinkStatus"), (.object "com/example/inferlink/inferlink/LinkStatus"), (.object "com/example/inferlink/inferlink/LinkStatus"), (.object "com/example/inferlink/inferlink/LinkStatus"), (.object "com/example/inferlink/inferlink/LinkStatus"), (.object "com/example/inferlink/inferlink/LinkStatus"), (.object "com/example/inferlink/inferlink/LinkStatus"), (.object "com/example/inferlink/inferlink/LinkStatus"), (.array (.object "com/example/inferlink/inferlink/LinkStatus"))]
  resolved := Array.replicate 103 none
  statics := some 1 }

def pool25 : Array CpInfo := pool [(16, .class_ 18), (1, u "java/util/Iterator"), (0, u "hasNext"), (0, u "()Z"), (2, u "next"), (0, u "()Ljava/lang/Object;"), (6, .class_ 32), (0, u "java/lang/Object")] 20

def k25m0 : Method := { name := "hasNext", desc := "()Z", sig := { parameters := [], returnType := some .boolean }, accessFlags := 1025, code := none }
def k25m1 : Method := { name := "next", desc := "()Ljava/lang/Object;", sig := { parameters := [], returnType := some (.object "java/lang/Object") }, accessFlags := 1025, code := none }
/-- java/util/Iterator -/
def k25 : Class := { plain "java/util/Iterator" (some 0) with
  accessFlags := 1537
  interfaces := #[]
  cf := some (fileOf pool25 16 #[] #[{ accessFlags := 1025, nameIndex := 19, descriptorIndex := 20, attributes := #[] }, { accessFlags := 1025, nameIndex := 23, descriptorIndex := 24, attributes := #[] }] 1537 31 #[] #[])
  fields := #[]
  methods := #[k25m0, k25m1]
  instanceTypes := #[]
  staticTypes := #[]
  resolved := Array.replicate 53 none
  statics := none }

def pool26 : Array CpInfo := pool [(1, .fieldref 2 3), (0, .class_ 4), (0, .nameAndType 5 6), (0, u "java/util/ArrayList$Itr"), (0, u "this$0"), (0, u "Ljava/util/ArrayList;"), (0, .methodref 8 9), (0, .class_ 10), (0, .nameAndType 11 12), (0, u "java/lang/Object"), (0, u "<init>"), (0, u "()V"), (0, .fieldref 2 14), (0, .nameAndType 15 16), (0, u "lastRet"), (0, u "I"), (0, .fieldref 18 19), (0, .class_ 20), (0, .nameAndType 21 16), (0, u "java/util/ArrayList"), (0, u "modCount"), (0, .fieldref 2 23), (0, .nameAndType 24 16), (0, u "expectedModCount"), (0, .fieldref 2 26), (0, .nameAndType 27 16), (0, u "cursor"), (0, .fieldref 18 29), (0, .nameAndType 30 16), (0, u "size"), (0, .methodref 2 32), (0, .nameAndType 33 12), (0, u "checkForComodification"), (3, .fieldref 18 38), (0, .nameAndType 39 40), (0, u "elementData"), (0, u "[Ljava/lang/Object;"), (28, .class_ 70), (0, u "java/util/Iterator"), (0, u "(Ljava/util/ArrayList;)V"), (8, u "hasNext"), (0, u "()Z"), (1, u "next"), (0, u "()Ljava/lang/Object;")] 19

def k26c0 : Code := { maxStack := 2, maxLocals := 2, code := jdk_49_method_1_code, exceptionTable := #[], attributes := #[] }
def k26m0 : Method := { name := "<init>", desc := "(Ljava/util/ArrayList;)V", sig := { parameters := [(.object "java/util/ArrayList")], returnType := none }, accessFlags := 0, code := some k26c0 }
def k26c1 : Code := { maxStack := 2, maxLocals := 1, code := jdk_49_method_2_code, exceptionTable := #[], attributes := #[] }
def k26m1 : Method := { name := "hasNext", desc := "()Z", sig := { parameters := [], returnType := some .boolean }, accessFlags := 1, code := some k26c1 }
def k26c2 : Code := { maxStack := 4, maxLocals := 3, code := jdk_49_method_3_code, exceptionTable := #[], attributes := #[] }
def k26m2 : Method := { name := "next", desc := "()Ljava/lang/Object;", sig := { parameters := [], returnType := some (.object "java/lang/Object") }, accessFlags := 1, code := some k26c2 }
def k26c3 : Code := { maxStack := 2, maxLocals := 1, code := jdk_49_method_6_code, exceptionTable := #[], attributes := #[] }
def k26m3 : Method := { name := "checkForComodification", desc := "()V", sig := { parameters := [], returnType := none }, accessFlags := 16, code := some k26c3 }
/-- java/util/ArrayList$Itr -/
def k26 : Class := { plain "java/util/ArrayList$Itr" (some 0) with
  accessFlags := 32
  interfaces := #[25]
  cf := some (fileOf pool26 2 #[.nestHost 18] #[{ accessFlags := 0, nameIndex := 11, descriptorIndex := 71, attributes := #[] }, { accessFlags := 1, nameIndex := 80, descriptorIndex := 81, attributes := #[] }, { accessFlags := 1, nameIndex := 83, descriptorIndex := 84, attributes := #[] }, { accessFlags := 16, nameIndex := 33, descriptorIndex := 12, attributes := #[] }] 32 8 #[69] #[{ accessFlags := 0, nameIndex := 27, descriptorIndex := 16, attributes := #[] }, { accessFlags := 0, nameIndex := 15, descriptorIndex := 16, attributes := #[] }, { accessFlags := 0, nameIndex := 24, descriptorIndex := 16, attributes := #[] }, { accessFlags := 4112, nameIndex := 5, descriptorIndex := 6, attributes := #[] }])
  fields := #[{ name := "cursor", type := .int, accessFlags := 0, slot := 0, constantValue := 0 }, { name := "lastRet", type := .int, accessFlags := 0, slot := 1, constantValue := 0 }, { name := "expectedModCount", type := .int, accessFlags := 0, slot := 2, constantValue := 0 }, { name := "this$0", type := (.object "java/util/ArrayList"), accessFlags := 4112, slot := 3, constantValue := 0 }]
  methods := #[k26m0, k26m1, k26m2, k26m3]
  instanceTypes := #[.int, .int, .int, (.object "java/util/ArrayList")]
  staticTypes := #[]
  resolved := Array.replicate 104 none
  statics := none }

def pool27 : Array CpInfo := pool [(2, .class_ 4), (1, u "java/lang/Object"), (0, u "<init>"), (0, u "()V"), (3, .class_ 11), (0, u "java/util/ImmutableCollections$List12"), (0, .class_ 13), (0, u "java/util/ImmutableCollections$ListN"), (3, u "Z"), (0, .class_ 19), (0, u "java/util/List"), (0, .interfaceMethodref 21 22), (0, .class_ 23), (0, .nameAndType 24 25), (0, u "java/util/Collection"), (0, u "isEmpty"), (0, u "()Z"), (2, u "of"), (1, .interfaceMethodref 21 31), (0, .nameAndType 32 33), (0, u "toArray"), (0, u "()[Ljava/lang/Object;"), (0, .interfaceMethodref 18 35), (0, .nameAndType 28 36), (0, u "([Ljava/lang/Object;)Ljava/util/List;"), (0, .methodref 38 39), (0, .class_ 40), (0, .nameAndType 41 42), (0, u "java/util/Objects"), (0, u "requireNonNull"), (0, u "(Ljava/lang/Object;)Ljava/lang/Object;"), (0, .methodref 12 44), (0, .nameAndType 5 45), (0, u "([Ljava/lang/Object;Z)V"), (1, .class_ 49), (1, u "java/util/ImmutableCollections"), (0, u "$assertionsDisabled"), (5, u "[Ljava/lang/Object;"), (5, u "EMPTY_LIST"), (0, u "Ljava/util/ImmutableCollections$ListN;"), (8, u "EMPTY_LIST_NULLS"), (22, u "SALT32L"), (0, u "J"), (2, u "REVERSE"), (6, u "archivedObjects"), (2, u "EMPTY"), (0, u "Ljava/lang/Object;"), (0, .class_ 112), (0, u "java/util/ImmutableCollections$SetN"), (5, u "EMPTY_SET"), (0, u "Ljava/util/ImmutableCollections$SetN;"), (0, .class_ 121), (0, u "java/util/ImmutableCollections$MapN"), (3, u "EMPTY_MAP"), (0, u "Ljava/util/ImmutableCollections$MapN;"), (4, u "EXPAND_FACTOR"), (0, u "I"), (9, u "listCopy"), (0, u "(Ljava/util/Collection;)Ljava/util/List;"), (7, u "listFromArray"), (17, .class_ 170), (0, u "java/util/ImmutableCollections$MapN$MapNIterator"), (0, .class_ 172), (0, u "java/util/ImmutableCollections$MapN$1"), (0, .class_ 174), (0, u "java/util/ImmutableCollections$Map1"), (0, .class_ 176), (0, u "java/util/ImmutableCollections$AbstractImmutableMap"), (0, .class_ 178), (0, u "java/util/ImmutableCollections$SetN$SetNIterator"), (0, .class_ 180), (0, u "java/util/ImmutableCollections$Set12"), (0, .class_ 182), (0, u "java/util/ImmutableCollections$Set12$1"), (0, .class_ 184), (0, u "java/util/ImmutableCollections$AbstractImmutableSet"), (0, .class_ 186), (0, u "java/util/ImmutableCollections$SubList"), (0, .class_ 188), (0, u "java/util/ImmutableCollections$ListItr"), (0, .class_ 190), (0, u "java/util/ImmutableCollections$AbstractImmutableList"), (0, .class_ 192), (0, u "java/util/ImmutableCollections$AbstractImmutableCollection"), (0, .class_ 194), (0, u "java/util/ImmutableCollections$Access"), (0, .class_ 196), (0, u "java/util/ImmutableCollections$Access$1")] 16

def k27m0 : Method := { name := "<init>", desc := "()V", sig := { parameters := [], returnType := none }, accessFlags := 2, code := none }
def k27c1 : Code := { maxStack := 1, maxLocals := 2, code := jdk_56_method_3_code, exceptionTable := #[], attributes := #[] }
def k27m1 : Method := { name := "listCopy", desc := "(Ljava/util/Collection;)Ljava/util/List;", sig := { parameters := [(.object "java/util/Collection")], returnType := some (.object "java/util/List") }, accessFlags := 8, code := some k27c1 }
def k27c2 : Code := { maxStack := 4, maxLocals := 3, code := jdk_56_method_4_code, exceptionTable := #[], attributes := #[] }
def k27m2 : Method := { name := "listFromArray", desc := "([Ljava/lang/Object;)Ljava/util/List;", sig := { parameters := [(.array (.object "java/lang/Object"))], returnType := some (.object "java/util/List") }, accessFlags := 136, code := some k27c2 }
/-- java/util/ImmutableCollections -/
def k27 : Class := { plain "java/util/ImmutableCollections" (some 0) with
  accessFlags := 32
  interfaces := #[]
  cf := some (fileOf pool27 47 #[.nestMembers #[120, 169, 171, 173, 175, 111, 177, 179, 181, 183, 12, 10, 185, 187, 189, 191, 193, 195]] #[{ accessFlags := 2, nameIndex := 5, descriptorIndex := 6, attributes := #[] }, { accessFlags := 8, nameIndex := 142, descriptorIndex := 143, attributes := #[] }, { accessFlags := 136, nameIndex := 151, descriptorIndex := 36, attributes := #[] }] 32 2 #[] #[{ accessFlags := 26, nameIndex := 95, descriptorIndex := 96, attributes := #[] }, { accessFlags := 26, nameIndex := 99, descriptorIndex := 17, attributes := #[] }, { accessFlags := 10, nameIndex := 106, descriptorIndex := 56, attributes := #[] }, { accessFlags := 26, nameIndex := 109, descriptorIndex := 110, attributes := #[] }, { accessFlags := 24, nameIndex := 62, descriptorIndex := 63, attributes := #[] }, { accessFlags := 24, nameIndex := 72, descriptorIndex := 63, attributes := #[] }, { accessFlags := 24, nameIndex := 118, descriptorIndex := 119, attributes := #[] }, { accessFlags := 24, nameIndex := 125, descriptorIndex := 126, attributes := #[] }, { accessFlags := 24, nameIndex := 131, descriptorIndex := 132, attributes := #[] }, { accessFlags := 4120, nameIndex := 50, descriptorIndex := 17, attributes := #[] }])
  fields := #[{ name := "SALT32L", type := .long, accessFlags := 26, slot := 0, constantValue := 0 }, { name := "REVERSE", type := .boolean, accessFlags := 26, slot := 1, constantValue := 0 }, { name := "archivedObjects", type := (.array (.object "java/lang/Object")), accessFlags := 10, slot := 2, constantValue := 0 }, { name := "EMPTY", type := (.object "java/lang/Object"), accessFlags := 26, slot := 3, constantValue := 0 }, { name := "EMPTY_LIST", type := (.object "java/util/ImmutableCollections$ListN"), accessFlags := 24, slot := 4, constantValue := 0 }, { name := "EMPTY_LIST_NULLS", type := (.object "java/util/ImmutableCollections$ListN"), accessFlags := 24, slot := 5, constantValue := 0 }, { name := "EMPTY_SET", type := (.object "java/util/ImmutableCollections$SetN"), accessFlags := 24, slot := 6, constantValue := 0 }, { name := "EMPTY_MAP", type := (.object "java/util/ImmutableCollections$MapN"), accessFlags := 24, slot := 7, constantValue := 0 }, { name := "EXPAND_FACTOR", type := .int, accessFlags := 24, slot := 8, constantValue := 0 }, { name := "$assertionsDisabled", type := .boolean, accessFlags := 4120, slot := 9, constantValue := 0 }]
  methods := #[k27m0, k27m1, k27m2]
  instanceTypes := #[]
  staticTypes := #[.long, .boolean, (.array (.object "java/lang/Object")), (.object "java/lang/Object"), (.object "java/util/ImmutableCollections$ListN"), (.object "java/util/ImmutableCollections$ListN"), (.object "java/util/ImmutableCollections$SetN"), (.object "java/util/ImmutableCollections$MapN"), .int, .boolean]
  resolved := Array.replicate 213 none
  statics := some 2 }

def pool28 : Array CpInfo := pool [(1, .methodref 2 3), (0, .class_ 4), (0, .nameAndType 5 6), (0, u "java/util/AbstractCollection"), (0, u "<init>"), (0, u "()V"), (1, .class_ 10), (1, u "java/util/ImmutableCollections"), (2, .class_ 14), (0, u "java/util/ImmutableCollections$AbstractImmutableCollection")] 41

def k28c0 : Code := { maxStack := 1, maxLocals := 1, code := jdk_47_method_1_code, exceptionTable := #[], attributes := #[] }
def k28m0 : Method := { name := "<init>", desc := "()V", sig := { parameters := [], returnType := none }, accessFlags := 0, code := some k28c0 }
/-- java/util/ImmutableCollections$AbstractImmutableCollection -/
def k28 : Class := { plain "java/util/ImmutableCollections$AbstractImmutableCollection" (some 4) with
  accessFlags := 1056
  interfaces := #[]
  cf := some (fileOf pool28 13 #[.nestHost 8] #[{ accessFlags := 0, nameIndex := 5, descriptorIndex := 6, attributes := #[] }] 1056 2 #[] #[])
  fields := #[]
  methods := #[k28m0]
  instanceTypes := #[]
  staticTypes := #[]
  resolved := Array.replicate 56 none
  statics := none }

def pool29 : Array CpInfo := pool [(1, .methodref 2 3), (0, .class_ 4), (0, .nameAndType 5 6), (0, u "java/util/ImmutableCollections$AbstractImmutableCollection"), (0, u "<init>"), (0, u "()V"), (1, .class_ 10), (1, u "java/util/ImmutableCollections"), (3, .class_ 16), (1, u "java/util/ImmutableCollections$AbstractImmutableList"), (60, .class_ 78), (0, u "java/util/List"), (45, .class_ 125), (0, u "java/util/RandomAccess")] 70

def k29c0 : Code := { maxStack := 1, maxLocals := 1, code := jdk_46_method_1_code, exceptionTable := #[], attributes := #[] }
def k29m0 : Method := { name := "<init>", desc := "()V", sig := { parameters := [], returnType := none }, accessFlags := 0, code := some k29c0 }
/-- java/util/ImmutableCollections$AbstractImmutableList -/
def k29 : Class := { plain "java/util/ImmutableCollections$AbstractImmutableList" (some 28) with
  accessFlags := 1056
  interfaces := #[6, 8]
  cf := some (fileOf pool29 14 #[.nestHost 8] #[{ accessFlags := 0, nameIndex := 5, descriptorIndex := 6, attributes := #[] }] 1056 2 #[77, 124] #[])
  fields := #[]
  methods := #[k29m0]
  instanceTypes := #[]
  staticTypes := #[]
  resolved := Array.replicate 196 none
  statics := none }

def pool30 : Array CpInfo := pool [(1, .methodref 2 3), (0, .class_ 4), (0, .nameAndType 5 6), (0, u "java/util/ImmutableCollections$AbstractImmutableList"), (0, u "<init>"), (0, u "()V"), (0, .methodref 8 9), (0, .class_ 10), (0, .nameAndType 11 12), (0, u "java/util/Objects"), (0, u "requireNonNull"), (0, u "(Ljava/lang/Object;)Ljava/lang/Object;"), (0, .fieldref 14 15), (0, .class_ 16), (0, .nameAndType 17 18), (0, u "java/util/ImmutableCollections$List12"), (0, u "e0"), (0, u "Ljava/lang/Object;"), (0, .fieldref 20 21), (0, .class_ 22), (0, .nameAndType 23 18), (0, u "java/util/ImmutableCollections"), (0, u "EMPTY"), (0, .fieldref 14 25), (0, .nameAndType 26 18), (0, u "e1"), (24, u "size"), (0, u "()I"), (17, .class_ 71), (0, u "java/io/Serializable"), (4, u "(Ljava/lang/Object;)V"), (8, u "(Ljava/lang/Object;Ljava/lang/Object;)V"), (2, u "isEmpty"), (0, u "()Z"), (0, u "get"), (0, u "(I)Ljava/lang/Object;")] 33

def k30c0 : Code := { maxStack := 2, maxLocals := 2, code := jdk_44_method_1_code, exceptionTable := #[], attributes := #[] }
def k30m0 : Method := { name := "<init>", desc := "(Ljava/lang/Object;)V", sig := { parameters := [(.object "java/lang/Object")], returnType := none }, accessFlags := 0, code := some k30c0 }
def k30c1 : Code := { maxStack := 2, maxLocals := 3, code := jdk_44_method_2_code, exceptionTable := #[], attributes := #[] }
def k30m1 : Method := { name := "<init>", desc := "(Ljava/lang/Object;Ljava/lang/Object;)V", sig := { parameters := [(.object "java/lang/Object"), (.object "java/lang/Object")], returnType := none }, accessFlags := 0, code := some k30c1 }
def k30c2 : Code := { maxStack := 2, maxLocals := 1, code := jdk_44_method_3_code, exceptionTable := #[], attributes := #[] }
def k30m2 : Method := { name := "size", desc := "()I", sig := { parameters := [], returnType := some .int }, accessFlags := 1, code := some k30c2 }
def k30c3 : Code := { maxStack := 1, maxLocals := 1, code := jdk_44_method_4_code, exceptionTable := #[], attributes := #[] }
def k30m3 : Method := { name := "isEmpty", desc := "()Z", sig := { parameters := [], returnType := some .boolean }, accessFlags := 1, code := some k30c3 }
def k30c4 : Code := { maxStack := 2, maxLocals := 2, code := jdk_44_method_5_code, exceptionTable := #[], attributes := #[] }
def k30m4 : Method := { name := "get", desc := "(I)Ljava/lang/Object;", sig := { parameters := [.int], returnType := some (.object "java/lang/Object") }, accessFlags := 1, code := some k30c4 }
/-- java/util/ImmutableCollections$List12 -/
def k30 : Class := { plain "java/util/ImmutableCollections$List12" (some 29) with
  accessFlags := 48
  interfaces := #[10]
  cf := some (fileOf pool30 14 #[.nestHost 20] #[{ accessFlags := 0, nameIndex := 5, descriptorIndex := 76, attributes := #[] }, { accessFlags := 0, nameIndex := 5, descriptorIndex := 85, attributes := #[] }, { accessFlags := 1, nameIndex := 51, descriptorIndex := 52, attributes := #[] }, { accessFlags := 1, nameIndex := 88, descriptorIndex := 89, attributes := #[] }, { accessFlags := 1, nameIndex := 90, descriptorIndex := 91, attributes := #[] }] 48 2 #[70] #[{ accessFlags := 18, nameIndex := 17, descriptorIndex := 18, attributes := #[] }, { accessFlags := 18, nameIndex := 26, descriptorIndex := 18, attributes := #[] }])
  fields := #[{ name := "e0", type := (.object "java/lang/Object"), accessFlags := 18, slot := 0, constantValue := 0 }, { name := "e1", type := (.object "java/lang/Object"), accessFlags := 18, slot := 1, constantValue := 0 }]
  methods := #[k30m0, k30m1, k30m2, k30m3, k30m4]
  instanceTypes := #[(.object "java/lang/Object"), (.object "java/lang/Object")]
  staticTypes := #[]
  resolved := Array.replicate 125 none
  statics := none }

def pool31 : Array CpInfo := pool [(1, .methodref 2 3), (0, .class_ 4), (0, .nameAndType 5 6), (0, u "java/util/ImmutableCollections$AbstractImmutableList"), (0, u "<init>"), (0, u "()V"), (0, .fieldref 8 9), (0, .class_ 10), (0, .nameAndType 11 12), (0, u "java/util/ImmutableCollections$ListN"), (0, u "elements"), (0, u "[Ljava/lang/Object;"), (0, .fieldref 8 14), (0, .nameAndType 15 16), (0, u "allowNulls"), (0, u "Z"), (42, .class_ 60), (0, u "java/io/Serializable"), (4, u "([Ljava/lang/Object;Z)V"), (8, u "isEmpty"), (0, u "()Z"), (1, u "size"), (0, u "()I"), (0, u "get"), (0, u "(I)Ljava/lang/Object;"), (33, .class_ 115), (0, u "java/util/ImmutableCollections")] 3

def k31c0 : Code := { maxStack := 2, maxLocals := 3, code := jdk_45_method_1_code, exceptionTable := #[], attributes := #[] }
def k31m0 : Method := { name := "<init>", desc := "([Ljava/lang/Object;Z)V", sig := { parameters := [(.array (.object "java/lang/Object")), .boolean], returnType := none }, accessFlags := 2, code := some k31c0 }
def k31c1 : Code := { maxStack := 1, maxLocals := 1, code := jdk_45_method_2_code, exceptionTable := #[], attributes := #[] }
def k31m1 : Method := { name := "isEmpty", desc := "()Z", sig := { parameters := [], returnType := some .boolean }, accessFlags := 1, code := some k31c1 }
def k31c2 : Code := { maxStack := 1, maxLocals := 1, code := jdk_45_method_3_code, exceptionTable := #[], attributes := #[] }
def k31m2 : Method := { name := "size", desc := "()I", sig := { parameters := [], returnType := some .int }, accessFlags := 1, code := some k31c2 }
def k31c3 : Code := { maxStack := 2, maxLocals := 2, code := jdk_45_method_4_code, exceptionTable := #[], attributes := #[] }
def k31m3 : Method := { name := "get", desc := "(I)Ljava/lang/Object;", sig := { parameters := [.int], returnType := some (.object "java/lang/Object") }, accessFlags := 1, code := some k31c3 }
/-- java/util/ImmutableCollections$ListN -/
def k31 : Class := { plain "java/util/ImmutableCollections$ListN" (some 29) with
  accessFlags := 48
  interfaces := #[10]
  cf := some (fileOf pool31 8 #[.nestHost 114] #[{ accessFlags := 2, nameIndex := 5, descriptorIndex := 65, attributes := #[] }, { accessFlags := 1, nameIndex := 74, descriptorIndex := 75, attributes := #[] }, { accessFlags := 1, nameIndex := 77, descriptorIndex := 78, attributes := #[] }, { accessFlags := 1, nameIndex := 79, descriptorIndex := 80, attributes := #[] }] 48 2 #[59] #[{ accessFlags := 18, nameIndex := 11, descriptorIndex := 12, attributes := #[] }, { accessFlags := 18, nameIndex := 15, descriptorIndex := 16, attributes := #[] }])
  fields := #[{ name := "elements", type := (.array (.object "java/lang/Object")), accessFlags := 18, slot := 0, constantValue := 0 }, { name := "allowNulls", type := .boolean, accessFlags := 18, slot := 1, constantValue := 0 }]
  methods := #[k31m0, k31m1, k31m2, k31m3]
  instanceTypes := #[(.array (.object "java/lang/Object")), .boolean]
  staticTypes := #[]
  resolved := Array.replicate 119 none
  statics := none }

def pool32 : Array CpInfo := pool [(2, .class_ 4), (1, u "java/lang/Object"), (0, u "<init>"), (0, u "()V"), (7, .class_ 16), (1, u "java/util/Arrays"), (57, .class_ 76), (1, u "java/util/Arrays$NaturalOrder"), (9, .methodref 2 87), (0, .nameAndType 88 89), (0, u "getClass"), (0, u "()Ljava/lang/Class;"), (20, .class_ 111), (0, u "[Ljava/lang/Object;"), (1, .class_ 115), (1, u "java/util/Arrays$LegacyMergeSort"), (1, u "Z"), (32, .methodref 151 152), (0, .class_ 153), (0, .nameAndType 154 155), (0, u "java/lang/System"), (0, u "arraycopy"), (0, u "(Ljava/lang/Object;ILjava/lang/Object;II)V"), (144, .methodref 14 301), (0, .nameAndType 302 303), (0, u "copyOf"), (0, u "([Ljava/lang/Object;ILjava/lang/Class;)[Ljava/lang/Object;"), (0, .methodref 305 306), (0, .class_ 307), (0, .nameAndType 308 309), (0, u "java/lang/Math"), (0, u "min"), (0, u "(II)I"), (65, .class_ 376), (0, u "java/util/Arrays$ArrayList"), (68, u "$assertionsDisabled"), (269, u "MIN_ARRAY_SORT_GRAN"), (0, u "I"), (2, u "INSERTIONSORT_THRESHOLD"), (140, u "([Ljava/lang/Object;I)[Ljava/lang/Object;"), (114, .class_ 976), (0, u "java/util/Arrays$ArrayItr")] 52

def k32m0 : Method := { name := "<init>", desc := "()V", sig := { parameters := [], returnType := none }, accessFlags := 2, code := none }
def k32c1 : Code := { maxStack := 3, maxLocals := 2, code := jdk_65_method_119_code, exceptionTable := #[], attributes := #[] }
def k32m1 : Method := { name := "copyOf", desc := "([Ljava/lang/Object;I)[Ljava/lang/Object;", sig := { parameters := [(.array (.object "java/lang/Object")), .int], returnType := some (.array (.object "java/lang/Object")) }, accessFlags := 9, code := some k32c1 }
def k32c2 : Code := { maxStack := 6, maxLocals := 4, code := jdk_65_method_120_code, exceptionTable := #[], attributes := #[] }
def k32m2 : Method := { name := "copyOf", desc := "([Ljava/lang/Object;ILjava/lang/Class;)[Ljava/lang/Object;", sig := { parameters := [(.array (.object "java/lang/Object")), .int, (.object "java/lang/Class")], returnType := some (.array (.object "java/lang/Object")) }, accessFlags := 9, code := some k32c2 }
/-- java/util/Arrays -/
def k32 : Class := { plain "java/util/Arrays" (some 0) with
  accessFlags := 49
  interfaces := #[]
  cf := some (fileOf pool32 14 #[.nestMembers #[975, 375, 113, 74]] #[{ accessFlags := 2, nameIndex := 5, descriptorIndex := 6, attributes := #[] }, { accessFlags := 9, nameIndex := 302, descriptorIndex := 860, attributes := #[] }, { accessFlags := 9, nameIndex := 302, descriptorIndex := 303, attributes := #[] }] 49 2 #[] #[{ accessFlags := 26, nameIndex := 715, descriptorIndex := 716, attributes := #[] }, { accessFlags := 26, nameIndex := 719, descriptorIndex := 716, attributes := #[] }, { accessFlags := 4120, nameIndex := 445, descriptorIndex := 117, attributes := #[] }])
  fields := #[{ name := "MIN_ARRAY_SORT_GRAN", type := .int, accessFlags := 26, slot := 0, constantValue := 0 }, { name := "INSERTIONSORT_THRESHOLD", type := .int, accessFlags := 26, slot := 1, constantValue := 0 }, { name := "$assertionsDisabled", type := .boolean, accessFlags := 4120, slot := 2, constantValue := 0 }]
  methods := #[k32m0, k32m1, k32m2]
  instanceTypes := #[]
  staticTypes := #[.int, .int, .boolean]
  resolved := Array.replicate 1029 none
  statics := none }

def pool33 : Array CpInfo := pool [(2, .class_ 4), (1, u "java/lang/Object"), (0, u "<init>"), (0, u "()V"), (1, .class_ 10), (1, u "java/lang/System"), (0, u "allowSecurityManager"), (0, u "I"), (16, u "cons"), (0, u "Ljava/io/Console;"), (77, .class_ 110), (1, u "java/lang/System$CallersHolder"), (43, u "initialErrStream"), (0, u "Ljava/io/PrintStream;"), (19, u "security"), (0, u "Ljava/lang/SecurityManager;"), (31, .class_ 209), (0, u "java/lang/System$1"), (7, u "props"), (0, u "Ljava/util/Properties;"), (2, u "lineSeparator"), (0, u "Ljava/lang/String;"), (96, .class_ 321), (1, u "java/lang/System$LoggerFinder"), (5, .class_ 328), (0, u "java/lang/System$Logger"), (67, u "err"), (2, u "out"), (91, u "notSupportedJnuEncoding"), (15, u "in"), (17, u "initialIn"), (0, u "Ljava/io/InputStream;"), (35, u "bootLayer"), (0, u "Ljava/lang/ModuleLayer;"), (99, .class_ 664), (0, u "java/lang/System$2"), (9, u "NEVER"), (2, u "MAYBE"), (49, u "arraycopy"), (0, u "(Ljava/lang/Object;ILjava/lang/Object;II)V"), (72, .class_ 802), (0, u "java/lang/System$Logger$Level")] 31

def k33m0 : Method := { name := "<init>", desc := "()V", sig := { parameters := [], returnType := none }, accessFlags := 2, code := none }
def k33m1 : Method := { name := "arraycopy", desc := "(Ljava/lang/Object;ILjava/lang/Object;II)V", sig := { parameters := [(.object "java/lang/Object"), .int, (.object "java/lang/Object"), .int, .int], returnType := none }, accessFlags := 265, code := none }
/-- java/lang/System -/
def k33 : Class := { plain "java/lang/System" (some 0) with
  accessFlags := 49
  interfaces := #[]
  cf := some (fileOf pool33 8 #[.nestMembers #[319, 327, 801, 108, 663, 208]] #[{ accessFlags := 2, nameIndex := 5, descriptorIndex := 6, attributes := #[] }, { accessFlags := 265, nameIndex := 727, descriptorIndex := 728, attributes := #[] }] 49 2 #[] #[{ accessFlags := 25, nameIndex := 507, descriptorIndex := 526, attributes := #[] }, { accessFlags := 25, nameIndex := 399, descriptorIndex := 155, attributes := #[] }, { accessFlags := 25, nameIndex := 396, descriptorIndex := 155, attributes := #[] }, { accessFlags := 10, nameIndex := 525, descriptorIndex := 526, attributes := #[] }, { accessFlags := 26, nameIndex := 674, descriptorIndex := 12, attributes := #[] }, { accessFlags := 26, nameIndex := 677, descriptorIndex := 12, attributes := #[] }, { accessFlags := 10, nameIndex := 11, descriptorIndex := 12, attributes := #[] }, { accessFlags := 74, nameIndex := 175, descriptorIndex := 176, attributes := #[] }, { accessFlags := 10, nameIndex := 491, descriptorIndex := 222, attributes := #[] }, { accessFlags := 74, nameIndex := 29, descriptorIndex := 30, attributes := #[] }, { accessFlags := 74, nameIndex := 154, descriptorIndex := 155, attributes := #[] }, { accessFlags := 10, nameIndex := 217, descriptorIndex := 218, attributes := #[] }, { accessFlags := 10, nameIndex := 221, descriptorIndex := 222, attributes := #[] }, { accessFlags := 8, nameIndex := 562, descriptorIndex := 563, attributes := #[] }])
  fields := #[{ name := "in", type := (.object "java/io/InputStream"), accessFlags := 25, slot := 0, constantValue := 0 }, { name := "out", type := (.object "java/io/PrintStream"), accessFlags := 25, slot := 1, constantValue := 0 }, { name := "err", type := (.object "java/io/PrintStream"), accessFlags := 25, slot := 2, constantValue := 0 }, { name := "initialIn", type := (.object "java/io/InputStream"), accessFlags := 10, slot := 3, constantValue := 0 }, { name := "NEVER", type := .int, accessFlags := 26, slot := 4, constantValue := 0 }, { name := "MAYBE", type := .int, accessFlags := 26, slot := 5, constantValue := 0 }, { name := "allowSecurityManager", type := .int, accessFlags := 10, slot := 6, constantValue := 0 }, { name := "security", type := (.object "java/lang/SecurityManager"), accessFlags := 74, slot := 7, constantValue := 0 }, { name := "notSupportedJnuEncoding", type := (.object "java/lang/String"), accessFlags := 10, slot := 8, constantValue := 0 }, { name := "cons", type := (.object "java/io/Console"), accessFlags := 74, slot := 9, constantValue := 0 }, { name := "initialErrStream", type := (.object "java/io/PrintStream"), accessFlags := 74, slot := 10, constantValue := 0 }, { name := "props", type := (.object "java/util/Properties"), accessFlags := 10, slot := 11, constantValue := 0 }, { name := "lineSeparator", type := (.object "java/lang/String"), accessFlags := 10, slot := 12, constantValue := 0 }, { name := "bootLayer", type := (.object "java/lang/ModuleLayer"), accessFlags := 8, slot := 13, constantValue := 0 }]
  methods := #[k33m0, k33m1]
  instanceTypes := #[]
  staticTypes := #[(.object "java/io/InputStream"), (.object "java/io/PrintStream"), (.object "java/io/PrintStream"), (.object "java/io/InputStream"), .int, .int, .int, (.object "java/lang/SecurityManager"), (.object "java/lang/String"), (.object "java/io/Console"), (.object "java/io/PrintStream"), (.object "java/util/Properties"), (.object "java/lang/String"), (.object "java/lang/ModuleLayer")]
  resolved := Array.replicate 834 none
  statics := none }

def pool34 : Array CpInfo := pool [(2, .class_ 4), (1, u "java/lang/Object"), (0, u "<init>"), (0, u "()V"), (35, .class_ 44), (1, u "java/util/Objects"), (0, u "requireNonNull"), (0, u "(Ljava/lang/Object;)Ljava/lang/Object;")] 137

def k34m0 : Method := { name := "<init>", desc := "()V", sig := { parameters := [], returnType := none }, accessFlags := 2, code := none }
def k34c1 : Code := { maxStack := 2, maxLocals := 1, code := jdk_31_method_10_code, exceptionTable := #[], attributes := #[] }
def k34m1 : Method := { name := "requireNonNull", desc := "(Ljava/lang/Object;)Ljava/lang/Object;", sig := { parameters := [(.object "java/lang/Object")], returnType := some (.object "java/lang/Object") }, accessFlags := 9, code := some k34c1 }
/-- java/util/Objects -/
def k34 : Class := { plain "java/util/Objects" (some 0) with
  accessFlags := 49
  interfaces := #[]
  cf := some (fileOf pool34 42 #[] #[{ accessFlags := 2, nameIndex := 5, descriptorIndex := 6, attributes := #[] }, { accessFlags := 9, nameIndex := 45, descriptorIndex := 46, attributes := #[] }] 49 2 #[] #[])
  fields := #[]
  methods := #[k34m0, k34m1]
  instanceTypes := #[]
  staticTypes := #[]
  resolved := Array.replicate 184 none
  statics := none }

def pool35 : Array CpInfo := pool [(1, u "java/lang/Class"), (0, .class_ 1), (0, u "java/lang/Object"), (0, .class_ 3)] 3

/-- java/lang/Class -/
def k35 : Class := { plain "java/lang/Class" (some 0) with
  accessFlags := 49
  interfaces := #[]
  cf := some (fileOf pool35 2 #[] #[] 49 4 #[] #[])
  fields := #[]
  methods := #[]
  instanceTypes := #[]
  staticTypes := #[]
  resolved := Array.replicate 8 none
  statics := none }

/-- the primitive byte -/
def k36 : Class := { plain "byte" none with kind := .primitive 'B', accessFlags := 0x411 }
/-- [B -/
def k37 : Class := { plain "[B" (some 0) with kind := .array 36 .byte, interfaces := #[9, 10], accessFlags := 1041 }

/-- the primitive int -/
def k38 : Class := { plain "int" none with kind := .primitive 'I', accessFlags := 0x411 }
/-- [I -/
def k39 : Class := { plain "[I" (some 0) with kind := .array 38 .int, interfaces := #[9, 10], accessFlags := 1041 }

/-- [Ljava/lang/Object; -/
def k40 : Class := { plain "[Ljava/lang/Object;" (some 0) with kind := .array 0 (.object "java/lang/Object"), interfaces := #[9, 10], accessFlags := 1041, mirror := some 3 }

def heap : Heap := #[{ cls := 11, slots := #[.long 0, .int 0, .ref 5, .ref 6], vm := .statics 11 },
  { cls := 24, slots := #[.ref 4, .ref 4, .null, .null, .ref 4, .ref 4, .null, .ref 4, .null], vm := .statics 24 },
  { cls := 27, slots := #[.long 0, .int 0, .null, .ref 7, .ref 8, .null, .null, .null, .int 0, .int 1], vm := .statics 27 },
  { cls := 35, slots := #[], vm := .mirror 40 },
  { cls := 24, slots := #[.null, .int 0, .int 0, .null, .int 1, .int 0], vm := .none },
  { cls := 40, slots := #[], vm := .none },
  { cls := 40, slots := #[], vm := .none },
  { cls := 0, slots := #[], vm := .none },
  { cls := 31, slots := #[.null, .int 0], vm := .none }]
def classes : Array Class := #[k0, k1, k2, k3, k4, k5, k6, k7, k8, k9, k10, k11, k12, k13, k14, k15, k16, k17, k18, k19, k20, k21, k22, k23, k24, k25, k26, k27, k28, k29, k30, k31, k32, k33, k34, k35, k36, k37, k38, k39, k40]
def interned : List (Array UInt16 × Addr) := []
def slotsUsed : Nat := 31
def theMethod : MethodId := ⟨1, 3⟩
def args0 : Array Value := #[.int 5, .int 7, .int 9, .int 2]
def aboutOver (below : List Frame) : State where
  vm := { classes := classes, interned := interned.toArray }
  heap := heap
  slotsUsed := slotsUsed
  threads := #[{ frames := .invoking theMethod args0 :: below }]
def below0 : List Frame := [.native { method := ⟨0, 0⟩, args := #[] }]
def about1 : State := aboutOver below0
def p0 : Program := .bare "" "" ""
def e0 : Env := launch0.env 0 0 0
theorem w_frames : about1.frames = Frame.invoking theMethod args0 :: below0 := rfl
set_option maxRecDepth 65536 in
theorem w_args : argsFit about1.vm theMethod args0 = true := by decide +kernel
set_option maxRecDepth 65536 in
theorem w_heap : heapFits about1 = true := by decide +kernel
set_option maxRecDepth 65536 in
theorem w_runnable : about1.curStatus? = some .runnable := by decide +kernel
set_option maxRecDepth 65536 in
theorem w_alone : about1.alone = true := by decide +kernel
set_option maxRecDepth 65536 in
theorem w_named : about1.methodNamed? x = some theMethod := by decide +kernel
set_option maxRecDepth 65536 in
theorem w_hears : about1.hears theMethod below0 = true := by decide +kernel
set_option maxRecDepth 65536 in
theorem w_ripe : about1.ripe theMethod args0 below0 = true := by decide +kernel
theorem w_running : about1.status = .running := rfl
set_option maxRecDepth 65536 in
theorem w_room : about1.hasRoom e0.platform room_1 = true :=
  launch0.hasRoom_least _ room_1 (by decide +kernel) (by decide +kernel) (by decide +kernel) (by decide +kernel) (by decide +kernel) (by decide +kernel)
theorem allAtoms_all (ts : List Jvm.Cond) (a : Array Jvm.Value) (st : Jvm.State) : (allAtoms ts).before a st = ts.all (fun c => c.before a st) := by
  induction ts with
  | nil => rfl
  | cons c t ih =>
    show (Jvm.Cond.and c (allAtoms t)).before a st = _
    rw [Jvm.Cond.before_and, ih, List.all_cons]
def words1 : List Jvm.Cond := Jvm.Cond.code x code maxLocals ret :: tables_1
/-- a 'code' word, met by the world's own term for the bytes: nothing is compared byte by byte -/
theorem code_word {y : MethodName} {bytes : ByteArray} {mx : Nat} {rt : Option FieldType} {a : Array Value} {s : State} {m : MethodId} {meth : Method} {c : Code} (h1 : s.methodNamed? y = some m) (h2 : s.vm.method? m = some meth) (h3 : meth.code = some c) (h4 : c.code = bytes)
    (h5 : (c.maxLocals == mx && c.exceptionTable.isEmpty && decide (c.maxStack ≤ mostOperands) && decide (meth.sig.returnType = rt) && !meth.locks && decide (parseMethodDescriptor y.desc = some meth.sig)) = true) : (Jvm.Cond.code y bytes mx rt).before a s = true := by
  simp only [Bool.and_eq_true, beq_iff_eq, Bool.not_eq_true', decide_eq_true_eq] at h5
  obtain ⟨⟨⟨⟨⟨g1, g2⟩, g3⟩, g4⟩, g5⟩, g6⟩ := h5
  simp [Cond.before, Cond.holds, Cond.value, h1, h2, h3, h4, g1, g2, g3, g4, g5, g6]
def isCode : Jvm.Cond → Bool
  | .code _ _ _ _ => true
  | _ => false
theorem all_split {L : List Jvm.Cond} {P : Jvm.Cond → Bool} (h1 : L.all (fun c => isCode c || P c) = true) (h2 : ∀ c ∈ L.filter isCode, P c = true) : L.all P = true := by
  refine List.all_eq_true.mpr fun c hc => ?_
  have h := List.all_eq_true.mp h1 c hc
  rcases Bool.eq_false_or_eq_true (isCode c) with hi | hi
  · exact h2 c (List.mem_filter.mpr ⟨hc, hi⟩)
  · simpa [hi] using h
set_option maxRecDepth 65536 in
theorem w_c0 : (Jvm.Cond.code x code maxLocals ret).before args0 about1 = true := code_word (m := ⟨1, 3⟩) (meth := k1m3) (c := k1c3) (by decide +kernel) rfl rfl rfl (by decide +kernel)
set_option maxRecDepth 65536 in
theorem w_c1 : (Jvm.Cond.code ({ cls := "com/example/inferlink/inferlink/LinkDelayLostPinLaw", name := "prob", desc := "(I)D" } : Jvm.MethodName) method_2_code (1 : Nat) (Option.some Jvm.ClassFile.FieldType.double)).before args0 about1 = true := code_word (m := ⟨1, 1⟩) (meth := k1m1) (c := k1c1) (by decide +kernel) rfl rfl rfl (by decide +kernel)
set_option maxRecDepth 65536 in
theorem w_c2 : (Jvm.Cond.code ({ cls := "java/util/ArrayList", name := "<init>", desc := "()V" } : Jvm.MethodName) jdk_38_method_2_code (1 : Nat) (Option.none : Option Jvm.ClassFile.FieldType)).before args0 about1 = true := code_word (m := ⟨11, 0⟩) (meth := k11m0) (c := k11c0) (by decide +kernel) rfl rfl rfl (by decide +kernel)
set_option maxRecDepth 65536 in
theorem w_c3 : (Jvm.Cond.code ({ cls := "java/util/AbstractList", name := "<init>", desc := "()V" } : Jvm.MethodName) jdk_39_method_1_code (1 : Nat) (Option.none : Option Jvm.ClassFile.FieldType)).before args0 about1 = true := code_word (m := ⟨7, 0⟩) (meth := k7m0) (c := k7c0) (by decide +kernel) rfl rfl rfl (by decide +kernel)
set_option maxRecDepth 65536 in
theorem w_c4 : (Jvm.Cond.code ({ cls := "java/util/AbstractCollection", name := "<init>", desc := "()V" } : Jvm.MethodName) jdk_22_method_1_code (1 : Nat) (Option.none : Option Jvm.ClassFile.FieldType)).before args0 about1 = true := code_word (m := ⟨4, 0⟩) (meth := k4m0) (c := k4c0) (by decide +kernel) rfl rfl rfl (by decide +kernel)
set_option maxRecDepth 65536 in
theorem w_c5 : (Jvm.Cond.code ({ cls := "java/lang/Object", name := "<init>", desc := "()V" } : Jvm.MethodName) object_method_1_code (1 : Nat) (Option.none : Option Jvm.ClassFile.FieldType)).before args0 about1 = true := code_word (m := ⟨0, 0⟩) (meth := k0m0) (c := k0c0) (by decide +kernel) rfl rfl rfl (by decide +kernel)
set_option maxRecDepth 65536 in
theorem w_c6 : (Jvm.Cond.code ({ cls := "java/lang/Double", name := "valueOf", desc := "(D)Ljava/lang/Double;" } : Jvm.MethodName) jdk_117_method_4_code (2 : Nat) (Option.some (Jvm.ClassFile.FieldType.object "java/lang/Double"))).before args0 about1 = true := code_word (m := ⟨16, 0⟩) (meth := k16m0) (c := k16c0) (by decide +kernel) rfl rfl rfl (by decide +kernel)
set_option maxRecDepth 65536 in
theorem w_c7 : (Jvm.Cond.code ({ cls := "java/lang/Double", name := "<init>", desc := "(D)V" } : Jvm.MethodName) jdk_117_method_9_code (3 : Nat) (Option.none : Option Jvm.ClassFile.FieldType)).before args0 about1 = true := code_word (m := ⟨16, 1⟩) (meth := k16m1) (c := k16c1) (by decide +kernel) rfl rfl rfl (by decide +kernel)
set_option maxRecDepth 65536 in
theorem w_c8 : (Jvm.Cond.code ({ cls := "java/lang/Number", name := "<init>", desc := "()V" } : Jvm.MethodName) jdk_18_method_1_code (1 : Nat) (Option.none : Option Jvm.ClassFile.FieldType)).before args0 about1 = true := code_word (m := ⟨12, 0⟩) (meth := k12m0) (c := k12c0) (by decide +kernel) rfl rfl rfl (by decide +kernel)
set_option maxRecDepth 65536 in
theorem w_c9 : (Jvm.Cond.code ({ cls := "java/util/ArrayList", name := "add", desc := "(Ljava/lang/Object;)Z" } : Jvm.MethodName) jdk_38_method_25_code (2 : Nat) (Option.some Jvm.ClassFile.FieldType.boolean)).before args0 about1 = true := code_word (m := ⟨11, 6⟩) (meth := k11m6) (c := k11c6) (by decide +kernel) rfl rfl rfl (by decide +kernel)
set_option maxRecDepth 65536 in
theorem w_c10 : (Jvm.Cond.code ({ cls := "java/util/ArrayList", name := "add", desc := "(Ljava/lang/Object;[Ljava/lang/Object;I)V" } : Jvm.MethodName) jdk_38_method_24_code (4 : Nat) (Option.none : Option Jvm.ClassFile.FieldType)).before args0 about1 = true := code_word (m := ⟨11, 5⟩) (meth := k11m5) (c := k11c5) (by decide +kernel) rfl rfl rfl (by decide +kernel)
set_option maxRecDepth 65536 in
theorem w_c11 : (Jvm.Cond.code ({ cls := "java/util/ArrayList", name := "grow", desc := "()[Ljava/lang/Object;" } : Jvm.MethodName) jdk_38_method_7_code (1 : Nat) (Option.some (Jvm.ClassFile.FieldType.array (Jvm.ClassFile.FieldType.object "java/lang/Object")))).before args0 about1 = true := code_word (m := ⟨11, 2⟩) (meth := k11m2) (c := k11c2) (by decide +kernel) rfl rfl rfl (by decide +kernel)
set_option maxRecDepth 65536 in
theorem w_c12 : (Jvm.Cond.code ({ cls := "java/util/ArrayList", name := "grow", desc := "(I)[Ljava/lang/Object;" } : Jvm.MethodName) jdk_38_method_6_code (4 : Nat) (Option.some (Jvm.ClassFile.FieldType.array (Jvm.ClassFile.FieldType.object "java/lang/Object")))).before args0 about1 = true := code_word (m := ⟨11, 1⟩) (meth := k11m1) (c := k11c1) (by decide +kernel) rfl rfl rfl (by decide +kernel)
set_option maxRecDepth 65536 in
theorem w_c13 : (Jvm.Cond.code ({ cls := "java/lang/Math", name := "max", desc := "(II)I" } : Jvm.MethodName) jdk_29_method_65_code (2 : Nat) (Option.some Jvm.ClassFile.FieldType.int)).before args0 about1 = true := code_word (m := ⟨17, 1⟩) (meth := k17m1) (c := k17c1) (by decide +kernel) rfl rfl rfl (by decide +kernel)
set_option maxRecDepth 65536 in
theorem w_c14 : (Jvm.Cond.code ({ cls := "com/example/inferlink/inferlink/Link", name := "<init>", desc := "(Ljava/lang/String;Ljava/lang/String;)V" } : Jvm.MethodName) prog_19_method_1_code (3 : Nat) (Option.none : Option Jvm.ClassFile.FieldType)).before args0 about1 = true := code_word (m := ⟨20, 0⟩) (meth := k20m0) (c := k20c0) (by decide +kernel) rfl rfl rfl (by decide +kernel)
set_option maxRecDepth 65536 in
theorem w_c15 : (Jvm.Cond.code ({ cls := "java/lang/Record", name := "<init>", desc := "()V" } : Jvm.MethodName) jdk_30_method_1_code (1 : Nat) (Option.none : Option Jvm.ClassFile.FieldType)).before args0 about1 = true := code_word (m := ⟨18, 0⟩) (meth := k18m0) (c := k18c0) (by decide +kernel) rfl rfl rfl (by decide +kernel)
set_option maxRecDepth 65536 in
theorem w_c16 : (Jvm.Cond.code ({ cls := "com/example/inferlink/inferlink/LinkDelayLostPinLaw", name := "status", desc := "(I)Lcom/example/inferlink/inferlink/LinkStatus;" } : Jvm.MethodName) method_3_code (1 : Nat) (Option.some (Jvm.ClassFile.FieldType.object "com/example/inferlink/inferlink/LinkStatus"))).before args0 about1 = true := code_word (m := ⟨1, 2⟩) (meth := k1m2) (c := k1c2) (by decide +kernel) rfl rfl rfl (by decide +kernel)
set_option maxRecDepth 65536 in
theorem w_c17 : (Jvm.Cond.code ({ cls := "com/example/inferlink/inferlink/LinkDelay", name := "<init>", desc := "(Lcom/example/inferlink/inferlink/Link;Lcom/example/inferlink/inferlink/LinkStatus;Ljava/util/List;)V" } : Jvm.MethodName) prog_20_method_1_code (7 : Nat) (Option.none : Option Jvm.ClassFile.FieldType)).before args0 about1 = true := code_word (m := ⟨19, 0⟩) (meth := k19m0) (c := k19c0) (by decide +kernel) rfl rfl rfl (by decide +kernel)
set_option maxRecDepth 65536 in
theorem w_c18 : (Jvm.Cond.code ({ cls := "java/util/ArrayList", name := "isEmpty", desc := "()Z" } : Jvm.MethodName) jdk_38_method_9_code (1 : Nat) (Option.some Jvm.ClassFile.FieldType.boolean)).before args0 about1 = true := code_word (m := ⟨11, 3⟩) (meth := k11m3) (c := k11c3) (by decide +kernel) rfl rfl rfl (by decide +kernel)
set_option maxRecDepth 65536 in
theorem w_c19 : (Jvm.Cond.code ({ cls := "com/example/inferlink/inferlink/LinkStatus", name := "hasSuccess", desc := "()Z" } : Jvm.MethodName) prog_22_method_5_code (1 : Nat) (Option.some Jvm.ClassFile.FieldType.boolean)).before args0 about1 = true := code_word (m := ⟨24, 0⟩) (meth := k24m0) (c := k24c0) (by decide +kernel) rfl rfl rfl (by decide +kernel)
set_option maxRecDepth 65536 in
theorem w_c20 : (Jvm.Cond.code ({ cls := "java/util/ArrayList", name := "iterator", desc := "()Ljava/util/Iterator;" } : Jvm.MethodName) jdk_38_method_55_code (1 : Nat) (Option.some (Jvm.ClassFile.FieldType.object "java/util/Iterator"))).before args0 about1 = true := code_word (m := ⟨11, 7⟩) (meth := k11m7) (c := k11c7) (by decide +kernel) rfl rfl rfl (by decide +kernel)
set_option maxRecDepth 65536 in
theorem w_c21 : (Jvm.Cond.code ({ cls := "java/util/ArrayList$Itr", name := "<init>", desc := "(Ljava/util/ArrayList;)V" } : Jvm.MethodName) jdk_49_method_1_code (2 : Nat) (Option.none : Option Jvm.ClassFile.FieldType)).before args0 about1 = true := code_word (m := ⟨26, 0⟩) (meth := k26m0) (c := k26c0) (by decide +kernel) rfl rfl rfl (by decide +kernel)
set_option maxRecDepth 65536 in
theorem w_c22 : (Jvm.Cond.code ({ cls := "java/util/ArrayList$Itr", name := "hasNext", desc := "()Z" } : Jvm.MethodName) jdk_49_method_2_code (1 : Nat) (Option.some Jvm.ClassFile.FieldType.boolean)).before args0 about1 = true := code_word (m := ⟨26, 1⟩) (meth := k26m1) (c := k26c1) (by decide +kernel) rfl rfl rfl (by decide +kernel)
set_option maxRecDepth 65536 in
theorem w_c23 : (Jvm.Cond.code ({ cls := "java/util/ArrayList$Itr", name := "next", desc := "()Ljava/lang/Object;" } : Jvm.MethodName) jdk_49_method_3_code (3 : Nat) (Option.some (Jvm.ClassFile.FieldType.object "java/lang/Object"))).before args0 about1 = true := code_word (m := ⟨26, 2⟩) (meth := k26m2) (c := k26c2) (by decide +kernel) rfl rfl rfl (by decide +kernel)
set_option maxRecDepth 65536 in
theorem w_c24 : (Jvm.Cond.code ({ cls := "java/util/ArrayList$Itr", name := "checkForComodification", desc := "()V" } : Jvm.MethodName) jdk_49_method_6_code (1 : Nat) (Option.none : Option Jvm.ClassFile.FieldType)).before args0 about1 = true := code_word (m := ⟨26, 3⟩) (meth := k26m3) (c := k26c3) (by decide +kernel) rfl rfl rfl (by decide +kernel)
set_option maxRecDepth 65536 in
theorem w_c25 : (Jvm.Cond.code ({ cls := "java/lang/Double", name := "doubleValue", desc := "()D" } : Jvm.MethodName) jdk_117_method_19_code (1 : Nat) (Option.some Jvm.ClassFile.FieldType.double)).before args0 about1 = true := code_word (m := ⟨16, 2⟩) (meth := k16m2) (c := k16c2) (by decide +kernel) rfl rfl rfl (by decide +kernel)
set_option maxRecDepth 65536 in
theorem w_c26 : (Jvm.Cond.code ({ cls := "java/util/List", name := "copyOf", desc := "(Ljava/util/Collection;)Ljava/util/List;" } : Jvm.MethodName) jdk_40_method_48_code (1 : Nat) (Option.some (Jvm.ClassFile.FieldType.object "java/util/List"))).before args0 about1 = true := code_word (m := ⟨6, 5⟩) (meth := k6m5) (c := k6c5) (by decide +kernel) rfl rfl rfl (by decide +kernel)
set_option maxRecDepth 65536 in
theorem w_c27 : (Jvm.Cond.code ({ cls := "java/util/ImmutableCollections", name := "listCopy", desc := "(Ljava/util/Collection;)Ljava/util/List;" } : Jvm.MethodName) jdk_56_method_3_code (2 : Nat) (Option.some (Jvm.ClassFile.FieldType.object "java/util/List"))).before args0 about1 = true := code_word (m := ⟨27, 1⟩) (meth := k27m1) (c := k27c1) (by decide +kernel) rfl rfl rfl (by decide +kernel)
set_option maxRecDepth 65536 in
theorem w_c28 : (Jvm.Cond.code ({ cls := "java/util/ArrayList", name := "toArray", desc := "()[Ljava/lang/Object;" } : Jvm.MethodName) jdk_38_method_16_code (1 : Nat) (Option.some (Jvm.ClassFile.FieldType.array (Jvm.ClassFile.FieldType.object "java/lang/Object")))).before args0 about1 = true := code_word (m := ⟨11, 4⟩) (meth := k11m4) (c := k11c4) (by decide +kernel) rfl rfl rfl (by decide +kernel)
set_option maxRecDepth 65536 in
theorem w_c29 : (Jvm.Cond.code ({ cls := "java/util/Arrays", name := "copyOf", desc := "([Ljava/lang/Object;I)[Ljava/lang/Object;" } : Jvm.MethodName) jdk_65_method_119_code (2 : Nat) (Option.some (Jvm.ClassFile.FieldType.array (Jvm.ClassFile.FieldType.object "java/lang/Object")))).before args0 about1 = true := code_word (m := ⟨32, 1⟩) (meth := k32m1) (c := k32c1) (by decide +kernel) rfl rfl rfl (by decide +kernel)
set_option maxRecDepth 65536 in
theorem w_c30 : (Jvm.Cond.code ({ cls := "java/util/Arrays", name := "copyOf", desc := "([Ljava/lang/Object;ILjava/lang/Class;)[Ljava/lang/Object;" } : Jvm.MethodName) jdk_65_method_120_code (4 : Nat) (Option.some (Jvm.ClassFile.FieldType.array (Jvm.ClassFile.FieldType.object "java/lang/Object")))).before args0 about1 = true := code_word (m := ⟨32, 2⟩) (meth := k32m2) (c := k32c2) (by decide +kernel) rfl rfl rfl (by decide +kernel)
set_option maxRecDepth 65536 in
theorem w_c31 : (Jvm.Cond.code ({ cls := "java/lang/Math", name := "min", desc := "(II)I" } : Jvm.MethodName) jdk_29_method_69_code (2 : Nat) (Option.some Jvm.ClassFile.FieldType.int)).before args0 about1 = true := code_word (m := ⟨17, 2⟩) (meth := k17m2) (c := k17c2) (by decide +kernel) rfl rfl rfl (by decide +kernel)
set_option maxRecDepth 65536 in
theorem w_c32 : (Jvm.Cond.code ({ cls := "java/util/List", name := "of", desc := "([Ljava/lang/Object;)Ljava/util/List;" } : Jvm.MethodName) jdk_40_method_47_code (2 : Nat) (Option.some (Jvm.ClassFile.FieldType.object "java/util/List"))).before args0 about1 = true := code_word (m := ⟨6, 4⟩) (meth := k6m4) (c := k6c4) (by decide +kernel) rfl rfl rfl (by decide +kernel)
set_option maxRecDepth 65536 in
theorem w_c33 : (Jvm.Cond.code ({ cls := "java/util/ImmutableCollections$List12", name := "<init>", desc := "(Ljava/lang/Object;Ljava/lang/Object;)V" } : Jvm.MethodName) jdk_44_method_2_code (3 : Nat) (Option.none : Option Jvm.ClassFile.FieldType)).before args0 about1 = true := code_word (m := ⟨30, 1⟩) (meth := k30m1) (c := k30c1) (by decide +kernel) rfl rfl rfl (by decide +kernel)
set_option maxRecDepth 65536 in
theorem w_c34 : (Jvm.Cond.code ({ cls := "java/util/ImmutableCollections$AbstractImmutableList", name := "<init>", desc := "()V" } : Jvm.MethodName) jdk_46_method_1_code (1 : Nat) (Option.none : Option Jvm.ClassFile.FieldType)).before args0 about1 = true := code_word (m := ⟨29, 0⟩) (meth := k29m0) (c := k29c0) (by decide +kernel) rfl rfl rfl (by decide +kernel)
set_option maxRecDepth 65536 in
theorem w_c35 : (Jvm.Cond.code ({ cls := "java/util/ImmutableCollections$AbstractImmutableCollection", name := "<init>", desc := "()V" } : Jvm.MethodName) jdk_47_method_1_code (1 : Nat) (Option.none : Option Jvm.ClassFile.FieldType)).before args0 about1 = true := code_word (m := ⟨28, 0⟩) (meth := k28m0) (c := k28c0) (by decide +kernel) rfl rfl rfl (by decide +kernel)
set_option maxRecDepth 65536 in
theorem w_c36 : (Jvm.Cond.code ({ cls := "java/util/Objects", name := "requireNonNull", desc := "(Ljava/lang/Object;)Ljava/lang/Object;" } : Jvm.MethodName) jdk_31_method_10_code (1 : Nat) (Option.some (Jvm.ClassFile.FieldType.object "java/lang/Object"))).before args0 about1 = true := code_word (m := ⟨34, 1⟩) (meth := k34m1) (c := k34c1) (by decide +kernel) rfl rfl rfl (by decide +kernel)
set_option maxRecDepth 65536 in
theorem w_c37 : (Jvm.Cond.code ({ cls := "com/example/inferlink/inferlink/LinkDelay", name := "lost", desc := "()D" } : Jvm.MethodName) prog_20_method_2_code (1 : Nat) (Option.some Jvm.ClassFile.FieldType.double)).before args0 about1 = true := code_word (m := ⟨19, 1⟩) (meth := k19m1) (c := k19c1) (by decide +kernel) rfl rfl rfl (by decide +kernel)
set_option maxRecDepth 65536 in
theorem w_c38 : (Jvm.Cond.code ({ cls := "java/util/ImmutableCollections$List12", name := "isEmpty", desc := "()Z" } : Jvm.MethodName) jdk_44_method_4_code (1 : Nat) (Option.some Jvm.ClassFile.FieldType.boolean)).before args0 about1 = true := code_word (m := ⟨30, 3⟩) (meth := k30m3) (c := k30c3) (by decide +kernel) rfl rfl rfl (by decide +kernel)
set_option maxRecDepth 65536 in
theorem w_c39 : (Jvm.Cond.code ({ cls := "java/util/ImmutableCollections$List12", name := "size", desc := "()I" } : Jvm.MethodName) jdk_44_method_3_code (1 : Nat) (Option.some Jvm.ClassFile.FieldType.int)).before args0 about1 = true := code_word (m := ⟨30, 2⟩) (meth := k30m2) (c := k30c2) (by decide +kernel) rfl rfl rfl (by decide +kernel)
set_option maxRecDepth 65536 in
theorem w_c40 : (Jvm.Cond.code ({ cls := "java/util/ImmutableCollections$List12", name := "get", desc := "(I)Ljava/lang/Object;" } : Jvm.MethodName) jdk_44_method_5_code (2 : Nat) (Option.some (Jvm.ClassFile.FieldType.object "java/lang/Object"))).before args0 about1 = true := code_word (m := ⟨30, 4⟩) (meth := k30m4) (c := k30c4) (by decide +kernel) rfl rfl rfl (by decide +kernel)
set_option maxRecDepth 65536 in
theorem w_c41 : (Jvm.Cond.code ({ cls := "java/util/ImmutableCollections$List12", name := "<init>", desc := "(Ljava/lang/Object;)V" } : Jvm.MethodName) jdk_44_method_1_code (2 : Nat) (Option.none : Option Jvm.ClassFile.FieldType)).before args0 about1 = true := code_word (m := ⟨30, 0⟩) (meth := k30m0) (c := k30c0) (by decide +kernel) rfl rfl rfl (by decide +kernel)
set_option maxRecDepth 65536 in
theorem w_c42 : (Jvm.Cond.code ({ cls := "java/util/ImmutableCollections", name := "listFromArray", desc := "([Ljava/lang/Object;)Ljava/util/List;" } : Jvm.MethodName) jdk_56_method_4_code (3 : Nat) (Option.some (Jvm.ClassFile.FieldType.object "java/util/List"))).before args0 about1 = true := code_word (m := ⟨27, 2⟩) (meth := k27m2) (c := k27c2) (by decide +kernel) rfl rfl rfl (by decide +kernel)
set_option maxRecDepth 65536 in
theorem w_c43 : (Jvm.Cond.code ({ cls := "java/util/ImmutableCollections$ListN", name := "<init>", desc := "([Ljava/lang/Object;Z)V" } : Jvm.MethodName) jdk_45_method_1_code (3 : Nat) (Option.none : Option Jvm.ClassFile.FieldType)).before args0 about1 = true := code_word (m := ⟨31, 0⟩) (meth := k31m0) (c := k31c0) (by decide +kernel) rfl rfl rfl (by decide +kernel)
set_option maxRecDepth 65536 in
theorem w_c44 : (Jvm.Cond.code ({ cls := "java/util/ImmutableCollections$ListN", name := "isEmpty", desc := "()Z" } : Jvm.MethodName) jdk_45_method_2_code (1 : Nat) (Option.some Jvm.ClassFile.FieldType.boolean)).before args0 about1 = true := code_word (m := ⟨31, 1⟩) (meth := k31m1) (c := k31c1) (by decide +kernel) rfl rfl rfl (by decide +kernel)
set_option maxRecDepth 65536 in
theorem w_c45 : (Jvm.Cond.code ({ cls := "java/util/ImmutableCollections$ListN", name := "size", desc := "()I" } : Jvm.MethodName) jdk_45_method_3_code (1 : Nat) (Option.some Jvm.ClassFile.FieldType.int)).before args0 about1 = true := code_word (m := ⟨31, 2⟩) (meth := k31m2) (c := k31c2) (by decide +kernel) rfl rfl rfl (by decide +kernel)
set_option maxRecDepth 65536 in
theorem w_c46 : (Jvm.Cond.code ({ cls := "java/util/ImmutableCollections$ListN", name := "get", desc := "(I)Ljava/lang/Object;" } : Jvm.MethodName) jdk_45_method_4_code (2 : Nat) (Option.some (Jvm.ClassFile.FieldType.object "java/lang/Object"))).before args0 about1 = true := code_word (m := ⟨31, 3⟩) (meth := k31m3) (c := k31c3) (by decide +kernel) rfl rfl rfl (by decide +kernel)
def codes1 : List Jvm.Cond := [Jvm.Cond.code x code maxLocals ret, Jvm.Cond.code ({ cls := "com/example/inferlink/inferlink/LinkDelayLostPinLaw", name := "prob", desc := "(I)D" } : Jvm.MethodName) method_2_code (1 : Nat) (Option.some Jvm.ClassFile.FieldType.double), Jvm.Cond.code ({ cls := "java/util/ArrayList", name := "<init>", desc := "()V" } : Jvm.MethodName) jdk_38_method_2_code (1 : Nat) (Option.none : Option Jvm.ClassFile.FieldType), Jvm.Cond.code ({ cls := "java/util/AbstractList", name := "<init>", desc := "()V" } : Jvm.MethodName) jdk_39_method_1_code (1 : Nat) (Option.none : Option Jvm.ClassFile.FieldType), Jvm.Cond.code ({ cls := "java/util/AbstractCollection", name := "<init>", desc := "()V" } : Jvm.MethodName) jdk_22_method_1_code (1 : Nat) (Option.none : Option Jvm.ClassFile.FieldType), Jvm.Cond.code ({ cls := "java/lang/Object", name := "<init>", desc := "()V" } : Jvm.MethodName) object_method_1_code (1 : Nat) (Option.none : Option Jvm.ClassFile.FieldType), Jvm.Cond.code ({ cls := "java/lang/Double", name := "valueOf", desc := "(D)Ljava/lang/Double;" } : Jvm.MethodName) jdk_117_method_4_code (2 : Nat) (Option.some (Jvm.ClassFile.FieldType.object "java/lang/Double")), Jvm.Cond.code ({ cls := "java/lang/Double", name := "<init>", desc := "(D)V" } : Jvm.MethodName) jdk_117_method_9_code (3 : Nat) (Option.none : Option Jvm.ClassFile.FieldType), Jvm.Cond.code ({ cls := "java/lang/Number", name := "<init>", desc := "()V" } : Jvm.MethodName) jdk_18_method_1_code (1 : Nat) (Option.none : Option Jvm.ClassFile.FieldType), Jvm.Cond.code ({ cls := "java/util/ArrayList", name := "add", desc := "(Ljava/lang/Object;)Z" } : Jvm.MethodName) jdk_38_method_25_code (2 : Nat) (Option.some Jvm.ClassFile.FieldType.boolean), Jvm.Cond.code ({ cls := "java/util/ArrayList", name := "add", desc := "(Ljava/lang/Object;[Ljava/lang/Object;I)V" } : Jvm.MethodName) jdk_38_method_24_code (4 : Nat) (Option.none : Option Jvm.ClassFile.FieldType), Jvm.Cond.code ({ cls := "java/util/ArrayList", name := "grow", desc := "()[Ljava/lang/Object;" } : Jvm.MethodName) jdk_38_method_7_code (1 : Nat) (Option.some (Jvm.ClassFile.FieldType.array (Jvm.ClassFile.FieldType.object "java/lang/Object"))), Jvm.Cond.code ({ cls := "java/util/ArrayList", name := "grow", desc := "(I)[Ljava/lang/Object;" } : Jvm.MethodName) jdk_38_method_6_code (4 : Nat) (Option.some (Jvm.ClassFile.FieldType.array (Jvm.ClassFile.FieldType.object "java/lang/Object"))), Jvm.Cond.code ({ cls := "java/lang/Math", name := "max", desc := "(II)I" } : Jvm.MethodName) jdk_29_method_65_code (2 : Nat) (Option.some Jvm.ClassFile.FieldType.int), Jvm.Cond.code ({ cls := "com/example/inferlink/inferlink/Link", name := "<init>", desc := "(Ljava/lang/String;Ljava/lang/String;)V" } : Jvm.MethodName) prog_19_method_1_code (3 : Nat) (Option.none : Option Jvm.ClassFile.FieldType), Jvm.Cond.code ({ cls := "java/lang/Record", name := "<init>", desc := "()V" } : Jvm.MethodName) jdk_30_method_1_code (1 : Nat) (Option.none : Option Jvm.ClassFile.FieldType), Jvm.Cond.code ({ cls := "com/example/inferlink/inferlink/LinkDelayLostPinLaw", name := "status", desc := "(I)Lcom/example/inferlink/inferlink/LinkStatus;" } : Jvm.MethodName) method_3_code (1 : Nat) (Option.some (Jvm.ClassFile.FieldType.object "com/example/inferlink/inferlink/LinkStatus")), Jvm.Cond.code ({ cls := "com/example/inferlink/inferlink/LinkDelay", name := "<init>", desc := "(Lcom/example/inferlink/inferlink/Link;Lcom/example/inferlink/inferlink/LinkStatus;Ljava/util/List;)V" } : Jvm.MethodName) prog_20_method_1_code (7 : Nat) (Option.none : Option Jvm.ClassFile.FieldType), Jvm.Cond.code ({ cls := "java/util/ArrayList", name := "isEmpty", desc := "()Z" } : Jvm.MethodName) jdk_38_method_9_code (1 : Nat) (Option.some Jvm.ClassFile.FieldType.boolean), Jvm.Cond.code ({ cls := "com/example/inferlink/inferlink/LinkStatus", name := "hasSuccess", desc := "()Z" } : Jvm.MethodName) prog_22_method_5_code (1 : Nat) (Option.some Jvm.ClassFile.FieldType.boolean), Jvm.Cond.code ({ cls := "java/util/ArrayList", name := "iterator", desc := "()Ljava/util/Iterator;" } : Jvm.MethodName) jdk_38_method_55_code (1 : Nat) (Option.some (Jvm.ClassFile.FieldType.object "java/util/Iterator")), Jvm.Cond.code ({ cls := "java/util/ArrayList$Itr", name := "<init>", desc := "(Ljava/util/ArrayList;)V" } : Jvm.MethodName) jdk_49_method_1_code (2 : Nat) (Option.none : Option Jvm.ClassFile.FieldType), Jvm.Cond.code ({ cls := "java/util/ArrayList$Itr", name := "hasNext", desc := "()Z" } : Jvm.MethodName) jdk_49_method_2_code (1 : Nat) (Option.some Jvm.ClassFile.FieldType.boolean), Jvm.Cond.code ({ cls := "java/util/ArrayList$Itr", name := "next", desc := "()Ljava/lang/Object;" } : Jvm.MethodName) jdk_49_method_3_code (3 : Nat) (Option.some (Jvm.ClassFile.FieldType.object "java/lang/Object")), Jvm.Cond.code ({ cls := "java/util/ArrayList$Itr", name := "checkForComodification", desc := "()V" } : Jvm.MethodName) jdk_49_method_6_code (1 : Nat) (Option.none : Option Jvm.ClassFile.FieldType), Jvm.Cond.code ({ cls := "java/lang/Double", name := "doubleValue", desc := "()D" } : Jvm.MethodName) jdk_117_method_19_code (1 : Nat) (Option.some Jvm.ClassFile.FieldType.double), Jvm.Cond.code ({ cls := "java/util/List", name := "copyOf", desc := "(Ljava/util/Collection;)Ljava/util/List;" } : Jvm.MethodName) jdk_40_method_48_code (1 : Nat) (Option.some (Jvm.ClassFile.FieldType.object "java/util/List")), Jvm.Cond.code ({ cls := "java/util/ImmutableCollections", name := "listCopy", desc := "(Ljava/util/Collection;)Ljava/util/List;" } : Jvm.MethodName) jdk_56_method_3_code (2 : Nat) (Option.some (Jvm.ClassFile.FieldType.object "java/util/List")), Jvm.Cond.code ({ cls := "java/util/ArrayList", name := "toArray", desc := "()[Ljava/lang/Object;" } : Jvm.MethodName) jdk_38_method_16_code (1 : Nat) (Option.some (Jvm.ClassFile.FieldType.array (Jvm.ClassFile.FieldType.object "java/lang/Object"))), Jvm.Cond.code ({ cls := "java/util/Arrays", name := "copyOf", desc := "([Ljava/lang/Object;I)[Ljava/lang/Object;" } : Jvm.MethodName) jdk_65_method_119_code (2 : Nat) (Option.some (Jvm.ClassFile.FieldType.array (Jvm.ClassFile.FieldType.object "java/lang/Object"))), Jvm.Cond.code ({ cls := "java/util/Arrays", name := "copyOf", desc := "([Ljava/lang/Object;ILjava/lang/Class;)[Ljava/lang/Object;" } : Jvm.MethodName) jdk_65_method_120_code (4 : Nat) (Option.some (Jvm.ClassFile.FieldType.array (Jvm.ClassFile.FieldType.object "java/lang/Object"))), Jvm.Cond.code ({ cls := "java/lang/Math", name := "min", desc := "(II)I" } : Jvm.MethodName) jdk_29_method_69_code (2 : Nat) (Option.some Jvm.ClassFile.FieldType.int), Jvm.Cond.code ({ cls := "java/util/List", name := "of", desc := "([Ljava/lang/Object;)Ljava/util/List;" } : Jvm.MethodName) jdk_40_method_47_code (2 : Nat) (Option.some (Jvm.ClassFile.FieldType.object "java/util/List")), Jvm.Cond.code ({ cls := "java/util/ImmutableCollections$List12", name := "<init>", desc := "(Ljava/lang/Object;Ljava/lang/Object;)V" } : Jvm.MethodName) jdk_44_method_2_code (3 : Nat) (Option.none : Option Jvm.ClassFile.FieldType), Jvm.Cond.code ({ cls := "java/util/ImmutableCollections$AbstractImmutableList", name := "<init>", desc := "()V" } : Jvm.MethodName) jdk_46_method_1_code (1 : Nat) (Option.none : Option Jvm.ClassFile.FieldType), Jvm.Cond.code ({ cls := "java/util/ImmutableCollections$AbstractImmutableCollection", name := "<init>", desc := "()V" } : Jvm.MethodName) jdk_47_method_1_code (1 : Nat) (Option.none : Option Jvm.ClassFile.FieldType), Jvm.Cond.code ({ cls := "java/util/Objects", name := "requireNonNull", desc := "(Ljava/lang/Object;)Ljava/lang/Object;" } : Jvm.MethodName) jdk_31_method_10_code (1 : Nat) (Option.some (Jvm.ClassFile.FieldType.object "java/lang/Object")), Jvm.Cond.code ({ cls := "com/example/inferlink/inferlink/LinkDelay", name := "lost", desc := "()D" } : Jvm.MethodName) prog_20_method_2_code (1 : Nat) (Option.some Jvm.ClassFile.FieldType.double), Jvm.Cond.code ({ cls := "java/util/ImmutableCollections$List12", name := "isEmpty", desc := "()Z" } : Jvm.MethodName) jdk_44_method_4_code (1 : Nat) (Option.some Jvm.ClassFile.FieldType.boolean), Jvm.Cond.code ({ cls := "java/util/ImmutableCollections$List12", name := "size", desc := "()I" } : Jvm.MethodName) jdk_44_method_3_code (1 : Nat) (Option.some Jvm.ClassFile.FieldType.int), Jvm.Cond.code ({ cls := "java/util/ImmutableCollections$List12", name := "get", desc := "(I)Ljava/lang/Object;" } : Jvm.MethodName) jdk_44_method_5_code (2 : Nat) (Option.some (Jvm.ClassFile.FieldType.object "java/lang/Object")), Jvm.Cond.code ({ cls := "java/util/ImmutableCollections$List12", name := "<init>", desc := "(Ljava/lang/Object;)V" } : Jvm.MethodName) jdk_44_method_1_code (2 : Nat) (Option.none : Option Jvm.ClassFile.FieldType), Jvm.Cond.code ({ cls := "java/util/ImmutableCollections", name := "listFromArray", desc := "([Ljava/lang/Object;)Ljava/util/List;" } : Jvm.MethodName) jdk_56_method_4_code (3 : Nat) (Option.some (Jvm.ClassFile.FieldType.object "java/util/List")), Jvm.Cond.code ({ cls := "java/util/ImmutableCollections$ListN", name := "<init>", desc := "([Ljava/lang/Object;Z)V" } : Jvm.MethodName) jdk_45_method_1_code (3 : Nat) (Option.none : Option Jvm.ClassFile.FieldType), Jvm.Cond.code ({ cls := "java/util/ImmutableCollections$ListN", name := "isEmpty", desc := "()Z" } : Jvm.MethodName) jdk_45_method_2_code (1 : Nat) (Option.some Jvm.ClassFile.FieldType.boolean), Jvm.Cond.code ({ cls := "java/util/ImmutableCollections$ListN", name := "size", desc := "()I" } : Jvm.MethodName) jdk_45_method_3_code (1 : Nat) (Option.some Jvm.ClassFile.FieldType.int), Jvm.Cond.code ({ cls := "java/util/ImmutableCollections$ListN", name := "get", desc := "(I)Ljava/lang/Object;" } : Jvm.MethodName) jdk_45_method_4_code (2 : Nat) (Option.some (Jvm.ClassFile.FieldType.object "java/lang/Object"))]
set_option maxRecDepth 65536 in
theorem codes_eq : words1.filter isCode = codes1 := rfl
theorem w_codes : ∀ c ∈ words1.filter isCode, c.before args0 about1 = true := by
  rw [codes_eq]
  intro c hc
  simp only [codes1, List.mem_cons, List.not_mem_nil, or_false] at hc
  rcases hc with rfl | rfl | rfl | rfl | rfl | rfl | rfl | rfl | rfl | rfl | rfl | rfl | rfl | rfl | rfl | rfl | rfl | rfl | rfl | rfl | rfl | rfl | rfl | rfl | rfl | rfl | rfl | rfl | rfl | rfl | rfl | rfl | rfl | rfl | rfl | rfl | rfl | rfl | rfl | rfl | rfl | rfl | rfl | rfl | rfl | rfl | rfl
  · exact w_c0
  · exact w_c1
  · exact w_c2
  · exact w_c3
  · exact w_c4
  · exact w_c5
  · exact w_c6
  · exact w_c7
  · exact w_c8
  · exact w_c9
  · exact w_c10
  · exact w_c11
  · exact w_c12
  · exact w_c13
  · exact w_c14
  · exact w_c15
  · exact w_c16
  · exact w_c17
  · exact w_c18
  · exact w_c19
  · exact w_c20
  · exact w_c21
  · exact w_c22
  · exact w_c23
  · exact w_c24
  · exact w_c25
  · exact w_c26
  · exact w_c27
  · exact w_c28
  · exact w_c29
  · exact w_c30
  · exact w_c31
  · exact w_c32
  · exact w_c33
  · exact w_c34
  · exact w_c35
  · exact w_c36
  · exact w_c37
  · exact w_c38
  · exact w_c39
  · exact w_c40
  · exact w_c41
  · exact w_c42
  · exact w_c43
  · exact w_c44
  · exact w_c45
  · exact w_c46
set_option maxRecDepth 65536 in
theorem w_t1 : (words1.take 24).all (fun c => isCode c || c.before args0 about1) = true := by decide +kernel
set_option maxRecDepth 65536 in
theorem w_t2 : ((words1.drop 24).take 24).all (fun c => isCode c || c.before args0 about1) = true := by decide +kernel
set_option maxRecDepth 65536 in
theorem w_t3 : (((words1.drop 24).drop 24).take 24).all (fun c => isCode c || c.before args0 about1) = true := by decide +kernel
set_option maxRecDepth 65536 in
theorem w_t4 : ((((words1.drop 24).drop 24).drop 24).take 24).all (fun c => isCode c || c.before args0 about1) = true := by decide +kernel
set_option maxRecDepth 65536 in
theorem w_t5 : (((((words1.drop 24).drop 24).drop 24).drop 24).take 24).all (fun c => isCode c || c.before args0 about1) = true := by decide +kernel
set_option maxRecDepth 65536 in
theorem w_t6 : ((((((words1.drop 24).drop 24).drop 24).drop 24).drop 24).take 24).all (fun c => isCode c || c.before args0 about1) = true := by decide +kernel
set_option maxRecDepth 65536 in
theorem w_t7 : (((((((words1.drop 24).drop 24).drop 24).drop 24).drop 24).drop 24).take 24).all (fun c => isCode c || c.before args0 about1) = true := by decide +kernel
set_option maxRecDepth 65536 in
theorem w_t8 : ((((((((words1.drop 24).drop 24).drop 24).drop 24).drop 24).drop 24).drop 24).take 24).all (fun c => isCode c || c.before args0 about1) = true := by decide +kernel
set_option maxRecDepth 65536 in
theorem w_t9 : (((((((((words1.drop 24).drop 24).drop 24).drop 24).drop 24).drop 24).drop 24).drop 24).take 24).all (fun c => isCode c || c.before args0 about1) = true := by decide +kernel
set_option maxRecDepth 65536 in
theorem w_t10 : ((((((((((words1.drop 24).drop 24).drop 24).drop 24).drop 24).drop 24).drop 24).drop 24).drop 24).take 24).all (fun c => isCode c || c.before args0 about1) = true := by decide +kernel
set_option maxRecDepth 65536 in
theorem w_t11 : (((((((((((words1.drop 24).drop 24).drop 24).drop 24).drop 24).drop 24).drop 24).drop 24).drop 24).drop 24).take 24).all (fun c => isCode c || c.before args0 about1) = true := by decide +kernel
set_option maxRecDepth 65536 in
theorem w_t12 : ((((((((((((words1.drop 24).drop 24).drop 24).drop 24).drop 24).drop 24).drop 24).drop 24).drop 24).drop 24).drop 24).take 24).all (fun c => isCode c || c.before args0 about1) = true := by decide +kernel
set_option maxRecDepth 65536 in
theorem w_t13 : (((((((((((((words1.drop 24).drop 24).drop 24).drop 24).drop 24).drop 24).drop 24).drop 24).drop 24).drop 24).drop 24).drop 24).take 24).all (fun c => isCode c || c.before args0 about1) = true := by decide +kernel
set_option maxRecDepth 65536 in
theorem w_t14 : ((((((((((((((words1.drop 24).drop 24).drop 24).drop 24).drop 24).drop 24).drop 24).drop 24).drop 24).drop 24).drop 24).drop 24).drop 24).take 24).all (fun c => isCode c || c.before args0 about1) = true := by decide +kernel
set_option maxRecDepth 65536 in
theorem w_t15 : ((((((((((((((words1.drop 24).drop 24).drop 24).drop 24).drop 24).drop 24).drop 24).drop 24).drop 24).drop 24).drop 24).drop 24).drop 24).drop 24).all (fun c => isCode c || c.before args0 about1) = true := by decide +kernel
theorem w_tables : (allAtoms (Jvm.Cond.code x code maxLocals ret :: tables_1)).before args0 about1 = true := by
  rw [allAtoms_all]
  show words1.all (fun c => c.before args0 about1) = true
  refine all_split ?_ w_codes
  rw [← List.take_append_drop 24 words1, List.all_append, w_t1, ← List.take_append_drop 24 (words1.drop 24), List.all_append, w_t2, ← List.take_append_drop 24 ((words1.drop 24).drop 24), List.all_append, w_t3, ← List.take_append_drop 24 (((words1.drop 24).drop 24).drop 24), List.all_append, w_t4, ← List.take_append_drop 24 ((((words1.drop 24).drop 24).drop 24).drop 24), List.all_append, w_t5, ← List.take_append_drop 24 (((((words1.drop 24).drop 24).drop 24).drop 24).drop 24), List.all_append, w_t6, ← List.take_append_drop 24 ((((((words1.drop 24).drop 24).drop 24).drop 24).drop 24).drop 24), List.all_append, w_t7, ← List.take_append_drop 24 (((((((words1.drop 24).drop 24).drop 24).drop 24).drop 24).drop 24).drop 24), List.all_append, w_t8, ← List.take_append_drop 24 ((((((((words1.drop 24).drop 24).drop 24).drop 24).drop 24).drop 24).drop 24).drop 24), List.all_append, w_t9, ← List.take_append_drop 24 (((((((((words1.drop 24).drop 24).drop 24).drop 24).drop 24).drop 24).drop 24).drop 24).drop 24), List.all_append, w_t10, ← List.take_append_drop 24 ((((((((((words1.drop 24).drop 24).drop 24).drop 24).drop 24).drop 24).drop 24).drop 24).drop 24).drop 24), List.all_append, w_t11, ← List.take_append_drop 24 (((((((((((words1.drop 24).drop 24).drop 24).drop 24).drop 24).drop 24).drop 24).drop 24).drop 24).drop 24).drop 24), List.all_append, w_t12, ← List.take_append_drop 24 ((((((((((((words1.drop 24).drop 24).drop 24).drop 24).drop 24).drop 24).drop 24).drop 24).drop 24).drop 24).drop 24).drop 24), List.all_append, w_t13, ← List.take_append_drop 24 (((((((((((((words1.drop 24).drop 24).drop 24).drop 24).drop 24).drop 24).drop 24).drop 24).drop 24).drop 24).drop 24).drop 24).drop 24), List.all_append, w_t14, w_t15]
  rfl
set_option maxRecDepth 65536 in
theorem w_rest : rest_1_c.before args0 about1 = true := by decide +kernel
set_option maxRecDepth 65536 in
theorem w_case : (Jvm.Cond.and given_1 narrow_1).before args0 about1 = true := by decide +kernel
theorem w_applies : (headSpec (Jvm.Cond.code x code maxLocals ret :: tables_1) room_1).applies x e0.platform about1 = true :=
  (Spec.applies_iff w_frames).mpr ⟨w_running, w_runnable, w_alone, w_named, w_hears, w_ripe, w_room, w_tables⟩
theorem atStart : AtStart classFile x code maxLocals ret World_1 tables_1 room_1 Calls_1 rest_1 Pre_1 launch0 p0 e0 about1 theMethod args0 below0 :=
  ⟨lists_1, trivial, launch0.admits_env _ _ _, launch0.least_env, fairChoices_fair.cas, fairChoices_fair.clock, w_frames, w_args, w_heap, w_applies, ⟨⟨40, k40, 3, by decide +kernel, rfl, rfl, _, rfl, rfl⟩, trivial⟩, w_rest, w_case⟩
end start1
theorem witness_1 : WitnessClaimed_1 := ⟨start1.p0, start1.e0, start1.about1, start1.theMethod, start1.args0, start1.below0, start1.atStart⟩
end Jvm.Pilot.@@N@@
