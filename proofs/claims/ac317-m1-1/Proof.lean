import JvmDerived
import JvmDerived.Pilot.@@N@@Statement
import JvmDerived.Pilot.@@N@@Code
set_option linter.unusedVariables false
set_option linter.unusedSimpArgs false
namespace Jvm.Pilot.@@N@@
open Jvm Jvm.ClassFile Sem Op Lib Jvm.Free Jvm.Stand Jvm.LawKit Jvm.RoadKit Bundle Jvm.Pilot.@@N@@.Jvm.D
/-- Java's >>> on longs and on ints -/
def own_sr (x : Int64) (k : Int32) : Int64 := ((x.toUInt64 >>> (k &&& 0x3f).toInt64.toUInt64).toInt64)
def own_sri (x : Int32) (k : Int32) : Int32 := ((x.toUInt32 >>> (k &&& 31).toUInt32).toInt32)
section Own
variable {p : Program} {l : Launch} {e : Env} {R : Room} {s : State} {m : MethodId} {args : Array Value} {below : List Frame} {meth : Method} {c : Code} {T : State} {locs : List Loc} {cells slots : Nat} {Z : State} {a0 : Array Value} {h : Heap} {Q : Option Value → Heap → List Loc → Prop} {kc kn : Nat}
/-- from the state A the body comes to an end that answers Q -/
def own_Go (tb : Tables) (e : Env) (below : List Frame) (s : State) (Q : Option Value → Heap → List Loc → Prop) (kc kn : Nat) (A : State) : Prop :=
  ∃ s₂ o, Steps tb e below A s₂ ∧ s₂.status = .running ∧ Ended s₂ below o ∧ ∃ v L, o = .returned v ∧ Q v s₂.heap L ∧ FrameEnd s o s₂ L kc kn
theorem own_by {tb : Tables} {A B : State} (g : ∀ t, Steps tb e below B t → Steps tb e below A t) (k : own_Go tb e below s Q kc kn B) : own_Go tb e below s Q kc kn A := by
  obtain ⟨s₂, o, h1, r⟩ := k
  exact ⟨s₂, o, g s₂ h1, r⟩
theorem own_end (X : Stand p l e R s m args below meth c T locs cells slots) {v : Option Value} (hv : meth.sig.returnType = none → v = none) (hlocks : meth.locks = false) {A : State}
    (hA : ∀ fs : List Frame, (∀ (f : JFrame) (acts : List Action), f.method = m → f.locked = none → f.entered = [] → (doReturn e (T.setTop f) acts v).1 = T.setFrames fs) → Steps p.tables e below A (T.setFrames fs)) (hk : cells ≤ kc) (hn : slots ≤ kn) (hQ : Q v T.heap locs) : own_Go p.tables e below s Q kc kn A := by
  obtain ⟨fs, hr, hrun, hended, hW, hsame⟩ := X.leave hv hlocks
  exact ⟨_, _, hA fs hr, hrun, hended, _, _, rfl, hQ, ⟨_, rfl⟩, hW, hsame.mono hk hn⟩
theorem own_retZ (X : Stand p l e R s m args below meth c T locs cells slots) (hx : p.tables.exec = Jvm.exec) (hlocks : meth.locks = false) (hret : meth.sig.returnType = some .boolean) {pc : Nat} {Ls : Array Slot} {z : Int32} {rest : List Value} (hd : decode c.code pc = .ok (.ireturn, 1)) (hk : cells ≤ kc) (hn : slots ≤ kn) (hQ : Q (some (.int (z &&& 1))) T.heap locs) : own_Go p.tables e below s Q kc kn (T.setTop (mkF m pc Ls (.int z :: rest))) :=
  own_end X (v := some (.int (z &&& 1))) (fun q => by rw [hret] at q; cases q) hlocks (fun fs hr => retN X hx (t := .boolean) hret (by simp) hd hr) hk hn hQ
theorem own_retI (X : Stand p l e R s m args below meth c T locs cells slots) (hx : p.tables.exec = Jvm.exec) (hlocks : meth.locks = false) (hret : meth.sig.returnType = some .int) {pc : Nat} {Ls : Array Slot} {z : Int32} {rest : List Value} (hd : decode c.code pc = .ok (.ireturn, 1)) (hk : cells ≤ kc) (hn : slots ≤ kn) (hQ : Q (some (.int z)) T.heap locs) : own_Go p.tables e below s Q kc kn (T.setTop (mkF m pc Ls (.int z :: rest))) :=
  own_end X (v := some (.int z)) (fun q => by rw [hret] at q; cases q) hlocks (fun fs hr => retOut X hx hret rfl (Or.inl ⟨rfl, Or.inl rfl, z, rfl⟩) hd hr) hk hn hQ
theorem own_retJ (X : Stand p l e R s m args below meth c T locs cells slots) (hx : p.tables.exec = Jvm.exec) (hlocks : meth.locks = false) (hret : meth.sig.returnType = some .long) {pc : Nat} {Ls : Array Slot} {z : Int64} {rest : List Value} (hd : decode c.code pc = .ok (.lreturn, 1)) (hk : cells ≤ kc) (hn : slots ≤ kn) (hQ : Q (some (.long z)) T.heap locs) : own_Go p.tables e below s Q kc kn (T.setTop (mkF m pc Ls (.long z :: rest))) :=
  own_end X (v := some (.long z)) (fun q => by rw [hret] at q; cases q) hlocks (fun fs hr => retOut X hx hret rfl (Or.inr (Or.inl ⟨rfl, rfl, z, rfl⟩)) hd hr) hk hn hQ
theorem own_retA (X : Stand p l e R s m args below meth c T locs cells slots) (hx : p.tables.exec = Jvm.exec) (hlocks : meth.locks = false) {t : FieldType} (hret : meth.sig.returnType = some t) (ht : t.isReference = true) {pc : Nat} {Ls : Array Slot} {a : Addr} {rest : List Value} (hd : decode c.code pc = .ok (.areturn, 1)) (hk : cells ≤ kc) (hn : slots ≤ kn) (hQ : Q (some (.ref a)) T.heap locs) : own_Go p.tables e below s Q kc kn (T.setTop (mkF m pc Ls (.ref a :: rest))) :=
  own_end X (v := some (.ref a)) (fun q => by rw [hret] at q; cases q) hlocks (fun fs hr => retOut X hx hret (by cases t <;> first | rfl | cases ht) (Or.inr (Or.inr (Or.inr (Or.inr ⟨rfl, ht, rfl⟩)))) hd hr) hk hn hQ
theorem own_retD (X : Stand p l e R s m args below meth c T locs cells slots) (hx : p.tables.exec = Jvm.exec) (hlocks : meth.locks = false) (hret : meth.sig.returnType = some .double) {pc : Nat} {Ls : Array Slot} {z : UInt64} {rest : List Value} (hd : decode c.code pc = .ok (.dreturn, 1)) (hk : cells ≤ kc) (hn : slots ≤ kn) (hQ : Q (some (.double z)) T.heap locs) : own_Go p.tables e below s Q kc kn (T.setTop (mkF m pc Ls (.double z :: rest))) :=
  own_end X (v := some (.double z)) (fun q => by rw [hret] at q; cases q) hlocks (fun fs hr => retOut X hx hret rfl (Or.inr (Or.inr (Or.inl ⟨rfl, rfl, z, rfl⟩))) hd hr) hk hn hQ
theorem own_retV (X : Stand p l e R s m args below meth c T locs cells slots) (hx : p.tables.exec = Jvm.exec) (hlocks : meth.locks = false) (hret : meth.sig.returnType = none) {pc : Nat} {Ls : Array Slot} (hd : decode c.code pc = .ok (.return_, 1)) (hk : cells ≤ kc) (hn : slots ≤ kn) (hQ : Q none T.heap locs) : own_Go p.tables e below s Q kc kn (T.setTop (mkF m pc Ls [])) :=
  own_end X (v := none) (fun _ => rfl) hlocks (fun fs hr => X.returnOut hx hret hd hr) hk hn hQ
/-- what a body of this text answers: from these arguments, at this heap -/
abbrev own_Met (l : Launch) (Z : State) (y : MethodName) (bytes : ByteArray) (maxL : Nat) (ret : Option FieldType) (ws : List Jvm.Cond) (rm : Room) (as' : Array Value) (h0 : Heap) (Q : Option Value → Heap → List Loc → Prop) : Prop :=
  MetFree l y (head1 (Jvm.Cond.code y bytes maxL ret :: ws) rm) (fun a U => a = as' ∧ Z.Warmed39 U.vm ∧ U.heap = h0) (fun _ _ _ _ _ => True) (fun _ U o U' => ∃ v L, o = .returned v ∧ Q v U'.heap L ∧ FrameEnd U o U' L rm.cells rm.slots)
theorem own_callS (X : Stand p l e R s m args below meth c T locs cells slots) (hx : p.tables.exec = Jvm.exec) (hZ : Z.Warmed39 s.vm) {own : String} {index : Nat} {y : MethodName} {bytes : ByteArray} {maxL : Nat} {ret : Option FieldType} {rm : Room} {as' : Array Value}
    (hown : s.vm.findClass own = some m.cls) (w1 : (Jvm.Cond.methodLink own index y).before a0 Z = true) (w2 : (Jvm.Cond.static y).before a0 Z = true) (w3 : (Jvm.Cond.initialized y.cls).before a0 Z = true) (w4 : (Jvm.Cond.code y bytes maxL ret).before a0 Z = true)
    (hy : y.cls ≠ "java/lang/invoke/MethodHandle" ∧ y.cls ≠ "java/lang/invoke/VarHandle") (hM : own_Met l Z y bytes maxL ret [] rm as' h Q) {W : Nat} (hf : rm.frames + 1 ≤ R.frames) (hl : W + (maxL + 11) + rm.locals ≤ R.locals) (eT : T.heap = h)
    {g : JFrame} (hg : g.method = m) (hsize : g.locals.size = c.maxLocals) {argsL rest : List Value} (hlen : ∀ sig, parseMethodDescriptor y.desc = some sig → argsL.length = sig.parameters.length) (hstack : g.stack = argsL.reverse ++ rest) (has : argsL.toArray = as')
    (hW : 2 * g.monitorRoom + (rest.map fun v => v.category).sum ≤ W) (hdg : decode c.code g.pc = .ok (.invokestatic index, 3)) (hc : cells + rm.cells ≤ R.cells) (hn : slots + rm.slots ≤ R.slots) :
    ∃ (v : Option Value) (T' : State) (L : List Loc), Stand p l e R s m args below meth c T' (locs ++ L) (cells + rm.cells) (slots + rm.slots) ∧ Q v T'.heap L ∧ ∀ t, Steps p.tables e below (T'.setTop { g with pc := g.pc + 3, stack := v.toList ++ rest }) t → Steps p.tables e below (T.setTop g) t := by
  subst eT
  obtain ⟨v, vm₁, ⟨T', L', k', n'⟩, -, X', ⟨Lc, hQ, l1, y1, z1⟩, st⟩ := Jvm.LawKit.callS X hx (y := y) hown (mvT hZ w1) (mvT hZ w2) (mvT hZ w3) (mvT hZ w4) hy (backOf (W := W) hM hZ w4 w3 hf hl) hg hsize (argsL := argsL) (rest := rest) hlen hstack hW hdg (fun _ _ => ⟨has, rfl, hc, hn⟩)
  dsimp only [Pt.U, Pt.locs, Pt.cells, Pt.slots] at X' l1 y1 z1 st hQ
  subst l1 y1 z1
  exact ⟨v, T', Lc, X', hQ, st⟩
theorem own_callI (X : Stand p l e R s m args below meth c T locs cells slots) (hx : p.tables.exec = Jvm.exec) (hZ : Z.Warmed39 s.vm) {own : String} {index : Nat} {y : MethodName} {bytes : ByteArray} {maxL : Nat} {rm : Room} {as' : Array Value} (hy1 : y.name = "<init>")
    (hown : s.vm.findClass own = some m.cls) (w1 : (Jvm.Cond.methodLink own index y).before a0 Z = true) (w2 : (Jvm.Cond.instanceMethod y).before a0 Z = true) (w3 : (Jvm.Cond.initialized y.cls).before a0 Z = true) (w4 : (Jvm.Cond.code y bytes maxL none).before a0 Z = true)
    (hy : y.cls ≠ "java/lang/invoke/MethodHandle" ∧ y.cls ≠ "java/lang/invoke/VarHandle") (hM : own_Met l Z y bytes maxL none [] rm as' h Q) {W : Nat} (hf : rm.frames + 1 ≤ R.frames) (hl : W + (maxL + 11) + rm.locals ≤ R.locals) (eT : T.heap = h)
    {g : JFrame} (hg : g.method = m) (hsize : g.locals.size = c.maxLocals) {a : Addr} {argsL rest : List Value} (hlen : ∀ sig, parseMethodDescriptor y.desc = some sig → argsL.length = sig.parameters.length) (hstack : g.stack = argsL.reverse ++ .ref a :: rest) (has : (Value.ref a :: argsL).toArray = as')
    (hW : 2 * g.monitorRoom + (rest.map fun v => v.category).sum ≤ W) (hdg : decode c.code g.pc = .ok (.invokespecial index, 3)) (hc : cells + rm.cells ≤ R.cells) (hn : slots + rm.slots ≤ R.slots) :
    ∃ (v : Option Value) (T' : State) (L : List Loc), Stand p l e R s m args below meth c T' (locs ++ L) (cells + rm.cells) (slots + rm.slots) ∧ Q v T'.heap L ∧ ∀ t, Steps p.tables e below (T'.setTop { g with pc := g.pc + 3, stack := v.toList ++ rest }) t → Steps p.tables e below (T.setTop g) t := by
  subst eT
  obtain ⟨v, vm₁, ⟨T', L', k', n'⟩, -, X', ⟨Lc, hQ, l1, y1, z1⟩, st⟩ := X.specialBack hx (y := y) hy1 hown (mvT hZ w1) (mvT hZ w2) (mvT hZ w4) hy (backOf (W := W) hM hZ w4 w3 hf hl) hg hsize (Steps.refl _) (a := a) (argsL := argsL) (rest := rest) hlen hstack hW hdg (fun _ _ => ⟨has, rfl, hc, hn⟩)
  dsimp only [Pt.U, Pt.locs, Pt.cells, Pt.slots] at X' l1 y1 z1 st hQ
  subst l1 y1 z1
  exact ⟨v, T', Lc, X', hQ, fun t k => st.trans k⟩
theorem own_callV (X : Stand p l e R s m args below meth c T locs cells slots) (hx : p.tables.exec = Jvm.exec) (hZ : Z.Warmed39 s.vm) {own : String} {index : Nat} {y : MethodName} {bytes : ByteArray} {maxL : Nat} {ret : Option FieldType} {rm : Room} {as' : Array Value}
    (hown : s.vm.findClass own = some m.cls) (w1 : (Jvm.Cond.methodLink own index y).before a0 Z = true) (w5 : (Jvm.Cond.declares y).before a0 Z = true) (w6 : (Jvm.Cond.selects y.cls y y).before a0 Z = true) (w2 : (Jvm.Cond.instanceMethod y).before a0 Z = true) (w3 : (Jvm.Cond.initialized y.cls).before a0 Z = true) (w4 : (Jvm.Cond.code y bytes maxL ret).before a0 Z = true)
    (hy : y.cls ≠ "java/lang/invoke/MethodHandle" ∧ y.cls ≠ "java/lang/invoke/VarHandle") (hM : own_Met l Z y bytes maxL ret [] rm as' h Q) {W : Nat} (hf : rm.frames + 1 ≤ R.frames) (hl : W + (maxL + 11) + rm.locals ≤ R.locals) (eT : T.heap = h) {a : Addr} (E : Exa Z h a y.cls)
    {g : JFrame} (hg : g.method = m) (hsize : g.locals.size = c.maxLocals) {argsL rest : List Value} (hlen : ∀ sig, parseMethodDescriptor y.desc = some sig → argsL.length = sig.parameters.length) (hstack : g.stack = argsL.reverse ++ .ref a :: rest) (has : (Value.ref a :: argsL).toArray = as')
    (hW : 2 * g.monitorRoom + (rest.map fun v => v.category).sum ≤ W) (hdg : decode c.code g.pc = .ok (.invokevirtual index, 3)) (hc : cells + rm.cells ≤ R.cells) (hn : slots + rm.slots ≤ R.slots) :
    ∃ (v : Option Value) (T' : State) (L : List Loc), Stand p l e R s m args below meth c T' (locs ++ L) (cells + rm.cells) (slots + rm.slots) ∧ Q v T'.heap L ∧ ∀ t, Steps p.tables e below (T'.setTop { g with pc := g.pc + 3, stack := v.toList ++ rest }) t → Steps p.tables e below (T.setTop g) t := by
  subst eT
  obtain ⟨cq, kq, qa, qb, qc⟩ := isOf hZ rfl E
  obtain ⟨v, vm₁, ⟨T', L', k', n'⟩, -, X', ⟨Lc, hQ, l1, y1, z1⟩, st⟩ := X.virtualBack hx (y := y) (z := y) hown (mvT hZ w1) (mvT hZ w5) (notFace_of_selects (args := #[]) (mvT hZ w6)) (mvT hZ w6) (mvT hZ w2) hy (backOf (W := W) hM hZ w4 w3 hf hl) qa qc hg hsize (Steps.refl _) (argsL := argsL) (rest := rest) hlen hstack hW hdg (fun _ _ => ⟨has, rfl, hc, hn⟩)
  dsimp only [Pt.U, Pt.locs, Pt.cells, Pt.slots] at X' l1 y1 z1 st hQ
  subst l1 y1 z1
  exact ⟨v, T', Lc, X', hQ, fun t k => st.trans k⟩
end Own

/-! ## the table of references: what stands in the heap -/
def own_i (k : Nat) : Int32 := Int32.ofNat k
theorem own_i_clamp : ∀ k, k < 6 → (own_i k).toNatClampNeg = k := by decide
theorem own_i_nn : ∀ k, k < 6 → ¬ own_i k < 0 := by decide
theorem own_i_lt : ∀ j, j < 6 → ∀ k, k < 6 → (own_i j < own_i k ↔ j < k) := by decide
theorem own_i_eq : ∀ j, j < 6 → ∀ k, k < 6 → (own_i j = own_i k ↔ j = k) := by decide
theorem own_i_succ : ∀ k, k < 6 → own_i k + 1 = own_i (k + 1) := by decide
theorem own_i_pred : ∀ k, k < 6 → own_i (k + 1) - 1 = own_i k := by decide
def own_iv (vs : List Int32) : List Value := vs.map Value.int
theorem own_iv_set (vs : List Int32) (i : Nat) (x : Int32) : (own_iv vs).set i (.int x) = own_iv (vs.set i x) := by simp [own_iv, List.map_set]
theorem own_iv_get (vs : List Int32) (i : Nat) : (own_iv vs).getD i (.int (0 : Int32)) = .int (vs.getD i 0) := by
  simp only [own_iv, List.getD_eq_getElem?_getD, List.getElem?_map]
  cases vs[i]? <;> rfl
theorem own_iv_len (vs : List Int32) : (own_iv vs).length = vs.length := by simp [own_iv]
def own_pr (i : Int32) (x y : Value) : List Value := if i = 0 then [x, y] else [y, x]
theorem own_pr_get {i : Int32} (hi : i = 0 ∨ i = 1) (x y d : Value) : (own_pr i x y).getD i.toNatClampNeg d = x := by rcases hi with rfl | rfl <;> rfl
theorem own_pr_set {i : Int32} (hi : i = 0 ∨ i = 1) (x y z : Value) : (own_pr i x y).set i.toNatClampNeg z = own_pr i z y := by rcases hi with rfl | rfl <;> rfl
theorem own_pr_len {i : Int32} (hi : i = 0 ∨ i = 1) (x y : Value) : i.toNatClampNeg < (own_pr i x y).length := by
  rcases hi with rfl | rfl
  · exact (by decide : (0 : Int32).toNatClampNeg < 2)
  · exact (by decide : (1 : Int32).toNatClampNeg < 2)
theorem own_pr_swap (x y : Value) : own_pr 0 x y = own_pr 1 y x := rfl
theorem own_i01 {i : Int32} (hi : i = 0 ∨ i = 1) : ¬ i < 0 ∧ i < (2 : Int32) := by rcases hi with rfl | rfl <;> decide
section OwnTab
variable {p : Program} {l : Launch} {e : Env} {R : Room} {s : State} {m : MethodId} {args : Array Value} {below : List Frame} {meth : Method} {c : Code} {T : State} {locs : List Loc} {cells slots : Nat} {Z : State} {a0 : Array Value} {h h' : Heap} {a : Addr} {k : ClassId} {ty : FieldType} {z : Int32} {vs : List Value} {dv : Value}
theorem own_ld (X : Stand p l e R s m args below meth c T locs cells slots) (hx : p.tables.exec = Jvm.exec) (hZ : Z.Warmed39 s.vm) (eT : T.heap = h) (A : Arv Z h a k .int z vs dv) {j : Int32} (hj : ¬ j < 0 ∧ j < z) {v : Value} (hv : vs.getD j.toNatClampNeg dv = v)
    {g : JFrame} (hg : g.method = m) {rest : List Value} (hs : g.stack = .int j :: .ref a :: rest) (hd : decode c.code g.pc = .ok (.iaload, 1)) : ∀ t, Steps p.tables e below (T.setTop { g with pc := g.pc + 1, stack := v :: rest }) t → Steps p.tables e below (T.setTop g) t := by
  obtain ⟨cl, Ar, -, Sz, Nn, Hs, -⟩ := A
  have hin := inb_of Sz hj
  exact fun t k => X.iaload hx (j := j) (v := v) (by rw [eT]; exact Ar.1) (State.isArrayOf_alike hZ.alike Ar.2.1) Ar.2.2 hin (Hs.at hin hv) hg hs hd t k
theorem own_ldA (X : Stand p l e R s m args below meth c T locs cells slots) (hx : p.tables.exec = Jvm.exec) (hZ : Z.Warmed39 s.vm) (eT : T.heap = h) (A : Arv Z h a k ty z vs dv) (hty : ty.isReference = true) {j : Int32} (hj : ¬ j < 0 ∧ j < z) {v : Value} (hv : vs.getD j.toNatClampNeg dv = v)
    {g : JFrame} (hg : g.method = m) {rest : List Value} (hs : g.stack = .int j :: .ref a :: rest) (hd : decode c.code g.pc = .ok (.aaload, 1)) : ∀ t, Steps p.tables e below (T.setTop { g with pc := g.pc + 1, stack := v :: rest }) t → Steps p.tables e below (T.setTop g) t := by
  obtain ⟨cl, Ar, -, Sz, Nn, Hs, -⟩ := A
  have hin := inb_of Sz hj
  exact fun t k => X.aaload hx (j := j) (v := v) (by rw [eT]; exact Ar.1) (State.isArrayOf_alike hZ.alike Ar.2.1) hty Ar.2.2 hin (Hs.at hin hv) hg hs hd t k
theorem own_len (X : Stand p l e R s m args below meth c T locs cells slots) (hx : p.tables.exec = Jvm.exec) (hZ : Z.Warmed39 s.vm) (eT : T.heap = h) (A : Arv Z h a k ty z vs dv)
    {g : JFrame} (hg : g.method = m) {rest : List Value} (hs : g.stack = .ref a :: rest) (hd : decode c.code g.pc = .ok (.arraylength, 1)) : ∀ t, Steps p.tables e below (T.setTop { g with pc := g.pc + 1, stack := .int z :: rest }) t → Steps p.tables e below (T.setTop g) t := by
  obtain ⟨cl, Ar, -, Sz, Nn, -, -⟩ := A
  intro t k
  refine X.arraylength hx (by rw [eT]; exact Ar.1) (State.isArrayOf_alike hZ.alike Ar.2.1) hg hs hd t ?_
  rw [len_of Sz Nn]
  exact k
theorem own_st (X : Stand p l e R s m args below meth c T locs cells slots) (hx : p.tables.exec = Jvm.exec) (hZ : Z.Warmed39 s.vm) (eT : T.heap = h) (A : Arv Z h a k .int z vs dv) {j x : Int32} (hj : ¬ j < 0 ∧ j < z)
    {g : JFrame} (hg : g.method = m) {rest : List Value} (hs : g.stack = .int x :: .int j :: .ref a :: rest) (hd : decode c.code g.pc = .ok (.iastore, 1)) :
    ∃ T' h', Stand p l e R s m args below meth c T' (locs ++ [⟨a, j.toNatClampNeg⟩]) cells slots ∧ T'.heap = h' ∧ Wr h h' a j.toNatClampNeg (.int x) ∧ ∀ t, Steps p.tables e below (T'.setTop { g with pc := g.pc + 1, stack := rest }) t → Steps p.tables e below (T.setTop g) t := by
  obtain ⟨cl, Ar, -, Sz, Nn, Hs, -⟩ := A
  exact stI X hx hZ eT Ar (inb_of Sz hj) hg hs hd
theorem own_stA (X : Stand p l e R s m args below meth c T locs cells slots) (hx : p.tables.exec = Jvm.exec) (hZ : Z.Warmed39 s.vm) (eT : T.heap = h) (A : Arv Z h a k (.array ty) z vs dv) {C : String} (O : OvrA Z k ty C) {y : Addr} (I : Ins Z h y C true) {j : Int32} (hj : ¬ j < 0 ∧ j < z)
    {g : JFrame} (hg : g.method = m) {rest : List Value} (hs : g.stack = .ref y :: .int j :: .ref a :: rest) (hd : decode c.code g.pc = .ok (.aastore, 1)) :
    ∃ T' h', Stand p l e R s m args below meth c T' (locs ++ [⟨a, j.toNatClampNeg⟩]) cells slots ∧ T'.heap = h' ∧ Wr h h' a j.toNatClampNeg (.ref y) ∧ ∀ t, Steps p.tables e below (T'.setTop { g with pc := g.pc + 1, stack := rest }) t → Steps p.tables e below (T.setTop g) t := by
  obtain ⟨cl, Ar, qk, Sz, Nn, Hs, -⟩ := A
  exact stR X hx hZ eT Ar (inb_of Sz hj) rfl (Sto.ofVA Ar qk O I) hg hs hd
theorem own_set (A : Arv Z h a k ty z vs dv) {j : Int32} {v : Value} (hv : fits ty v = true) (W : Wr h h' a j.toNatClampNeg v) {i : Nat} (hj : j.toNatClampNeg = i) (hi : i < vs.length) : Arv Z h' a k ty z (vs.set i v) dv := by
  obtain ⟨cl, Ar, qk, Sz, Nn, Hs, Gt⟩ := A
  exact Arv.set Ar qk Sz Nn Hs Gt hv W i hj hi
end OwnTab

/-! ## doubles that are whole numbers times a power of two -/
section OwnDy
open Jvm.FP Jvm.FP.Core Jvm.Free.Fl
/-- c * 2^q and n * 2^e are one number -/
def own_R (c : Nat) (q : Int) (n : Nat) (e : Int) : Prop := c * 2 ^ (q - e).toNat = n * 2 ^ (e - q).toNat
theorem own_R_scale {c : Nat} {q : Int} {n : Nat} {e : Int} (B : Nat) (hq : -(B : Int) ≤ q) (he : -(B : Int) ≤ e) : own_R c q n e ↔ c * 2 ^ (q + B).toNat = n * 2 ^ (e + B).toNat := by
  unfold own_R
  rcases Int.le_total e q with h | h
  · have h1 : (e - q).toNat = 0 := by omega
    have h2 : (q + B).toNat = (q - e).toNat + (e + B).toNat := by omega
    rw [h1, h2, Nat.pow_add, ← Nat.mul_assoc, Nat.pow_zero, Nat.mul_one]
    exact (Nat.mul_left_inj (Nat.ne_of_gt (Nat.two_pow_pos _))).symm
  · have h1 : (q - e).toNat = 0 := by omega
    have h2 : (e + B).toNat = (e - q).toNat + (q + B).toNat := by omega
    rw [h1, h2, Nat.pow_add, ← Nat.mul_assoc, Nat.pow_zero, Nat.mul_one]
    exact (Nat.mul_left_inj (Nat.ne_of_gt (Nat.two_pow_pos _))).symm
theorem own_R.refl (c : Nat) (q : Int) : own_R c q c q := rfl
theorem own_R.symm {c : Nat} {q : Int} {n : Nat} {e : Int} (h : own_R c q n e) : own_R n e c q := Eq.symm h
theorem own_R.trans {c : Nat} {q : Int} {n : Nat} {e : Int} {m : Nat} {f : Int} (h : own_R c q n e) (g : own_R n e m f) : own_R c q m f := by
  have B : ∃ B : Nat, -(B : Int) ≤ q ∧ -(B : Int) ≤ e ∧ -(B : Int) ≤ f := ⟨q.natAbs + e.natAbs + f.natAbs, by omega, by omega, by omega⟩
  obtain ⟨B, b1, b2, b3⟩ := B
  exact (own_R_scale B b1 b3).mpr (((own_R_scale B b1 b2).mp h).trans ((own_R_scale B b2 b3).mp g))
theorem own_R.mul {c d n m : Nat} {q r e f : Int} (h : own_R c q n e) (g : own_R d r m f) : own_R (c * d) (q + r) (n * m) (e + f) := by
  have B : ∃ B : Nat, -(B : Int) ≤ q ∧ -(B : Int) ≤ e ∧ -(B : Int) ≤ r ∧ -(B : Int) ≤ f := ⟨q.natAbs + e.natAbs + r.natAbs + f.natAbs, by omega, by omega, by omega, by omega⟩
  obtain ⟨B, b1, b2, b3, b4⟩ := B
  have h' := (own_R_scale B b1 b2).mp h
  have g' := (own_R_scale B b3 b4).mp g
  refine (own_R_scale (B + B) (by omega) (by omega)).mpr ?_
  have e1 : (q + r + ((B + B : Nat) : Int)).toNat = (q + B).toNat + (r + B).toNat := by omega
  have e2 : (e + f + ((B + B : Nat) : Int)).toNat = (e + B).toNat + (f + B).toNat := by omega
  rw [e1, e2, Nat.pow_add, Nat.pow_add, Nat.mul_mul_mul_comm, h', g', Nat.mul_mul_mul_comm]
/-- the difference of the exponents alone counts -/
theorem own_R.shift {c n : Nat} {q e q' e' : Int} (h : own_R c q n e) (k : q' - e' = q - e) : own_R c q' n e' := by
  unfold own_R at *
  have : e' - q' = e - q := by omega
  rw [k, this]; exact h
theorem own_R.add {c d n m : Nat} {q e : Int} (h : own_R c q n e) (g : own_R d q m e) : own_R (c + d) q (n + m) e := by
  unfold own_R at *
  rw [Nat.add_mul, Nat.add_mul, h, g]
theorem own_R.up (n k : Nat) (e : Int) : own_R n e (n * 2 ^ k) (e - k) := by
  unfold own_R
  have h1 : (e - (e - (k : Int))).toNat = k := by omega
  have h2 : (e - (k : Int) - e).toNat = 0 := by omega
  rw [h1, h2, Nat.pow_zero, Nat.mul_one]
theorem own_R.zero {q : Int} {n : Nat} {e : Int} (h : own_R 0 q n e) : n = 0 := by
  unfold own_R at h
  rw [Nat.zero_mul] at h
  rcases Nat.mul_eq_zero.mp h.symm with h | h
  · exact h
  · exact absurd h (Nat.ne_of_gt (Nat.two_pow_pos _))
/-- a number of at most 53 digits is one of the format's -/
theorem own_can {n : Nat} {e : Int} (s : Bool) (hn : n < 2 ^ 53) (he : -1022 ≤ e) (he2 : e ≤ 900) : ∃ c q, roundRatio b64 s n 1 e = .fin s c q ∧ own_R c q n e := by
  by_cases h0 : n = 0
  · subst h0
    exact ⟨0, b64.qmin, by unfold roundRatio; rw [if_pos rfl], by unfold own_R; rw [Nat.zero_mul, Nat.zero_mul]⟩
  · have l1 := Nat.log2_self_le h0
    have l2 : n < 2 ^ (n.log2 + 1) := Nat.lt_log2_self
    have l3 : n.log2 ≤ 52 := by
      have := (Nat.log2_lt h0).mpr hn
      omega
    obtain ⟨k, hk⟩ : ∃ k, n.log2 + k = 52 := ⟨52 - n.log2, by omega⟩
    have r := own_R.up n k e
    refine ⟨n * 2 ^ k, e - k, ?_, r.symm⟩
    have f1 : n * 2 ^ k < 2 ^ 53 := by
      have : n * 2 ^ k < 2 ^ (n.log2 + 1) * 2 ^ k := Nat.mul_lt_mul_of_pos_right l2 (Nat.two_pow_pos _)
      rw [← Nat.pow_add] at this
      have e2 : n.log2 + 1 + k = 53 := by omega
      rw [e2] at this; exact this
    have f2 : 2 ^ 52 ≤ n * 2 ^ k := by
      have : 2 ^ n.log2 * 2 ^ k ≤ n * 2 ^ k := Nat.mul_le_mul_right _ l1
      rw [← Nat.pow_add, hk] at this; exact this
    refine roundRatio_exact good_b64 (by decide) (show Jvm.FP.Core.fits b64 (Datum.fin s (n * 2 ^ k) (e - k)) from ⟨f1, ?_, ?_, Or.inr f2⟩) ?_
    · have : b64.qmin = -1074 := by decide
      omega
    · have : b64.qmax = 971 := by decide
      omega
    · rw [Nat.mul_one]; exact r
/-- the double a is n * 2^e -/
def own_Dy (a : UInt64) (n : Nat) (e : Int) : Prop := ∃ c q, val64 a = .fin false c q ∧ own_R c q n e
theorem own_round_R {s : Bool} {c n : Nat} {q e : Int} (h : own_R c q n e) : roundRatio b64 s c 1 q = roundRatio b64 s n 1 e :=
  roundRatio_congr (by decide) (by decide) (by rw [Nat.mul_one, Nat.mul_one]; exact h)
theorem own_Dy.val {a : UInt64} {n : Nat} {e : Int} (h : own_Dy a n e) : val64 a = roundRatio b64 false n 1 e := by
  obtain ⟨c, q, h1, h2⟩ := h
  rw [← own_round_R h2, h1]
  have := round_of_fits good_b64 (val64_fits a)
  rw [h1] at this
  exact this.symm
theorem own_Dy.nn {a : UInt64} {n : Nat} {e : Int} (h : own_Dy a n e) : NoNaN64 a := by
  obtain ⟨c, q, h1, h2⟩ := h
  exact val64_no.mpr (by rw [h1]; exact Datum.noConfusion)
theorem own_Dy.eq {a b : UInt64} {n : Nat} {e : Int} (h : own_Dy a n e) (g : own_Dy b n e) : a = b := val64_inj (val64_no.mp h.nn) (h.val.trans g.val.symm)
theorem own_Dy.re {a : UInt64} {n m : Nat} {e f : Int} (h : own_Dy a n e) (r : own_R n e m f) : own_Dy a m f := by
  obtain ⟨c, q, h1, h2⟩ := h
  exact ⟨c, q, h1, h2.trans r⟩
theorem own_Dy.of {a : UInt64} {n : Nat} {e : Int} (hn : n < 2 ^ 53) (he : -1022 ≤ e) (he2 : e ≤ 900) (h : val64 a = roundRatio b64 false n 1 e) : own_Dy a n e := by
  obtain ⟨c, q, h1, h2⟩ := own_can false hn he he2
  exact ⟨c, q, h.trans h1, h2⟩
theorem own_Dy.l2d {v : Int64} (h0 : 0 ≤ v.toInt) (h1 : v.toInt < 2 ^ 53) : own_Dy (FP.l2d v) v.toInt.toNat 0 := by
  refine own_Dy.of (by omega) (by omega) (by omega) ?_
  rw [show FP.l2d v = Core.l2d v from rfl, val64_l2d]
  unfold ofInt
  rw [show decide (v.toInt < 0) = false from decide_eq_false (by omega), show v.toInt.natAbs = v.toInt.toNat by omega]
  rfl
theorem own_Dy.mul {a b : UInt64} {n m : Nat} {e f : Int} (ha : own_Dy a n e) (hb : own_Dy b m f) (hn : n * m < 2 ^ 53) (he : -1022 ≤ e + f) (he2 : e + f ≤ 900) : own_Dy (FP.dmul a b) (n * m) (e + f) := by
  obtain ⟨c, q, h1, h2⟩ := ha
  obtain ⟨d, r, g1, g2⟩ := hb
  refine own_Dy.of hn he he2 ?_
  rw [show FP.dmul a b = Core.dmul a b from rfl, val64_dmul, h1, g1]
  exact own_round_R (h2.mul g2)
theorem own_Dy.add {a b : UInt64} {n m : Nat} {e : Int} (ha : own_Dy a n e) (hb : own_Dy b m e) (hn : n + m < 2 ^ 53) (he : -1022 ≤ e) (he2 : e ≤ 900) : own_Dy (FP.dadd a b) (n + m) e := by
  obtain ⟨c, q, h1, h2⟩ := ha
  obtain ⟨d, r, g1, g2⟩ := hb
  refine own_Dy.of hn he he2 ?_
  rw [show FP.dadd a b = Core.dadd a b from rfl, val64_dadd, h1, g1]
  have hs : sumUnits false c q false d r (min q r) = ((inUnits c q (min q r) + inUnits d r (min q r) : Nat) : Int) := by
    unfold sumUnits signed; simp
  have hz : sumSign false false (sumUnits false c q false d r (min q r)) = false := by
    rw [hs]; unfold sumSign
    split
    · rfl
    · exact decide_eq_false (by omega)
  simp only [exactSum]
  rw [hz, hs]
  refine own_round_R ?_
  have i1 : own_R (inUnits c q (min q r)) (min q r) c q := by
    unfold own_R inUnits
    have : (min q r - q).toNat = 0 := by omega
    rw [this, Nat.pow_zero, Nat.mul_one]
  have i2 : own_R (inUnits d r (min q r)) (min q r) d r := by
    unfold own_R inUnits
    have : (min q r - r).toNat = 0 := by omega
    rw [this, Nat.pow_zero, Nat.mul_one]
  exact (i1.trans h2).add (i2.trans g2)
theorem own_cmp {a b : UInt64} {n m : Nat} {e : Int} (ha : own_Dy a n e) (hb : own_Dy b m e) : FP.dcmp a b = some (compare (n : Int) (m : Int)) := by
  obtain ⟨c, q, h1, h2⟩ := ha
  obtain ⟨d, r, g1, g2⟩ := hb
  show order (val64 a) (val64 b) = _
  rw [h1, g1]
  simp only [order, signed, Bool.false_eq_true, if_false]
  have i1 : own_R (inUnits c q (min q r)) (min q r) c q := by
    unfold own_R inUnits
    have : (min q r - q).toNat = 0 := by omega
    rw [this, Nat.pow_zero, Nat.mul_one]
  have i2 : own_R (inUnits d r (min q r)) (min q r) d r := by
    unfold own_R inUnits
    have : (min q r - r).toNat = 0 := by omega
    rw [this, Nat.pow_zero, Nat.mul_one]
  have j1 := i1.trans h2
  have j2 := i2.trans g2
  unfold own_R at j1 j2
  generalize inUnits c q (min q r) = x at *
  generalize inUnits d r (min q r) = y at *
  generalize (min q r - e).toNat = u at *
  generalize (e - min q r).toNat = w at *
  have pu := Nat.two_pow_pos u
  have pw := Nat.two_pow_pos w
  have lt : x < y ↔ n < m := by
    rw [← Nat.mul_lt_mul_right pu, j1, j2, Nat.mul_lt_mul_right pw]
  have eq : x = y ↔ n = m := by
    constructor
    · intro h; rw [h, j2] at j1; exact (Nat.eq_of_mul_eq_mul_right pw j1).symm
    · intro h; rw [h, ← j2] at j1; exact Nat.eq_of_mul_eq_mul_right pu j1
  congr 1
  simp only [compare, compareOfLessAndEq, Int.ofNat_lt, Int.ofNat_inj]
  by_cases hl : x < y
  · rw [if_pos hl, if_pos (lt.mp hl)]
  · rw [if_neg hl, if_neg (fun q => hl (lt.mpr q))]
    by_cases hq : x = y
    · rw [if_pos hq, if_pos (eq.mp hq)]
    · rw [if_neg hq, if_neg (fun q => hq (eq.mpr q))]
end OwnDy

section OwnDy2
open Jvm.FP Jvm.FP.Core Jvm.Free.Fl
theorem own_rr_nn (f : Fmt) (s : Bool) (A B : Nat) (e : Int) : roundRatio f s A B e ≠ .nan := by
  unfold roundRatio roundAt settle bound
  repeat' split
  all_goals exact Datum.noConfusion
theorem own_Dy.div {a b : UInt64} {n : Nat} {e f : Int} (ha : own_Dy a n e) (hb : own_Dy b 1 f) (hn : n < 2 ^ 53) (he : -1022 ≤ e - f) (he2 : e - f ≤ 900) : own_Dy (FP.ddiv a b) n (e - f) := by
  obtain ⟨c, q, h1, h2⟩ := ha
  obtain ⟨d, r, g1, g2⟩ := hb
  refine own_Dy.of hn he he2 ?_
  rw [show FP.ddiv a b = Core.ddiv a b from rfl, val64_ddiv, h1, g1]
  have hd : d ≠ 0 := fun z => by
    subst z
    exact absurd g2.zero (by decide)
  simp only [quotient]
  rw [if_neg hd]
  refine roundRatio_congr (by omega) (by decide) ?_
  exact (h2.mul g2.symm).shift (by omega)
theorem own_pow_dy {w : Int32} {k : Nat} (hk : k ≤ 30) (hw : w.toInt = 2 ^ k) : own_Dy (FP.i2d w) 1 k := by
  have h1 : w.toInt64.toInt = 2 ^ k := by rw [c_i2l, hw]
  have hb : (2 : Int) ^ k ≤ 2 ^ 30 := by
    have : (2 : Nat) ^ k ≤ 2 ^ 30 := Nat.pow_le_pow_right (by decide) hk
    exact_mod_cast this
  have hp : (0 : Int) < 2 ^ k := by
    have : 0 < (2 : Nat) ^ k := Nat.two_pow_pos k
    exact_mod_cast this
  rw [i2d_w]
  have q := own_Dy.l2d (v := w.toInt64) (by rw [h1]; omega) (by rw [h1]; omega)
  refine q.re ?_
  have e1 : w.toInt64.toInt.toNat = 1 * 2 ^ k := by
    rw [h1, Nat.one_mul]
    have : ((2 : Int) ^ k) = ((2 ^ k : Nat) : Int) := by push_cast; rfl
    rw [this, Int.toNat_natCast]
  rw [e1]
  have := (own_R.up 1 k (k : Int)).symm
  rw [Int.sub_self] at this
  exact this
theorem own_int_dy {t : Int32} (h0 : 0 ≤ t.toInt) : own_Dy (FP.i2d t) t.toInt.toNat 0 := by
  have r := rng32 t
  rw [i2d_w]
  have q := own_Dy.l2d (v := t.toInt64) (by rw [c_i2l]; exact h0) (by rw [c_i2l]; omega)
  rw [c_i2l] at q
  exact q
/-- a long as a double: nought, or a number with 53 digits -/
theorem own_shape (v : Int64) : ∃ s c q, val64 (FP.l2d v) = .fin s c q ∧ (c = 0 ∨ (2 ^ 52 ≤ c ∧ c < 2 ^ 53 ∧ -60 ≤ q ∧ q ≤ 20)) := by
  by_cases h : v.toInt = 0
  · have e : v = 0 := Int64.toInt_inj.mp (by rw [h]; rfl)
    subst e
    exact ⟨false, 0, -1074, by decide +kernel, Or.inl rfl⟩
  · have hb := Core.l2d_big h
    have hm := Core.l2d_mag v
    show ∃ s c q, Core.decode b64 (Core.l2d v).toNat = .fin s c q ∧ _
    generalize (Core.l2d v).toNat = N at *
    have t : b64.tails = 2 ^ 52 := by decide
    have x : b64.exps = 2 ^ 11 := by decide
    have qm : b64.qmin = -1074 := by decide
    have hE : fieldE b64 N = N / 2 ^ 52 % 2 ^ 11 := by unfold fieldE; rw [t, x]
    have hT : fieldT b64 N = N % 2 ^ 52 := by unfold fieldT; rw [t]
    unfold Core.decode
    rw [if_neg (by rw [hE, x]; omega), if_neg (by rw [hE]; omega)]
    exact ⟨_, _, _, rfl, Or.inr ⟨by rw [t]; omega, by rw [t, hT]; omega, by rw [qm, hE]; omega, by rw [qm, hE]; omega⟩⟩
theorem own_mulpow {x D : UInt64} {s : Bool} {c : Nat} {q : Int} {E : Nat} (hx : val64 x = .fin s c q) (hc : c = 0 ∨ (2 ^ 52 ≤ c ∧ c < 2 ^ 53 ∧ -60 ≤ q ∧ q ≤ 20)) (hD : own_Dy D 1 E) (hE : E ≤ 100) : ∃ c' q', val64 (FP.dmul x D) = .fin s c' q' ∧ own_R c' q' c (q + E) := by
  obtain ⟨d, r, g1, g2⟩ := hD
  rw [show FP.dmul x D = Core.dmul x D from rfl, val64_dmul, hx, g1]
  have e1 : (s != false) = s := by cases s <;> rfl
  have e2 : roundRatio b64 s (c * d) 1 (q + r) = roundRatio b64 s c 1 (q + E) := by
    have := (own_R.refl c q).mul g2
    rw [Nat.mul_one] at this
    exact own_round_R this
  show ∃ c' q', roundRatio b64 (s != false) (c * d) 1 (q + r) = _ ∧ _
  rw [e1, e2]
  rcases hc with rfl | ⟨h1, h2, h3, h4⟩
  · exact ⟨0, b64.qmin, by unfold roundRatio; rw [if_pos rfl], by unfold own_R; rw [Nat.zero_mul, Nat.zero_mul]⟩
  · refine ⟨c, q + E, ?_, own_R.refl _ _⟩
    refine roundRatio_exact good_b64 (by decide) (show Jvm.FP.Core.fits b64 (Datum.fin s c (q + E)) from ⟨h2, ?_, ?_, Or.inr h1⟩) (by rw [Nat.mul_one])
    · have : b64.qmin = -1074 := by decide
      omega
    · have : b64.qmax = 971 := by decide
      omega
/-- x / (n / 2^E) and (x * 2^E) / n are one double -/
theorem own_same (v : Int64) {cov D N : UInt64} {n E : Nat} (hn : n ≠ 0) (hE : E ≤ 100) (hc : own_Dy cov n (-(E : Int))) (hD : own_Dy D 1 E) (hN : own_Dy N n 0) :
    FP.ddiv (FP.l2d v) cov = FP.ddiv (FP.dmul (FP.l2d v) D) N ∧ NoNaN64 (FP.ddiv (FP.l2d v) cov) ∧ NoNaN64 (FP.dmul (FP.l2d v) D) ∧ NoNaN64 (FP.ddiv (FP.dmul (FP.l2d v) D) N) := by
  obtain ⟨s, c, q, hx, hs⟩ := own_shape v
  obtain ⟨c', q', hm, hr⟩ := own_mulpow hx hs hD hE
  obtain ⟨d, r, g1, g2⟩ := hc
  obtain ⟨dN, rN, k1, k2⟩ := hN
  have hd : d ≠ 0 := fun z => by subst z; exact hn g2.zero
  have hdN : dN ≠ 0 := fun z => by subst z; exact hn k2.zero
  have e1 : (s != false) = s := by cases s <;> rfl
  have v1 : val64 (FP.ddiv (FP.l2d v) cov) = roundRatio b64 s c d (q - r) := by
    rw [show FP.ddiv (FP.l2d v) cov = Core.ddiv (FP.l2d v) cov from rfl, val64_ddiv, hx, g1]
    simp only [quotient]
    rw [if_neg hd, e1]
  have v2 : val64 (FP.ddiv (FP.dmul (FP.l2d v) D) N) = roundRatio b64 s c' dN (q' - rN) := by
    rw [show FP.ddiv (FP.dmul (FP.l2d v) D) N = Core.ddiv (FP.dmul (FP.l2d v) D) N from rfl, val64_ddiv, hm, k1]
    simp only [quotient]
    rw [if_neg hdN, e1]
  have ee : roundRatio b64 s c d (q - r) = roundRatio b64 s c' dN (q' - rN) := by
    refine roundRatio_congr (by omega) (by omega) ?_
    have a1 : own_R dN rN d (r + E) := k2.trans ((g2.shift (q' := r + E) (e' := 0) (by omega)).symm)
    have a2 := hr.symm.mul a1
    exact a2.shift (by omega)
  have n1 : NoNaN64 (FP.ddiv (FP.l2d v) cov) := val64_no.mpr (by rw [v1]; exact own_rr_nn _ _ _ _ _)
  have n2 : NoNaN64 (FP.ddiv (FP.dmul (FP.l2d v) D) N) := val64_no.mpr (by rw [v2]; exact own_rr_nn _ _ _ _ _)
  have n3 : NoNaN64 (FP.dmul (FP.l2d v) D) := val64_no.mpr (by rw [hm]; exact Datum.noConfusion)
  exact ⟨val64_inj (val64_no.mp n1) (by rw [v1, v2, ee]), n1, n3, n2⟩
end OwnDy2

/-! ## the object: two arrays of sixteen ints, and how many places of them count -/
def own_P (Z : State) (n0 : Nat) (a ta wa : Addr) (h : Heap) (d : Nat) (ts us : List Int32) : Prop :=
  (n0 ≤ a ∧ n0 ≤ ta ∧ n0 ≤ wa ∧ a ≠ ta ∧ a ≠ wa ∧ ta ≠ wa) ∧ Exa Z h a "com/example/proofhound/proofhound/symbolic/Progress" ∧ Fld Z h a "com/example/proofhound/proofhound/symbolic/Progress" "taken" "[I" (.ref ta) ∧ Fld Z h a "com/example/proofhound/proofhound/symbolic/Progress" "ways" "[I" (.ref wa) ∧ Fld Z h a "com/example/proofhound/proofhound/symbolic/Progress" "depth" "I" (.int (own_i d)) ∧
  (∃ k, Arv Z h ta k .int 16 (own_iv ts) (.int (0 : Int32))) ∧ (∃ k, Arv Z h wa k .int 16 (own_iv us) (.int (0 : Int32))) ∧ ts.length = 16 ∧ us.length = 16
theorem own_i_lt16' : ∀ q, q < 6 → own_i q < (16 : Int32) := by decide
theorem own_i_lt16 {q : Nat} (h : q < 6) : ¬ own_i q < 0 ∧ own_i q < (16 : Int32) := ⟨own_i_nn q h, own_i_lt16' q h⟩
theorem own_i_ne16 : ∀ q, q < 6 → ¬ own_i q = (16 : Int32) := by decide
theorem own_i_pred' : ∀ k, k < 6 → 0 < k → own_i k - 1 = own_i (k - 1) := by decide
theorem own_at6 {q : Nat} (hq : q < 6) (vs : List Int32) : (own_iv vs).getD (own_i q).toNatClampNeg (.int (0 : Int32)) = .int (vs.getD q 0) := by rw [own_i_clamp q hq]; exact own_iv_get vs q
theorem own_fit_int (x : Int32) : fits .int (.int x) = true := rfl
section OwnP
variable {Z : State} {n0 : Nat} {a ta wa : Addr} {h h' : Heap} {d : Nat} {ts us : List Int32} {x : Int32}
theorem own_P.exa (B : own_P Z n0 a ta wa h d ts us) : Exa Z h a "com/example/proofhound/proofhound/symbolic/Progress" := B.2.1
theorem own_P.fT (B : own_P Z n0 a ta wa h d ts us) : Fld Z h a "com/example/proofhound/proofhound/symbolic/Progress" "taken" "[I" (.ref ta) := B.2.2.1
theorem own_P.fW (B : own_P Z n0 a ta wa h d ts us) : Fld Z h a "com/example/proofhound/proofhound/symbolic/Progress" "ways" "[I" (.ref wa) := B.2.2.2.1
theorem own_P.fD (B : own_P Z n0 a ta wa h d ts us) : Fld Z h a "com/example/proofhound/proofhound/symbolic/Progress" "depth" "I" (.int (own_i d)) := B.2.2.2.2.1
theorem own_P.setT (B : own_P Z n0 a ta wa h d ts us) (hd : d < 6) (W : Wr h h' ta (own_i d).toNatClampNeg (.int x)) : own_P Z n0 a ta wa h' d (ts.set d x) us := by
  obtain ⟨g1, g2, g3, g4, g5, ⟨k, g6⟩, ⟨k', g7⟩, g8, g9⟩ := B
  exact ⟨g1, g2.wr W, g3.other W (Or.inl g1.2.2.2.1), g4.other W (Or.inl g1.2.2.2.1), g5.other W (Or.inl g1.2.2.2.1), ⟨k, by rw [← own_iv_set]; exact own_set g6 (own_fit_int x) W (own_i_clamp d hd) (by rw [own_iv_len]; omega)⟩, ⟨k', g7.other W g1.2.2.2.2.2.symm⟩, by rw [List.length_set]; exact g8, g9⟩
theorem own_P.setW (B : own_P Z n0 a ta wa h d ts us) (hd : d < 6) (W : Wr h h' wa (own_i d).toNatClampNeg (.int x)) : own_P Z n0 a ta wa h' d ts (us.set d x) := by
  obtain ⟨g1, g2, g3, g4, g5, ⟨k, g6⟩, ⟨k', g7⟩, g8, g9⟩ := B
  exact ⟨g1, g2.wr W, g3.other W (Or.inl g1.2.2.2.2.1), g4.other W (Or.inl g1.2.2.2.2.1), g5.other W (Or.inl g1.2.2.2.2.1), ⟨k, g6.other W g1.2.2.2.2.2⟩, ⟨k', by rw [← own_iv_set]; exact own_set g7 (own_fit_int x) W (own_i_clamp d hd) (by rw [own_iv_len]; omega)⟩, g8, by rw [List.length_set]; exact g9⟩
theorem own_P.setD (B : own_P Z n0 a ta wa h d ts us) (s1 : Jvm.RoadKit.slotOf Z "com/example/proofhound/proofhound/symbolic/Progress" "taken" "[I" ≠ Jvm.RoadKit.slotOf Z "com/example/proofhound/proofhound/symbolic/Progress" "depth" "I") (s2 : Jvm.RoadKit.slotOf Z "com/example/proofhound/proofhound/symbolic/Progress" "ways" "[I" ≠ Jvm.RoadKit.slotOf Z "com/example/proofhound/proofhound/symbolic/Progress" "depth" "I") {d' : Nat} (W : Wr h h' a (Jvm.RoadKit.slotOf Z "com/example/proofhound/proofhound/symbolic/Progress" "depth" "I") (.int (own_i d'))) : own_P Z n0 a ta wa h' d' ts us := by
  obtain ⟨g1, g2, g3, g4, g5, ⟨k, g6⟩, ⟨k', g7⟩, g8, g9⟩ := B
  exact ⟨g1, g2.wr W, g3.other W (Or.inr s1), g4.other W (Or.inr s2), g5.same W, ⟨k, g6.other W g1.2.2.2.1.symm⟩, ⟨k', g7.other W g1.2.2.2.2.1.symm⟩, g8, g9⟩
end OwnP
def own_L (Z : State) (n0 : Nat) (a ta wa : Addr) (h : Heap) (d : Nat) (T W : Nat → Int32) : Prop :=
  ∃ ts us, own_P Z n0 a ta wa h d ts us ∧ ∀ j, j < d → ts.getD j 0 = T j ∧ us.getD j 0 = W j
theorem own_getD_set (vs : List Int32) (i j : Nat) (z : Int32) (hi : i < vs.length) : (vs.set i z).getD j 0 = if j = i then z else vs.getD j 0 := by
  simp only [List.getD_eq_getElem?_getD, List.getElem?_set]
  by_cases e : i = j
  · subst e; simp [hi]
  · have e' : ¬ j = i := fun q => e q.symm
    simp [e, e']
theorem own_L.enter {Z : State} {n0 : Nat} {a ta wa : Addr} {h h' : Heap} {d : Nat} {ts us : List Int32} {T W : Nat → Int32} (B : own_P Z n0 a ta wa h d ts us) (H : ∀ j, j < d → ts.getD j 0 = T j ∧ us.getD j 0 = W j) (hd : d < 6) {x y : Int32} (hx : x = T d) (hy : y = W d) (B' : own_P Z n0 a ta wa h' (d + 1) (ts.set d x) (us.set d y)) : own_L Z n0 a ta wa h' (d + 1) T W := by
  refine ⟨_, _, B', fun j hj => ?_⟩
  have l1 := B.2.2.2.2.2.2.2.1
  have l2 := B.2.2.2.2.2.2.2.2
  rw [own_getD_set ts d j x (by omega), own_getD_set us d j y (by omega)]
  by_cases e : j = d
  · subst e; rw [if_pos rfl, if_pos rfl]; exact ⟨hx, hy⟩
  · rw [if_neg e, if_neg e]; exact H j (by omega)
/-! ## the numbers -/
def own_T3 (a b c : Int32) : Nat → Int32
  | 0 => a
  | 1 => b
  | _ => c
def own_G (T W : Nat → Int32) : Prop := ∀ j, 0 ≤ (T j).toInt ∧ (T j).toInt < (W j).toInt ∧ ∃ k : Nat, k ≤ 7 ∧ (W j).toInt = 2 ^ k
def own_ex (W : Nat → Int32) : Nat → Nat
  | 0 => 0
  | j + 1 => own_ex W j + (W j).toInt.toNat.log2
def own_nm (T W : Nat → Int32) : Nat → Nat
  | 0 => 0
  | j + 1 => own_nm T W j * (W j).toInt.toNat + (T j).toInt.toNat
theorem own_log {w : Int32} {k : Nat} (hw : w.toInt = 2 ^ k) : w.toInt.toNat = 2 ^ k ∧ w.toInt.toNat.log2 = k := by
  have : ((2 : Int) ^ k) = ((2 ^ k : Nat) : Int) := by push_cast; rfl
  rw [hw, this, Int.toNat_natCast]
  exact ⟨rfl, Nat.log2_two_pow⟩
theorem own_ex_le {T W : Nat → Int32} (G : own_G T W) (j : Nat) : own_ex W j ≤ 7 * j := by
  induction j with
  | zero => exact Nat.le_refl _
  | succ j ih =>
    obtain ⟨-, -, k, hk, hw⟩ := G j
    show own_ex W j + (W j).toInt.toNat.log2 ≤ _
    rw [(own_log hw).2]; omega
theorem own_nm_lt {T W : Nat → Int32} (G : own_G T W) (j : Nat) : own_nm T W j < 2 ^ own_ex W j := by
  induction j with
  | zero => exact Nat.one_pos
  | succ j ih =>
    obtain ⟨h0, h1, k, hk, hw⟩ := G j
    show own_nm T W j * (W j).toInt.toNat + (T j).toInt.toNat < 2 ^ (own_ex W j + (W j).toInt.toNat.log2)
    rw [(own_log hw).2, Nat.pow_add]
    have e := (own_log hw).1
    have h2 : (T j).toInt.toNat < 2 ^ k := by rw [← e]; omega
    rw [e]
    calc own_nm T W j * 2 ^ k + (T j).toInt.toNat < own_nm T W j * 2 ^ k + 2 ^ k := Nat.add_lt_add_left h2 _
      _ = (own_nm T W j + 1) * 2 ^ k := by rw [Nat.add_mul, Nat.one_mul]
      _ ≤ 2 ^ own_ex W j * 2 ^ k := Nat.mul_le_mul_right _ ih
section OwnTurn
open Jvm.FP Jvm.FP.Core Jvm.Free.Fl
theorem own_pow_bound {E : Nat} (h : E ≤ 28) {n : Nat} (hn : n < 2 ^ E) : n < 2 ^ 53 := Nat.lt_of_lt_of_le hn (Nat.pow_le_pow_right (by decide) (by omega))
theorem own_turn {T W : Nat → Int32} (G : own_G T W) {j : Nat} (hj : j ≤ 3) {cov sh : UInt64} (hc : own_Dy cov (own_nm T W j) (-(own_ex W j : Int))) (hs : own_Dy sh 1 (-(own_ex W j : Int))) :
    NoNaN64 (FP.dmul sh (FP.i2d (T j))) ∧ NoNaN64 (FP.ddiv (FP.dmul sh (FP.i2d (T j))) (FP.i2d (W j))) ∧ own_Dy (FP.dadd cov (FP.ddiv (FP.dmul sh (FP.i2d (T j))) (FP.i2d (W j)))) (own_nm T W (j + 1)) (-(own_ex W (j + 1) : Int)) ∧ own_Dy (FP.ddiv sh (FP.i2d (W j))) 1 (-(own_ex W (j + 1) : Int)) := by
  obtain ⟨h0, h1, k, hk, hw⟩ := G j
  have le := own_ex_le G j
  have le2 := own_ex_le G (j + 1)
  have lt := own_nm_lt G (j + 1)
  have ew := own_log hw
  have r := rng32 (T j)
  have e1 : (own_ex W (j + 1) : Int) = (own_ex W j : Int) + (k : Int) := by
    show ((own_ex W j + (W j).toInt.toNat.log2 : Nat) : Int) = _
    rw [ew.2]; push_cast; rfl
  have m1 := hs.mul (own_int_dy h0) (by omega) (by omega) (by omega)
  rw [Nat.one_mul, Int.add_zero] at m1
  have d1 := m1.div (own_pow_dy (by omega : k ≤ 30) hw) (by omega) (by omega) (by omega)
  have d2 := hs.div (own_pow_dy (by omega : k ≤ 30) hw) (by decide) (by omega) (by omega)
  have ee : (-(own_ex W j : Int) - (k : Int)) = -(own_ex W (j + 1) : Int) := by omega
  rw [ee] at d1 d2
  have hc2 : own_Dy cov (own_nm T W j * 2 ^ k) (-(own_ex W (j + 1) : Int)) := by
    have := hc.re (own_R.up (own_nm T W j) k (-(own_ex W j : Int)))
    rw [ee] at this; exact this
  have en : own_nm T W (j + 1) = own_nm T W j * 2 ^ k + (T j).toInt.toNat := by
    show own_nm T W j * (W j).toInt.toNat + (T j).toInt.toNat = _
    rw [ew.1]
  refine ⟨m1.nn, d1.nn, ?_, d2⟩
  rw [en]
  exact hc2.add d1 (by rw [← en]; exact own_pow_bound (by omega) lt) (by omega) (by omega)
theorem own_dy0 (e : Int) : own_Dy FP.dconst0 0 e := ⟨0, -1074, by decide +kernel, by unfold own_R; rw [Nat.zero_mul, Nat.zero_mul]⟩
theorem own_dy1 : own_Dy FP.dconst1 1 0 := ⟨2 ^ 52, -52, by decide +kernel, by unfold own_R; decide +kernel⟩
theorem own_pos {cov : UInt64} {n : Nat} {e : Int} (h : own_Dy cov n e) : (0 : Int32) < cmpValue (FP.dcmp cov FP.dconst0) .l ↔ n ≠ 0 := by
  rw [own_cmp h (own_dy0 e)]
  cases n with
  | zero => decide
  | succ n =>
    have : compare ((n + 1 : Nat) : Int) ((0 : Nat) : Int) = .gt := by
      simp only [compare, compareOfLessAndEq]
      rw [if_neg (by omega), if_neg (by omega)]
    rw [this]
    exact ⟨fun _ => by omega, fun _ => by decide⟩
theorem own_div_nn (v : Int64) {cov : UInt64} {n : Nat} {e : Int} (h : own_Dy cov n e) (hn : n ≠ 0) : NoNaN64 (FP.ddiv (FP.l2d v) cov) := by
  obtain ⟨s, c, q, hx, hs⟩ := own_shape v
  obtain ⟨d, r, g1, g2⟩ := h
  have hd : d ≠ 0 := fun z => by subst z; exact hn g2.zero
  refine val64_no.mpr ?_
  rw [show FP.ddiv (FP.l2d v) cov = Core.ddiv (FP.l2d v) cov from rfl, val64_ddiv, hx, g1]
  simp only [quotient]
  rw [if_neg hd]
  exact own_rr_nn _ _ _ _ _
def own_INF : UInt64 := 9218868437227405312
theorem own_inf : cmpValue (FP.dcmp (9218868437227405312 : UInt64) (9218868437227405312 : UInt64)) .l = (0 : Int32) := by decide +kernel
def own_EW (p : Int64) (n E : Nat) (g : UInt64) : Prop := (n = 0 ∧ g = 9218868437227405312) ∨ (n ≠ 0 ∧ ∃ cov, own_Dy cov n (-(E : Int)) ∧ g = FP.ddiv (FP.l2d p) cov)
theorem own_den_dy {den : Int64} {E : Nat} (hE : E ≤ 28) (h : den.toInt = 2 ^ E) : own_Dy (FP.l2d den) 1 E := by
  have c1 : ((2 : Int) ^ E) = ((2 ^ E : Nat) : Int) := by push_cast; rfl
  have b1 : (2 : Nat) ^ E ≤ 2 ^ 28 := Nat.pow_le_pow_right (by decide) hE
  rw [c1] at h
  have hp : 0 ≤ den.toInt ∧ den.toInt < 2 ^ 53 := by
    rw [h]
    generalize (2 : Nat) ^ E = P at b1
    omega
  have q := own_Dy.l2d (v := den) hp.1 hp.2
  refine q.re ?_
  rw [h, Int.toNat_natCast]
  have := (own_R.up 1 E (E : Int)).symm
  rw [Int.sub_self, Nat.one_mul] at this
  exact this
theorem own_num_dy {num : Int64} {n : Nat} (hn : n < 2 ^ 53) (h : num.toInt = (n : Int)) : own_Dy (FP.l2d num) n 0 := by
  have q := own_Dy.l2d (v := num) (by omega) (by omega)
  rw [h, Int.toNat_natCast] at q
  exact q
end OwnTurn
theorem own_pow7 (a : Int32) : ∃ k : Nat, k ≤ 7 ∧ ((1 : Int32) <<< ((a &&& (7 : Int32)) &&& 31)).toInt = 2 ^ k := by
  have h := c_mask a 7 3 (by decide) (by decide)
  have : (a &&& 7).toInt = 0 ∨ (a &&& 7).toInt = 1 ∨ (a &&& 7).toInt = 2 ∨ (a &&& 7).toInt = 3 ∨ (a &&& 7).toInt = 4 ∨ (a &&& 7).toInt = 5 ∨ (a &&& 7).toInt = 6 ∨ (a &&& 7).toInt = 7 := by omega
  rcases this with u | u | u | u | u | u | u | u
  · rw [show a &&& 7 = 0 from Int32.toInt_inj.mp (by rw [u]; rfl)]; exact ⟨0, by decide, by decide⟩
  · rw [show a &&& 7 = 1 from Int32.toInt_inj.mp (by rw [u]; rfl)]; exact ⟨1, by decide, by decide⟩
  · rw [show a &&& 7 = 2 from Int32.toInt_inj.mp (by rw [u]; rfl)]; exact ⟨2, by decide, by decide⟩
  · rw [show a &&& 7 = 3 from Int32.toInt_inj.mp (by rw [u]; rfl)]; exact ⟨3, by decide, by decide⟩
  · rw [show a &&& 7 = 4 from Int32.toInt_inj.mp (by rw [u]; rfl)]; exact ⟨4, by decide, by decide⟩
  · rw [show a &&& 7 = 5 from Int32.toInt_inj.mp (by rw [u]; rfl)]; exact ⟨5, by decide, by decide⟩
  · rw [show a &&& 7 = 6 from Int32.toInt_inj.mp (by rw [u]; rfl)]; exact ⟨6, by decide, by decide⟩
  · rw [show a &&& 7 = 7 from Int32.toInt_inj.mp (by rw [u]; rfl)]; exact ⟨7, by decide, by decide⟩
theorem own_wb {w : Int32} (h : ∃ k : Nat, k ≤ 7 ∧ w.toInt = 2 ^ k) : 1 ≤ w.toInt ∧ w.toInt ≤ 128 := by
  obtain ⟨k, hk, hw⟩ := h
  have c1 : ((2 : Int) ^ k) = ((2 ^ k : Nat) : Int) := by push_cast; rfl
  have b1 : (2 : Nat) ^ k ≤ 2 ^ 7 := Nat.pow_le_pow_right (by decide) hk
  have b2 := Nat.two_pow_pos k
  rw [hw, c1]
  omega
theorem own_tk (x : Int32) {w : Int32} (h : ∃ k : Nat, k ≤ 7 ∧ w.toInt = 2 ^ k) : 0 ≤ (x &&& (w - (1 : Int32))).toInt ∧ (x &&& (w - (1 : Int32))).toInt < w.toInt := by
  have b := own_wb h
  have s := c_isub w 1
  have e1 : (1 : Int32).toInt = 1 := by decide
  have r := rng32 (w - 1)
  have q := c_and x (w - 1) (by omega)
  omega
theorem own_and3 (m : Int32) : ∃ n : Nat, own_i n = (m &&& (3 : Int32)) ∧ n ≤ 3 := by
  have h := c_mask m 3 2 (by decide) (by decide)
  have : (m &&& 3).toInt = 0 ∨ (m &&& 3).toInt = 1 ∨ (m &&& 3).toInt = 2 ∨ (m &&& 3).toInt = 3 := by omega
  rcases this with u | u | u | u
  · exact ⟨0, Int32.toInt_inj.mp (by rw [u]; rfl), by omega⟩
  · exact ⟨1, Int32.toInt_inj.mp (by rw [u]; rfl), by omega⟩
  · exact ⟨2, Int32.toInt_inj.mp (by rw [u]; rfl), by omega⟩
  · exact ⟨3, Int32.toInt_inj.mp (by rw [u]; rfl), by omega⟩
theorem own_mulL {x y : Int64} (h0 : 0 ≤ x.toInt * y.toInt) (h : x.toInt * y.toInt < 4611686018427387904) : (x * y).toInt = x.toInt * y.toInt := by
  have c := c_lmul x y
  have r := rng64 (x * y)
  omega
theorem own_addL {x y : Int64} (h0 : 0 ≤ x.toInt + y.toInt) (h : x.toInt + y.toInt < 4611686018427387904) : (x + y).toInt = x.toInt + y.toInt := by
  have c := c_ladd x y
  have r := rng64 (x + y)
  omega
theorem own_mb {a b A B : Int} (h1 : 0 ≤ a) (h2 : a ≤ A) (h3 : 0 ≤ b) (h4 : b ≤ B) : 0 ≤ a * b ∧ a * b ≤ A * B := ⟨Int.mul_nonneg h1 h3, Int.mul_le_mul h2 h4 h3 (Int.le_trans h1 h2)⟩
section OwnNum
variable {t0 t1 t2 w0 w1 w2 : Int32}
theorem own_G3 (h0 : 0 ≤ t0.toInt ∧ t0.toInt < w0.toInt) (h1 : 0 ≤ t1.toInt ∧ t1.toInt < w1.toInt) (h2 : 0 ≤ t2.toInt ∧ t2.toInt < w2.toInt) (k0 : ∃ k : Nat, k ≤ 7 ∧ w0.toInt = 2 ^ k) (k1 : ∃ k : Nat, k ≤ 7 ∧ w1.toInt = 2 ^ k) (k2 : ∃ k : Nat, k ≤ 7 ∧ w2.toInt = 2 ^ k) : own_G (own_T3 t0 t1 t2) (own_T3 w0 w1 w2) := fun j =>
  match j with
  | 0 => ⟨h0.1, h0.2, k0⟩
  | 1 => ⟨h1.1, h1.2, k1⟩
  | _ + 2 => ⟨h2.1, h2.2, k2⟩
theorem own_w2 {w : Int32} {k : Nat} (h : w.toInt = 2 ^ k) : w.toInt = ((2 ^ k : Nat) : Int) := by rw [h]; push_cast; rfl
theorem own_nd1 (h0 : 0 ≤ t0.toInt ∧ t0.toInt < w0.toInt) (k0 : ∃ k : Nat, k ≤ 7 ∧ w0.toInt = 2 ^ k) : (t0.toInt64).toInt = (own_nm (own_T3 t0 t1 t2) (own_T3 w0 w1 w2) 1 : Int) ∧ (w0.toInt64).toInt = 2 ^ own_ex (own_T3 w0 w1 w2) 1 := by
  obtain ⟨a, ha, ea⟩ := k0
  rw [c_i2l, c_i2l]
  constructor
  · show _ = ((0 * w0.toInt.toNat + t0.toInt.toNat : Nat) : Int)
    omega
  · show _ = 2 ^ (0 + w0.toInt.toNat.log2)
    rw [(own_log ea).2, Nat.zero_add]; exact ea
theorem own_nd2 (h0 : 0 ≤ t0.toInt ∧ t0.toInt < w0.toInt) (h1 : 0 ≤ t1.toInt ∧ t1.toInt < w1.toInt) (k0 : ∃ k : Nat, k ≤ 7 ∧ w0.toInt = 2 ^ k) (k1 : ∃ k : Nat, k ≤ 7 ∧ w1.toInt = 2 ^ k) : (((t0.toInt64) * (w1.toInt64)) + (t1.toInt64)).toInt = (own_nm (own_T3 t0 t1 t2) (own_T3 w0 w1 w2) 2 : Int) ∧ ((w0.toInt64) * (w1.toInt64)).toInt = 2 ^ own_ex (own_T3 w0 w1 w2) 2 := by
  have b0 := own_wb k0
  have b1 := own_wb k1
  obtain ⟨a, ha, ea⟩ := k0
  obtain ⟨b, hb, eb⟩ := k1
  have m1 := own_mb h0.1 (by omega : t0.toInt ≤ 128) (by omega : 0 ≤ w1.toInt) b1.2
  have m2 := own_mb (by omega : 0 ≤ w0.toInt) b0.2 (by omega : 0 ≤ w1.toInt) b1.2
  have e1 : ((t0.toInt64) * (w1.toInt64)).toInt = t0.toInt * w1.toInt := by
    rw [own_mulL (by rw [c_i2l, c_i2l]; omega) (by rw [c_i2l, c_i2l]; omega), c_i2l, c_i2l]
  constructor
  · rw [own_addL (by rw [e1, c_i2l]; omega) (by rw [e1, c_i2l]; omega), e1, c_i2l]
    show _ = (((0 * w0.toInt.toNat + t0.toInt.toNat) * w1.toInt.toNat + t1.toInt.toNat : Nat) : Int)
    rw [Nat.zero_mul, Nat.zero_add]
    push_cast
    rw [Int.toNat_of_nonneg h0.1, Int.toNat_of_nonneg (by omega : 0 ≤ w1.toInt), Int.toNat_of_nonneg h1.1]
  · rw [own_mulL (by rw [c_i2l, c_i2l]; omega) (by rw [c_i2l, c_i2l]; omega), c_i2l, c_i2l]
    show _ = 2 ^ (0 + w0.toInt.toNat.log2 + w1.toInt.toNat.log2)
    rw [(own_log ea).2, (own_log eb).2, Nat.zero_add, ea, eb, Int.pow_add]
theorem own_nd3 (h0 : 0 ≤ t0.toInt ∧ t0.toInt < w0.toInt) (h1 : 0 ≤ t1.toInt ∧ t1.toInt < w1.toInt) (h2 : 0 ≤ t2.toInt ∧ t2.toInt < w2.toInt) (k0 : ∃ k : Nat, k ≤ 7 ∧ w0.toInt = 2 ^ k) (k1 : ∃ k : Nat, k ≤ 7 ∧ w1.toInt = 2 ^ k) (k2 : ∃ k : Nat, k ≤ 7 ∧ w2.toInt = 2 ^ k) : (((((t0.toInt64) * (w1.toInt64)) + (t1.toInt64)) * (w2.toInt64)) + (t2.toInt64)).toInt = (own_nm (own_T3 t0 t1 t2) (own_T3 w0 w1 w2) 3 : Int) ∧ (((w0.toInt64) * (w1.toInt64)) * (w2.toInt64)).toInt = 2 ^ own_ex (own_T3 w0 w1 w2) 3 := by
  obtain ⟨e1, e2⟩ := own_nd2 (t2 := t2) (w2 := w2) h0 h1 k0 k1
  have b0 := own_wb k0
  have b1 := own_wb k1
  have b2 := own_wb k2
  have m1 := own_mb h0.1 (by omega : t0.toInt ≤ 128) (by omega : 0 ≤ w1.toInt) b1.2
  have m2 := own_mb (by omega : 0 ≤ w0.toInt) b0.2 (by omega : 0 ≤ w1.toInt) b1.2
  have x1 : (((t0.toInt64) * (w1.toInt64)) + (t1.toInt64)).toInt = t0.toInt * w1.toInt + t1.toInt := by
    have q : ((t0.toInt64) * (w1.toInt64)).toInt = t0.toInt * w1.toInt := by
      rw [own_mulL (by rw [c_i2l, c_i2l]; omega) (by rw [c_i2l, c_i2l]; omega), c_i2l, c_i2l]
    rw [own_addL (by rw [q, c_i2l]; omega) (by rw [q, c_i2l]; omega), q, c_i2l]
  have x2 : ((w0.toInt64) * (w1.toInt64)).toInt = w0.toInt * w1.toInt := by
    rw [own_mulL (by rw [c_i2l, c_i2l]; omega) (by rw [c_i2l, c_i2l]; omega), c_i2l, c_i2l]
  have m3 := own_mb (by omega : 0 ≤ t0.toInt * w1.toInt + t1.toInt) (by omega : t0.toInt * w1.toInt + t1.toInt ≤ 16512) (by omega : 0 ≤ w2.toInt) b2.2
  have m4 := own_mb (by omega : 0 ≤ w0.toInt * w1.toInt) (by omega : w0.toInt * w1.toInt ≤ 16384) (by omega : 0 ≤ w2.toInt) b2.2
  have y1 : ((((t0.toInt64) * (w1.toInt64)) + (t1.toInt64)) * (w2.toInt64)).toInt = (t0.toInt * w1.toInt + t1.toInt) * w2.toInt := by
    rw [own_mulL (by rw [x1, c_i2l]; omega) (by rw [x1, c_i2l]; omega), x1, c_i2l]
  constructor
  · rw [own_addL (by rw [y1, c_i2l]; omega) (by rw [y1, c_i2l]; omega), y1, c_i2l, ← x1, e1]
    show _ = ((own_nm (own_T3 t0 t1 t2) (own_T3 w0 w1 w2) 2 * w2.toInt.toNat + t2.toInt.toNat : Nat) : Int)
    push_cast
    rw [Int.toNat_of_nonneg (by omega : 0 ≤ w2.toInt), Int.toNat_of_nonneg h2.1]
  · rw [own_mulL (by rw [x2, c_i2l]; omega) (by rw [x2, c_i2l]; omega), c_i2l, e2]
    obtain ⟨k, hk, ek⟩ := k2
    show _ = 2 ^ (own_ex (own_T3 w0 w1 w2) 2 + w2.toInt.toNat.log2)
    rw [(own_log ek).2, ek, Int.pow_add]
end OwnNum

theorem d1_0 : decode prog_230_method_1_code 0 = .ok (.aload_n 0, 1) := by decide +kernel
theorem d1_1 : decode prog_230_method_1_code 1 = .ok (.invokespecial 1, 3) := by decide +kernel
theorem d1_4 : decode prog_230_method_1_code 4 = .ok (.aload_n 0, 1) := by decide +kernel
theorem d1_5 : decode prog_230_method_1_code 5 = .ok (.bipush 16, 2) := by decide +kernel
theorem d1_7 : decode prog_230_method_1_code 7 = .ok (.newarray .int, 2) := by decide +kernel
theorem d1_9 : decode prog_230_method_1_code 9 = .ok (.putfield 7, 3) := by decide +kernel
theorem d1_12 : decode prog_230_method_1_code 12 = .ok (.aload_n 0, 1) := by decide +kernel
theorem d1_13 : decode prog_230_method_1_code 13 = .ok (.bipush 16, 2) := by decide +kernel
theorem d1_15 : decode prog_230_method_1_code 15 = .ok (.newarray .int, 2) := by decide +kernel
theorem d1_17 : decode prog_230_method_1_code 17 = .ok (.putfield 13, 3) := by decide +kernel
theorem d1_20 : decode prog_230_method_1_code 20 = .ok (.return_, 1) := by decide +kernel
theorem pf_1 : plainFor (⟨"com/example/proofhound/proofhound/symbolic/Progress", "<init>", "()V"⟩ : MethodName) = true := by first | exact plainFor_of_name (by first | (simp [plainName, overriddenIn]; done) | decide +kernel) | decide +kernel
theorem pd_1 : parseMethodDescriptor "()V" = some ⟨[], none⟩ := by decide +kernel
theorem ef_1 (m : MethodId) (p0 : Addr) : entryFrame m #[(.ref p0)] 1 = mkF m 0 #[.val (.ref p0)] [] := by first | (simp [entryFrame, mkF, argsToLocals, Value.category]; done) | rfl
def Q1 (Z : State) (p0 : Addr) (h0 : Heap) (n0 : Nat) (v : Option Value) (h : Heap) (L : List Loc) : Prop := ∃ ta wa : Addr, v = none ∧ Fr n0 L ∧ n0 ≤ h.size ∧ own_P Z n0 p0 ta wa h 0 (List.replicate 16 0) (List.replicate 16 0)
set_option maxRecDepth 65536 in
set_option maxHeartbeats 40000000 in
theorem rm1 (l : Launch) (Z : State) (a0 : Array Value) (hw : ∀ d ∈ tables_1, d.before a0 Z = true) (ws : List Jvm.Cond) (p0 : Addr) (h0 : Heap) (n0 : Nat) (Z0 : n0 ≤ h0.size) (Ex0 : Exa Z h0 p0 "com/example/proofhound/proofhound/symbolic/Progress") (Fataken : Fld Z h0 p0 "com/example/proofhound/proofhound/symbolic/Progress" "taken" "[I" .null) (Faways : Fld Z h0 p0 "com/example/proofhound/proofhound/symbolic/Progress" "ways" "[I" .null) (Fadepth : Fld Z h0 p0 "com/example/proofhound/proofhound/symbolic/Progress" "depth" "I" (.int (0 : Int32))) (ge0 : n0 ≤ p0) :
    own_Met l Z (⟨"com/example/proofhound/proofhound/symbolic/Progress", "<init>", "()V"⟩ : MethodName) prog_230_method_1_code 1 none ws ({ frames := 1, cells := 2, slots := 32, locals := 12 } : Room) #[(.ref p0)] h0 (Q1 Z p0 h0 n0) := by
  refine MetFree.of_bodySF pf_1 hisR ?_
  intro p e s m args below meth c s₁ Bd hml0 hP hK
  obtain ⟨rfl, hZ, hh⟩ := hP
  have hx := Bd.exec
  have hby := Bd.bytes
  have hlk : meth.locks = false := BodyLoose.notSynchronized Bd
  have hml : c.maxLocals = 1 := hml0
  have hown : s.vm.findClass "com/example/proofhound/proofhound/symbolic/Progress" = some m.cls := findClass_of_methodNamed Bd.named
  have hnm := (name_of_methodNamed Bd.named Bd.method).1
  have X0 : Stand p l e ({ frames := 1, cells := 2, slots := 32, locals := 12 } : Room) s m #[(.ref p0)] below meth c s₁ [] 0 0 := Stand.of_body Bd
  have e0 : s₁.heap = h0 := by rw [← hh, Bd.state]; rfl
  have N0 := Fr.nil n0
  show own_Go p.tables e below s (Q1 Z p0 h0 n0) ({ frames := 1, cells := 2, slots := 32, locals := 12 } : Room).cells ({ frames := 1, cells := 2, slots := 32, locals := 12 } : Room).slots _
  refine own_by (fun _ k => castTop (ef_1 m p0) k) ?_
  show own_Go p.tables e below s _ _ _ (s₁.setTop (mkF m 0 #[.val (.ref p0)] []))
  refine own_by (fun _ kz => XS.aloadN X0.here hx rfl (hb hby d1_0) rfl rfl kz) ?_
  show own_Go p.tables e below s _ _ _ (s₁.setTop (mkF m 1 #[.val (.ref p0)] [(.ref p0)]))
  obtain ⟨T1, X1, e1, st1⟩ := initO X0 hx hZ hown (hw _ (List.mem_of_getElem? (i := 6) rfl)) (hw _ (List.mem_of_getElem? (i := 7) rfl)) (hw _ (List.mem_of_getElem? (i := 8) rfl)) e0 (g := (mkF m 1 #[.val (.ref p0)] [(.ref p0)])) rfl (by rw [hml]; rfl) rfl (hb hby d1_1) (by decide) (W := 0) (by show 2 * 0 + _ ≤ _; exact Nat.le_of_eq rfl) (by decide)
  refine own_by st1 ?_
  show own_Go p.tables e below s _ _ _ (T1.setTop (mkF m 4 #[.val (.ref p0)] []))
  refine own_by (fun _ kz => XS.aloadN X1.here hx rfl (hb hby d1_4) rfl rfl kz) ?_
  show own_Go p.tables e below s _ _ _ (T1.setTop (mkF m 5 #[.val (.ref p0)] [(.ref p0)]))
  refine own_by (fun _ kz => XS.bipush X1.here hx rfl (hb hby d1_5) kz) ?_
  show own_Go p.tables e below s _ _ _ (T1.setTop (mkF m 7 #[.val (.ref p0)] [(.int (16 : Int32)), (.ref p0)]))
  obtain ⟨T2, h2, k2, X2, e2, E2, A2, st2⟩ := newP X1 hx hZ (hw _ (List.mem_of_getElem? (i := 9) rfl)) e1 (g := (mkF m 7 #[.val (.ref p0)] [(.int (16 : Int32)), (.ref p0)])) rfl (hb hby d1_7) rfl (by decide) (cap := 16) (by decide) (by decide) (by decide) (by decide)
  obtain ⟨b2, g2⟩ : ∃ z, z = h0.size := ⟨_, rfl⟩
  rw [← g2] at A2 st2
  have ge_b2 : n0 ≤ b2 := Nat.le_trans Z0 (Nat.le_of_eq g2.symm)
  have ne_p0_b2 : p0 ≠ b2 := by rw [g2]; exact Nat.ne_of_lt Ex0.lt
  have Z2 : n0 ≤ h2.size := Nat.le_trans Z0 E2.1
  have Ex0_h2 := Ex0.ext E2
  have Fataken_h2 := Fataken.ext E2
  have Faways_h2 := Faways.ext E2
  have Fadepth_h2 := Fadepth.ext E2
  have V2 : Arv Z h2 b2 k2 .int (16 : Int32) [(.int (0 : Int32)), (.int (0 : Int32)), (.int (0 : Int32)), (.int (0 : Int32)), (.int (0 : Int32)), (.int (0 : Int32)), (.int (0 : Int32)), (.int (0 : Int32)), (.int (0 : Int32)), (.int (0 : Int32)), (.int (0 : Int32)), (.int (0 : Int32)), (.int (0 : Int32)), (.int (0 : Int32)), (.int (0 : Int32)), (.int (0 : Int32))] (.int (0 : Int32)) := (Arv.new A2 (by decide)).pad (fun i => pad_rep [] _ 16 i)
  refine own_by st2 ?_
  show own_Go p.tables e below s _ _ _ (T2.setTop (mkF m 9 #[.val (.ref p0)] [(.ref b2), (.ref p0)]))
  obtain ⟨T3, h3, X3, e3, W3, st3⟩ := putF X2 hx hZ hown (host := "") (Or.inl (hw _ (List.mem_of_getElem? (i := 10) rfl))) Via.refl e2 Fataken_h2 Ex0_h2 (Or.inl (hw _ (List.mem_of_getElem? (i := 11) rfl))) (hw _ (List.mem_of_getElem? (i := 1) rfl)) (ty := (.array .int)) (by decide) rfl rfl (g := (mkF m 9 #[.val (.ref p0)] [(.ref b2), (.ref p0)])) rfl rfl (hb hby d1_9)
  have N3 := Fr.snoc X3 N0 ge0
  have Z3 : n0 ≤ h3.size := by rw [W3.size]; exact Z2
  have Ex0_h3 := Ex0_h2.wr W3
  have Fataken_h3 := Fataken_h2.same W3
  have Faways_h3 := Faways_h2.other W3 (Or.inr (slot_ne (Or.inl (hw _ (List.mem_of_getElem? (i := 13) rfl))) (Or.inl (hw _ (List.mem_of_getElem? (i := 11) rfl))) (by decide) (by decide : parseFieldDescriptor "[I" = some (.array .int)) (by decide : parseFieldDescriptor "[I" = some (.array .int))))
  have Fadepth_h3 := Fadepth_h2.other W3 (Or.inr (slot_ne (Or.inl (hw _ (List.mem_of_getElem? (i := 20) rfl))) (Or.inl (hw _ (List.mem_of_getElem? (i := 11) rfl))) (by decide) (by decide : parseFieldDescriptor "I" = some .int) (by decide : parseFieldDescriptor "[I" = some (.array .int))))
  have V2_h3 := V2.other W3 (Ne.symm ne_p0_b2)
  refine own_by st3 ?_
  show own_Go p.tables e below s _ _ _ (T3.setTop (mkF m 12 #[.val (.ref p0)] []))
  refine own_by (fun _ kz => XS.aloadN X3.here hx rfl (hb hby d1_12) rfl rfl kz) ?_
  show own_Go p.tables e below s _ _ _ (T3.setTop (mkF m 13 #[.val (.ref p0)] [(.ref p0)]))
  refine own_by (fun _ kz => XS.bipush X3.here hx rfl (hb hby d1_13) kz) ?_
  show own_Go p.tables e below s _ _ _ (T3.setTop (mkF m 15 #[.val (.ref p0)] [(.int (16 : Int32)), (.ref p0)]))
  obtain ⟨T4, h4, k4, X4, e4, E4, A4, st4⟩ := newP X3 hx hZ (hw _ (List.mem_of_getElem? (i := 9) rfl)) e3 (g := (mkF m 15 #[.val (.ref p0)] [(.int (16 : Int32)), (.ref p0)])) rfl (hb hby d1_15) rfl (by decide) (cap := 16) (by decide) (by decide) (by decide) (by decide)
  obtain ⟨b4, g4⟩ : ∃ z, z = h3.size := ⟨_, rfl⟩
  rw [← g4] at A4 st4
  have ge_b4 : n0 ≤ b4 := Nat.le_trans Z3 (Nat.le_of_eq g4.symm)
  have ne_p0_b4 : p0 ≠ b4 := by rw [g4]; exact Nat.ne_of_lt Ex0_h3.lt
  have ne_b2_b4 : b2 ≠ b4 := by rw [g4]; exact Nat.ne_of_lt V2_h3.lt
  have Z4 : n0 ≤ h4.size := Nat.le_trans Z3 E4.1
  have Ex0_h4 := Ex0_h3.ext E4
  have Fataken_h4 := Fataken_h3.ext E4
  have Faways_h4 := Faways_h3.ext E4
  have Fadepth_h4 := Fadepth_h3.ext E4
  have V2_h4 := V2_h3.ext E4
  have V4 : Arv Z h4 b4 k4 .int (16 : Int32) [(.int (0 : Int32)), (.int (0 : Int32)), (.int (0 : Int32)), (.int (0 : Int32)), (.int (0 : Int32)), (.int (0 : Int32)), (.int (0 : Int32)), (.int (0 : Int32)), (.int (0 : Int32)), (.int (0 : Int32)), (.int (0 : Int32)), (.int (0 : Int32)), (.int (0 : Int32)), (.int (0 : Int32)), (.int (0 : Int32)), (.int (0 : Int32))] (.int (0 : Int32)) := (Arv.new A4 (by decide)).pad (fun i => pad_rep [] _ 16 i)
  refine own_by st4 ?_
  show own_Go p.tables e below s _ _ _ (T4.setTop (mkF m 17 #[.val (.ref p0)] [(.ref b4), (.ref p0)]))
  obtain ⟨T5, h5, X5, e5, W5, st5⟩ := putF X4 hx hZ hown (host := "") (Or.inl (hw _ (List.mem_of_getElem? (i := 12) rfl))) Via.refl e4 Faways_h4 Ex0_h4 (Or.inl (hw _ (List.mem_of_getElem? (i := 13) rfl))) (hw _ (List.mem_of_getElem? (i := 1) rfl)) (ty := (.array .int)) (by decide) rfl rfl (g := (mkF m 17 #[.val (.ref p0)] [(.ref b4), (.ref p0)])) rfl rfl (hb hby d1_17)
  have N5 := Fr.snoc X5 N3 ge0
  have Z5 : n0 ≤ h5.size := by rw [W5.size]; exact Z4
  have Ex0_h5 := Ex0_h4.wr W5
  have Fataken_h5 := Fataken_h4.other W5 (Or.inr (slot_ne (Or.inl (hw _ (List.mem_of_getElem? (i := 11) rfl))) (Or.inl (hw _ (List.mem_of_getElem? (i := 13) rfl))) (by decide) (by decide : parseFieldDescriptor "[I" = some (.array .int)) (by decide : parseFieldDescriptor "[I" = some (.array .int))))
  have Faways_h5 := Faways_h4.same W5
  have Fadepth_h5 := Fadepth_h4.other W5 (Or.inr (slot_ne (Or.inl (hw _ (List.mem_of_getElem? (i := 20) rfl))) (Or.inl (hw _ (List.mem_of_getElem? (i := 13) rfl))) (by decide) (by decide : parseFieldDescriptor "I" = some .int) (by decide : parseFieldDescriptor "[I" = some (.array .int))))
  have V2_h5 := V2_h4.other W5 (Ne.symm ne_p0_b2)
  have V4_h5 := V4.other W5 (Ne.symm ne_p0_b4)
  refine own_by st5 ?_
  show own_Go p.tables e below s _ _ _ (T5.setTop (mkF m 20 #[.val (.ref p0)] []))
  have Pb : own_P Z n0 p0 b2 b4 h5 0 (List.replicate 16 0) (List.replicate 16 0) := ⟨⟨ge0, ge_b2, ge_b4, ne_p0_b2, ne_p0_b4, ne_b2_b4⟩, Ex0_h5, Fataken_h5, Faways_h5, Fadepth_h5, ⟨_, V2_h5⟩, ⟨_, V4_h5⟩, rfl, rfl⟩
  exact own_retV X5 hx hlk Bd.returns (hb hby d1_20) (by decide) (by decide) ⟨_, _, rfl, N5, by rw [e5]; exact Z5, by rw [e5]; exact Pb⟩
theorem d3_0 : decode prog_230_method_2_code 0 = .ok (.aload_n 0, 1) := by decide +kernel
theorem d3_1 : decode prog_230_method_2_code 1 = .ok (.getfield 16, 3) := by decide +kernel
theorem d3_4 : decode prog_230_method_2_code 4 = .ok (.aload_n 0, 1) := by decide +kernel
theorem d3_5 : decode prog_230_method_2_code 5 = .ok (.getfield 7, 3) := by decide +kernel
theorem d3_8 : decode prog_230_method_2_code 8 = .ok (.arraylength, 1) := by decide +kernel
theorem d3_9 : decode prog_230_method_2_code 9 = .ok (.if_icmp .ne 37, 3) := by decide +kernel
theorem d3_12 : decode prog_230_method_2_code 12 = .ok (.aload_n 0, 1) := by decide +kernel
theorem d3_13 : decode prog_230_method_2_code 13 = .ok (.aload_n 0, 1) := by decide +kernel
theorem d3_14 : decode prog_230_method_2_code 14 = .ok (.getfield 7, 3) := by decide +kernel
theorem d3_17 : decode prog_230_method_2_code 17 = .ok (.iconst 2, 1) := by decide +kernel
theorem d3_18 : decode prog_230_method_2_code 18 = .ok (.aload_n 0, 1) := by decide +kernel
theorem d3_19 : decode prog_230_method_2_code 19 = .ok (.getfield 16, 3) := by decide +kernel
theorem d3_22 : decode prog_230_method_2_code 22 = .ok (.imul, 1) := by decide +kernel
theorem d3_23 : decode prog_230_method_2_code 23 = .ok (.invokestatic 20, 3) := by decide +kernel
theorem d3_26 : decode prog_230_method_2_code 26 = .ok (.putfield 7, 3) := by decide +kernel
theorem d3_29 : decode prog_230_method_2_code 29 = .ok (.aload_n 0, 1) := by decide +kernel
theorem d3_30 : decode prog_230_method_2_code 30 = .ok (.aload_n 0, 1) := by decide +kernel
theorem d3_31 : decode prog_230_method_2_code 31 = .ok (.getfield 13, 3) := by decide +kernel
theorem d3_34 : decode prog_230_method_2_code 34 = .ok (.iconst 2, 1) := by decide +kernel
theorem d3_35 : decode prog_230_method_2_code 35 = .ok (.aload_n 0, 1) := by decide +kernel
theorem d3_36 : decode prog_230_method_2_code 36 = .ok (.getfield 16, 3) := by decide +kernel
theorem d3_39 : decode prog_230_method_2_code 39 = .ok (.imul, 1) := by decide +kernel
theorem d3_40 : decode prog_230_method_2_code 40 = .ok (.invokestatic 20, 3) := by decide +kernel
theorem d3_43 : decode prog_230_method_2_code 43 = .ok (.putfield 13, 3) := by decide +kernel
theorem d3_46 : decode prog_230_method_2_code 46 = .ok (.aload_n 0, 1) := by decide +kernel
theorem d3_47 : decode prog_230_method_2_code 47 = .ok (.getfield 7, 3) := by decide +kernel
theorem d3_50 : decode prog_230_method_2_code 50 = .ok (.aload_n 0, 1) := by decide +kernel
theorem d3_51 : decode prog_230_method_2_code 51 = .ok (.getfield 16, 3) := by decide +kernel
theorem d3_54 : decode prog_230_method_2_code 54 = .ok (.iload_n 1, 1) := by decide +kernel
theorem d3_55 : decode prog_230_method_2_code 55 = .ok (.iastore, 1) := by decide +kernel
theorem d3_56 : decode prog_230_method_2_code 56 = .ok (.aload_n 0, 1) := by decide +kernel
theorem d3_57 : decode prog_230_method_2_code 57 = .ok (.getfield 13, 3) := by decide +kernel
theorem d3_60 : decode prog_230_method_2_code 60 = .ok (.aload_n 0, 1) := by decide +kernel
theorem d3_61 : decode prog_230_method_2_code 61 = .ok (.getfield 16, 3) := by decide +kernel
theorem d3_64 : decode prog_230_method_2_code 64 = .ok (.iload_n 2, 1) := by decide +kernel
theorem d3_65 : decode prog_230_method_2_code 65 = .ok (.iastore, 1) := by decide +kernel
theorem d3_66 : decode prog_230_method_2_code 66 = .ok (.aload_n 0, 1) := by decide +kernel
theorem d3_67 : decode prog_230_method_2_code 67 = .ok (.dup, 1) := by decide +kernel
theorem d3_68 : decode prog_230_method_2_code 68 = .ok (.getfield 16, 3) := by decide +kernel
theorem d3_71 : decode prog_230_method_2_code 71 = .ok (.iconst 1, 1) := by decide +kernel
theorem d3_72 : decode prog_230_method_2_code 72 = .ok (.iadd, 1) := by decide +kernel
theorem d3_73 : decode prog_230_method_2_code 73 = .ok (.putfield 16, 3) := by decide +kernel
theorem d3_76 : decode prog_230_method_2_code 76 = .ok (.return_, 1) := by decide +kernel
theorem pf_3 : plainFor (⟨"com/example/proofhound/proofhound/symbolic/Progress", "enter", "(II)V"⟩ : MethodName) = true := by first | exact plainFor_of_name (by first | (simp [plainName, overriddenIn]; done) | decide +kernel) | decide +kernel
theorem pd_3 : parseMethodDescriptor "(II)V" = some ⟨[.int, .int], none⟩ := by decide +kernel
theorem ef_3 (m : MethodId) (p0 : Addr) (p1 : Int32) (p2 : Int32) : entryFrame m #[(.ref p0), (.int p1), (.int p2)] 3 = mkF m 0 #[.val (.ref p0), .val (.int p1), .val (.int p2)] [] := by first | (simp [entryFrame, mkF, argsToLocals, Value.category]; done) | rfl
def Q3 (Z : State) (p0 : Addr) (ta : Addr) (wa : Addr) (d : Nat) (ts : List Int32) (us : List Int32) (p1 : Int32) (p2 : Int32) (h0 : Heap) (n0 : Nat) (v : Option Value) (h : Heap) (L : List Loc) : Prop := v = none ∧ Fr n0 L ∧ n0 ≤ h.size ∧ own_P Z n0 p0 ta wa h (d + 1) (ts.set d p1) (us.set d p2)
set_option maxRecDepth 65536 in
set_option maxHeartbeats 40000000 in
theorem rm3 (l : Launch) (Z : State) (a0 : Array Value) (hw : ∀ d ∈ tables_1, d.before a0 Z = true) (ws : List Jvm.Cond) (p0 : Addr) (p1 : Int32) (p2 : Int32) (h0 : Heap) (n0 : Nat) (Z0 : n0 ≤ h0.size) (ta wa : Addr) (d : Nat) (ts us : List Int32) (PB0 : own_P Z n0 p0 ta wa h0 d ts us) (hd : d < 5) :
    own_Met l Z (⟨"com/example/proofhound/proofhound/symbolic/Progress", "enter", "(II)V"⟩ : MethodName) prog_230_method_2_code 3 none ws ({ frames := 0, cells := 0, slots := 0, locals := 0 } : Room) #[(.ref p0), (.int p1), (.int p2)] h0 (Q3 Z p0 ta wa d ts us p1 p2 h0 n0) := by
  refine MetFree.of_bodySF pf_3 hisR ?_
  intro p e s m args below meth c s₁ Bd hml0 hP hK
  obtain ⟨rfl, hZ, hh⟩ := hP
  have hx := Bd.exec
  have hby := Bd.bytes
  have hlk : meth.locks = false := BodyLoose.notSynchronized Bd
  have hml : c.maxLocals = 3 := hml0
  have hown : s.vm.findClass "com/example/proofhound/proofhound/symbolic/Progress" = some m.cls := findClass_of_methodNamed Bd.named
  have hnm := (name_of_methodNamed Bd.named Bd.method).1
  have X0 : Stand p l e ({ frames := 0, cells := 0, slots := 0, locals := 0 } : Room) s m #[(.ref p0), (.int p1), (.int p2)] below meth c s₁ [] 0 0 := Stand.of_body Bd
  have e0 : s₁.heap = h0 := by rw [← hh, Bd.state]; rfl
  have N0 := Fr.nil n0
  show own_Go p.tables e below s (Q3 Z p0 ta wa d ts us p1 p2 h0 n0) ({ frames := 0, cells := 0, slots := 0, locals := 0 } : Room).cells ({ frames := 0, cells := 0, slots := 0, locals := 0 } : Room).slots _
  refine own_by (fun _ k => castTop (ef_3 m p0 p1 p2) k) ?_
  show own_Go p.tables e below s _ _ _ (s₁.setTop (mkF m 0 #[.val (.ref p0), .val (.int p1), .val (.int p2)] []))
  refine own_by (fun _ kz => XS.aloadN X0.here hx rfl (hb hby d3_0) rfl rfl kz) ?_
  show own_Go p.tables e below s _ _ _ (s₁.setTop (mkF m 1 #[.val (.ref p0), .val (.int p1), .val (.int p2)] [(.ref p0)]))
  obtain ⟨T1, X1, e1, st1⟩ := getF X0 hx hZ hown (host := "") (Or.inl (hw _ (List.mem_of_getElem? (i := 19) rfl))) Via.refl e0 PB0.fD (g := (mkF m 1 #[.val (.ref p0), .val (.int p1), .val (.int p2)] [(.ref p0)])) rfl rfl (hb hby d3_1)
  refine own_by st1 ?_
  show own_Go p.tables e below s _ _ _ (T1.setTop (mkF m 4 #[.val (.ref p0), .val (.int p1), .val (.int p2)] [(.int (own_i d))]))
  refine own_by (fun _ kz => XS.aloadN X1.here hx rfl (hb hby d3_4) rfl rfl kz) ?_
  show own_Go p.tables e below s _ _ _ (T1.setTop (mkF m 5 #[.val (.ref p0), .val (.int p1), .val (.int p2)] [(.ref p0), (.int (own_i d))]))
  obtain ⟨T2, X2, e2, st2⟩ := getF X1 hx hZ hown (host := "") (Or.inl (hw _ (List.mem_of_getElem? (i := 10) rfl))) Via.refl e1 PB0.fT (g := (mkF m 5 #[.val (.ref p0), .val (.int p1), .val (.int p2)] [(.ref p0), (.int (own_i d))])) rfl rfl (hb hby d3_5)
  refine own_by st2 ?_
  show own_Go p.tables e below s _ _ _ (T2.setTop (mkF m 8 #[.val (.ref p0), .val (.int p1), .val (.int p2)] [(.ref ta), (.int (own_i d))]))
  obtain ⟨kt3, Vt3⟩ := PB0.2.2.2.2.2.1
  refine own_by (fun _ kz => own_len X2 hx hZ e2 Vt3 (g := (mkF m 8 #[.val (.ref p0), .val (.int p1), .val (.int p2)] [(.ref ta), (.int (own_i d))])) rfl rfl (hb hby d3_8) _ kz) ?_
  show own_Go p.tables e below s _ _ _ (T2.setTop (mkF m 9 #[.val (.ref p0), .val (.int p1), .val (.int p2)] [(.int (16 : Int32)), (.int (own_i d))]))
  refine own_by (fun _ kz => XS.icmpYes X2.here hx rfl (pc0 := 9) (pc' := 46) rfl (hb hby d3_9) rfl (feq (own_i_ne16 d (by omega))).2 (by decide) (by decide) kz) ?_
  show own_Go p.tables e below s _ _ _ (T2.setTop (mkF m 46 #[.val (.ref p0), .val (.int p1), .val (.int p2)] []))
  refine own_by (fun _ kz => XS.aloadN X2.here hx rfl (hb hby d3_46) rfl rfl kz) ?_
  show own_Go p.tables e below s _ _ _ (T2.setTop (mkF m 47 #[.val (.ref p0), .val (.int p1), .val (.int p2)] [(.ref p0)]))
  obtain ⟨T4, X4, e4, st4⟩ := getF X2 hx hZ hown (host := "") (Or.inl (hw _ (List.mem_of_getElem? (i := 10) rfl))) Via.refl e2 PB0.fT (g := (mkF m 47 #[.val (.ref p0), .val (.int p1), .val (.int p2)] [(.ref p0)])) rfl rfl (hb hby d3_47)
  refine own_by st4 ?_
  show own_Go p.tables e below s _ _ _ (T4.setTop (mkF m 50 #[.val (.ref p0), .val (.int p1), .val (.int p2)] [(.ref ta)]))
  refine own_by (fun _ kz => XS.aloadN X4.here hx rfl (hb hby d3_50) rfl rfl kz) ?_
  show own_Go p.tables e below s _ _ _ (T4.setTop (mkF m 51 #[.val (.ref p0), .val (.int p1), .val (.int p2)] [(.ref p0), (.ref ta)]))
  obtain ⟨T5, X5, e5, st5⟩ := getF X4 hx hZ hown (host := "") (Or.inl (hw _ (List.mem_of_getElem? (i := 19) rfl))) Via.refl e4 PB0.fD (g := (mkF m 51 #[.val (.ref p0), .val (.int p1), .val (.int p2)] [(.ref p0), (.ref ta)])) rfl rfl (hb hby d3_51)
  refine own_by st5 ?_
  show own_Go p.tables e below s _ _ _ (T5.setTop (mkF m 54 #[.val (.ref p0), .val (.int p1), .val (.int p2)] [(.int (own_i d)), (.ref ta)]))
  refine own_by (fun _ kz => XS.iloadN X5.here hx rfl (hb hby d3_54) rfl kz) ?_
  show own_Go p.tables e below s _ _ _ (T5.setTop (mkF m 55 #[.val (.ref p0), .val (.int p1), .val (.int p2)] [(.int p1), (.int (own_i d)), (.ref ta)]))
  obtain ⟨kt6, Vt6⟩ := PB0.2.2.2.2.2.1
  obtain ⟨T6, h6, X6, e6, W6, st6⟩ := own_st X5 hx hZ e5 Vt6 (j := (own_i d)) (own_i_lt16 (by omega)) (g := (mkF m 55 #[.val (.ref p0), .val (.int p1), .val (.int p2)] [(.int p1), (.int (own_i d)), (.ref ta)])) rfl rfl (hb hby d3_55)
  have N6 := Fr.snoc X6 N0 PB0.1.2.1
  have Z6 : n0 ≤ h6.size := by rw [W6.size]; exact Z0
  have PB6 := PB0.setT (by omega) W6
  refine own_by st6 ?_
  show own_Go p.tables e below s _ _ _ (T6.setTop (mkF m 56 #[.val (.ref p0), .val (.int p1), .val (.int p2)] []))
  refine own_by (fun _ kz => XS.aloadN X6.here hx rfl (hb hby d3_56) rfl rfl kz) ?_
  show own_Go p.tables e below s _ _ _ (T6.setTop (mkF m 57 #[.val (.ref p0), .val (.int p1), .val (.int p2)] [(.ref p0)]))
  obtain ⟨T7, X7, e7, st7⟩ := getF X6 hx hZ hown (host := "") (Or.inl (hw _ (List.mem_of_getElem? (i := 12) rfl))) Via.refl e6 PB6.fW (g := (mkF m 57 #[.val (.ref p0), .val (.int p1), .val (.int p2)] [(.ref p0)])) rfl rfl (hb hby d3_57)
  refine own_by st7 ?_
  show own_Go p.tables e below s _ _ _ (T7.setTop (mkF m 60 #[.val (.ref p0), .val (.int p1), .val (.int p2)] [(.ref wa)]))
  refine own_by (fun _ kz => XS.aloadN X7.here hx rfl (hb hby d3_60) rfl rfl kz) ?_
  show own_Go p.tables e below s _ _ _ (T7.setTop (mkF m 61 #[.val (.ref p0), .val (.int p1), .val (.int p2)] [(.ref p0), (.ref wa)]))
  obtain ⟨T8, X8, e8, st8⟩ := getF X7 hx hZ hown (host := "") (Or.inl (hw _ (List.mem_of_getElem? (i := 19) rfl))) Via.refl e7 PB6.fD (g := (mkF m 61 #[.val (.ref p0), .val (.int p1), .val (.int p2)] [(.ref p0), (.ref wa)])) rfl rfl (hb hby d3_61)
  refine own_by st8 ?_
  show own_Go p.tables e below s _ _ _ (T8.setTop (mkF m 64 #[.val (.ref p0), .val (.int p1), .val (.int p2)] [(.int (own_i d)), (.ref wa)]))
  refine own_by (fun _ kz => XS.iloadN X8.here hx rfl (hb hby d3_64) rfl kz) ?_
  show own_Go p.tables e below s _ _ _ (T8.setTop (mkF m 65 #[.val (.ref p0), .val (.int p1), .val (.int p2)] [(.int p2), (.int (own_i d)), (.ref wa)]))
  obtain ⟨kt9, Vt9⟩ := PB6.2.2.2.2.2.2.1
  obtain ⟨T9, h9, X9, e9, W9, st9⟩ := own_st X8 hx hZ e8 Vt9 (j := (own_i d)) (own_i_lt16 (by omega)) (g := (mkF m 65 #[.val (.ref p0), .val (.int p1), .val (.int p2)] [(.int p2), (.int (own_i d)), (.ref wa)])) rfl rfl (hb hby d3_65)
  have N9 := Fr.snoc X9 N6 PB6.1.2.2.1
  have Z9 : n0 ≤ h9.size := by rw [W9.size]; exact Z6
  have PB9 := PB6.setW (by omega) W9
  refine own_by st9 ?_
  show own_Go p.tables e below s _ _ _ (T9.setTop (mkF m 66 #[.val (.ref p0), .val (.int p1), .val (.int p2)] []))
  refine own_by (fun _ kz => XS.aloadN X9.here hx rfl (hb hby d3_66) rfl rfl kz) ?_
  show own_Go p.tables e below s _ _ _ (T9.setTop (mkF m 67 #[.val (.ref p0), .val (.int p1), .val (.int p2)] [(.ref p0)]))
  refine own_by (fun _ kz => XS.dup X9.here hx rfl (hb hby d3_67) rfl rfl kz) ?_
  show own_Go p.tables e below s _ _ _ (T9.setTop (mkF m 68 #[.val (.ref p0), .val (.int p1), .val (.int p2)] [(.ref p0), (.ref p0)]))
  obtain ⟨T10, X10, e10, st10⟩ := getF X9 hx hZ hown (host := "") (Or.inl (hw _ (List.mem_of_getElem? (i := 19) rfl))) Via.refl e9 PB9.fD (g := (mkF m 68 #[.val (.ref p0), .val (.int p1), .val (.int p2)] [(.ref p0), (.ref p0)])) rfl rfl (hb hby d3_68)
  refine own_by st10 ?_
  show own_Go p.tables e below s _ _ _ (T10.setTop (mkF m 71 #[.val (.ref p0), .val (.int p1), .val (.int p2)] [(.int (own_i d)), (.ref p0)]))
  refine own_by (fun _ kz => XS.iconst X10.here hx rfl (hb hby d3_71) kz) ?_
  show own_Go p.tables e below s _ _ _ (T10.setTop (mkF m 72 #[.val (.ref p0), .val (.int p1), .val (.int p2)] [(.int (1 : Int32)), (.int (own_i d)), (.ref p0)]))
  refine own_by (fun _ kz => XS.iadd X10.here hx rfl (hb hby d3_72) rfl kz) ?_
  show own_Go p.tables e below s _ _ _ (T10.setTop (mkF m 73 #[.val (.ref p0), .val (.int p1), .val (.int p2)] [(.int ((own_i d) + (1 : Int32))), (.ref p0)]))
  rw [own_i_succ (d) (by omega)]
  show own_Go p.tables e below s _ _ _ (T10.setTop (mkF m 73 #[.val (.ref p0), .val (.int p1), .val (.int p2)] [(.int (own_i (d + 1))), (.ref p0)]))
  obtain ⟨T11, h11, X11, e11, W11, st11⟩ := putF X10 hx hZ hown (host := "") (Or.inl (hw _ (List.mem_of_getElem? (i := 19) rfl))) Via.refl e10 PB9.fD PB9.exa (Or.inl (hw _ (List.mem_of_getElem? (i := 20) rfl))) (hw _ (List.mem_of_getElem? (i := 1) rfl)) (ty := .int) (by decide) rfl rfl (g := (mkF m 73 #[.val (.ref p0), .val (.int p1), .val (.int p2)] [(.int (own_i (d + 1))), (.ref p0)])) rfl rfl (hb hby d3_73)
  have N11 := Fr.snoc X11 N9 PB9.1.1
  have Z11 : n0 ≤ h11.size := by rw [W11.size]; exact Z9
  have PB11 := PB9.setD (slot_ne (Or.inl (hw _ (List.mem_of_getElem? (i := 11) rfl))) (Or.inl (hw _ (List.mem_of_getElem? (i := 20) rfl))) (by decide) (by decide : parseFieldDescriptor "[I" = some (.array .int)) (by decide : parseFieldDescriptor "I" = some .int)) (slot_ne (Or.inl (hw _ (List.mem_of_getElem? (i := 13) rfl))) (Or.inl (hw _ (List.mem_of_getElem? (i := 20) rfl))) (by decide) (by decide : parseFieldDescriptor "[I" = some (.array .int)) (by decide : parseFieldDescriptor "I" = some .int)) W11
  refine own_by st11 ?_
  show own_Go p.tables e below s _ _ _ (T11.setTop (mkF m 76 #[.val (.ref p0), .val (.int p1), .val (.int p2)] []))
  exact own_retV X11 hx hlk Bd.returns (hb hby d3_76) (by decide) (by decide) ⟨rfl, N11, by rw [e11]; exact Z11, by rw [e11]; exact PB11⟩
theorem d5_0 : decode prog_230_method_3_code 0 = .ok (.aload_n 0, 1) := by decide +kernel
theorem d5_1 : decode prog_230_method_3_code 1 = .ok (.dup, 1) := by decide +kernel
theorem d5_2 : decode prog_230_method_3_code 2 = .ok (.getfield 16, 3) := by decide +kernel
theorem d5_5 : decode prog_230_method_3_code 5 = .ok (.iconst 1, 1) := by decide +kernel
theorem d5_6 : decode prog_230_method_3_code 6 = .ok (.isub, 1) := by decide +kernel
theorem d5_7 : decode prog_230_method_3_code 7 = .ok (.putfield 16, 3) := by decide +kernel
theorem d5_10 : decode prog_230_method_3_code 10 = .ok (.return_, 1) := by decide +kernel
theorem pf_5 : plainFor (⟨"com/example/proofhound/proofhound/symbolic/Progress", "leave", "()V"⟩ : MethodName) = true := by first | exact plainFor_of_name (by first | (simp [plainName, overriddenIn]; done) | decide +kernel) | decide +kernel
theorem pd_5 : parseMethodDescriptor "()V" = some ⟨[], none⟩ := by decide +kernel
theorem ef_5 (m : MethodId) (p0 : Addr) : entryFrame m #[(.ref p0)] 1 = mkF m 0 #[.val (.ref p0)] [] := by first | (simp [entryFrame, mkF, argsToLocals, Value.category]; done) | rfl
def Q5 (Z : State) (p0 : Addr) (ta : Addr) (wa : Addr) (d : Nat) (ts : List Int32) (us : List Int32) (h0 : Heap) (n0 : Nat) (v : Option Value) (h : Heap) (L : List Loc) : Prop := v = none ∧ Fr n0 L ∧ n0 ≤ h.size ∧ own_P Z n0 p0 ta wa h (d - 1) ts us
set_option maxRecDepth 65536 in
set_option maxHeartbeats 40000000 in
theorem rm5 (l : Launch) (Z : State) (a0 : Array Value) (hw : ∀ d ∈ tables_1, d.before a0 Z = true) (ws : List Jvm.Cond) (p0 : Addr) (h0 : Heap) (n0 : Nat) (Z0 : n0 ≤ h0.size) (ta wa : Addr) (d : Nat) (ts us : List Int32) (PB0 : own_P Z n0 p0 ta wa h0 d ts us) (hd : d < 5) (hd0 : 0 < d) :
    own_Met l Z (⟨"com/example/proofhound/proofhound/symbolic/Progress", "leave", "()V"⟩ : MethodName) prog_230_method_3_code 1 none ws ({ frames := 0, cells := 0, slots := 0, locals := 0 } : Room) #[(.ref p0)] h0 (Q5 Z p0 ta wa d ts us h0 n0) := by
  refine MetFree.of_bodySF pf_5 hisR ?_
  intro p e s m args below meth c s₁ Bd hml0 hP hK
  obtain ⟨rfl, hZ, hh⟩ := hP
  have hx := Bd.exec
  have hby := Bd.bytes
  have hlk : meth.locks = false := BodyLoose.notSynchronized Bd
  have hml : c.maxLocals = 1 := hml0
  have hown : s.vm.findClass "com/example/proofhound/proofhound/symbolic/Progress" = some m.cls := findClass_of_methodNamed Bd.named
  have hnm := (name_of_methodNamed Bd.named Bd.method).1
  have X0 : Stand p l e ({ frames := 0, cells := 0, slots := 0, locals := 0 } : Room) s m #[(.ref p0)] below meth c s₁ [] 0 0 := Stand.of_body Bd
  have e0 : s₁.heap = h0 := by rw [← hh, Bd.state]; rfl
  have N0 := Fr.nil n0
  show own_Go p.tables e below s (Q5 Z p0 ta wa d ts us h0 n0) ({ frames := 0, cells := 0, slots := 0, locals := 0 } : Room).cells ({ frames := 0, cells := 0, slots := 0, locals := 0 } : Room).slots _
  refine own_by (fun _ k => castTop (ef_5 m p0) k) ?_
  show own_Go p.tables e below s _ _ _ (s₁.setTop (mkF m 0 #[.val (.ref p0)] []))
  refine own_by (fun _ kz => XS.aloadN X0.here hx rfl (hb hby d5_0) rfl rfl kz) ?_
  show own_Go p.tables e below s _ _ _ (s₁.setTop (mkF m 1 #[.val (.ref p0)] [(.ref p0)]))
  refine own_by (fun _ kz => XS.dup X0.here hx rfl (hb hby d5_1) rfl rfl kz) ?_
  show own_Go p.tables e below s _ _ _ (s₁.setTop (mkF m 2 #[.val (.ref p0)] [(.ref p0), (.ref p0)]))
  obtain ⟨T1, X1, e1, st1⟩ := getF X0 hx hZ hown (host := "") (Or.inl (hw _ (List.mem_of_getElem? (i := 19) rfl))) Via.refl e0 PB0.fD (g := (mkF m 2 #[.val (.ref p0)] [(.ref p0), (.ref p0)])) rfl rfl (hb hby d5_2)
  refine own_by st1 ?_
  show own_Go p.tables e below s _ _ _ (T1.setTop (mkF m 5 #[.val (.ref p0)] [(.int (own_i d)), (.ref p0)]))
  refine own_by (fun _ kz => XS.iconst X1.here hx rfl (hb hby d5_5) kz) ?_
  show own_Go p.tables e below s _ _ _ (T1.setTop (mkF m 6 #[.val (.ref p0)] [(.int (1 : Int32)), (.int (own_i d)), (.ref p0)]))
  refine own_by (fun _ kz => XS.isub X1.here hx rfl (hb hby d5_6) rfl kz) ?_
  show own_Go p.tables e below s _ _ _ (T1.setTop (mkF m 7 #[.val (.ref p0)] [(.int ((own_i d) - (1 : Int32))), (.ref p0)]))
  rw [own_i_pred' (d) (by omega) (by omega)]
  show own_Go p.tables e below s _ _ _ (T1.setTop (mkF m 7 #[.val (.ref p0)] [(.int (own_i (d - 1))), (.ref p0)]))
  obtain ⟨T2, h2, X2, e2, W2, st2⟩ := putF X1 hx hZ hown (host := "") (Or.inl (hw _ (List.mem_of_getElem? (i := 19) rfl))) Via.refl e1 PB0.fD PB0.exa (Or.inl (hw _ (List.mem_of_getElem? (i := 20) rfl))) (hw _ (List.mem_of_getElem? (i := 1) rfl)) (ty := .int) (by decide) rfl rfl (g := (mkF m 7 #[.val (.ref p0)] [(.int (own_i (d - 1))), (.ref p0)])) rfl rfl (hb hby d5_7)
  have N2 := Fr.snoc X2 N0 PB0.1.1
  have Z2 : n0 ≤ h2.size := by rw [W2.size]; exact Z0
  have PB2 := PB0.setD (slot_ne (Or.inl (hw _ (List.mem_of_getElem? (i := 11) rfl))) (Or.inl (hw _ (List.mem_of_getElem? (i := 20) rfl))) (by decide) (by decide : parseFieldDescriptor "[I" = some (.array .int)) (by decide : parseFieldDescriptor "I" = some .int)) (slot_ne (Or.inl (hw _ (List.mem_of_getElem? (i := 13) rfl))) (Or.inl (hw _ (List.mem_of_getElem? (i := 20) rfl))) (by decide) (by decide : parseFieldDescriptor "[I" = some (.array .int)) (by decide : parseFieldDescriptor "I" = some .int)) W2
  refine own_by st2 ?_
  show own_Go p.tables e below s _ _ _ (T2.setTop (mkF m 10 #[.val (.ref p0)] []))
  exact own_retV X2 hx hlk Bd.returns (hb hby d5_10) (by decide) (by decide) ⟨rfl, N2, by rw [e2]; exact Z2, by rw [e2]; exact PB2⟩
theorem d4_0 : decode prog_230_method_4_code 0 = .ok (.dconst 0, 1) := by decide +kernel
theorem d4_1 : decode prog_230_method_4_code 1 = .ok (.dstore_n 3, 1) := by decide +kernel
theorem d4_2 : decode prog_230_method_4_code 2 = .ok (.dconst 1, 1) := by decide +kernel
theorem d4_3 : decode prog_230_method_4_code 3 = .ok (.dstore 5, 2) := by decide +kernel
theorem d4_5 : decode prog_230_method_4_code 5 = .ok (.iconst 0, 1) := by decide +kernel
theorem d4_6 : decode prog_230_method_4_code 6 = .ok (.istore 7, 2) := by decide +kernel
theorem d4_8 : decode prog_230_method_4_code 8 = .ok (.iload 7, 2) := by decide +kernel
theorem d4_10 : decode prog_230_method_4_code 10 = .ok (.aload_n 0, 1) := by decide +kernel
theorem d4_11 : decode prog_230_method_4_code 11 = .ok (.getfield 16, 3) := by decide +kernel
theorem d4_14 : decode prog_230_method_4_code 14 = .ok (.if_icmp .ge 45, 3) := by decide +kernel
theorem d4_17 : decode prog_230_method_4_code 17 = .ok (.dload_n 3, 1) := by decide +kernel
theorem d4_18 : decode prog_230_method_4_code 18 = .ok (.dload 5, 2) := by decide +kernel
theorem d4_20 : decode prog_230_method_4_code 20 = .ok (.aload_n 0, 1) := by decide +kernel
theorem d4_21 : decode prog_230_method_4_code 21 = .ok (.getfield 7, 3) := by decide +kernel
theorem d4_24 : decode prog_230_method_4_code 24 = .ok (.iload 7, 2) := by decide +kernel
theorem d4_26 : decode prog_230_method_4_code 26 = .ok (.iaload, 1) := by decide +kernel
theorem d4_27 : decode prog_230_method_4_code 27 = .ok (.i2d, 1) := by decide +kernel
theorem d4_28 : decode prog_230_method_4_code 28 = .ok (.dmul, 1) := by decide +kernel
theorem d4_29 : decode prog_230_method_4_code 29 = .ok (.aload_n 0, 1) := by decide +kernel
theorem d4_30 : decode prog_230_method_4_code 30 = .ok (.getfield 13, 3) := by decide +kernel
theorem d4_33 : decode prog_230_method_4_code 33 = .ok (.iload 7, 2) := by decide +kernel
theorem d4_35 : decode prog_230_method_4_code 35 = .ok (.iaload, 1) := by decide +kernel
theorem d4_36 : decode prog_230_method_4_code 36 = .ok (.i2d, 1) := by decide +kernel
theorem d4_37 : decode prog_230_method_4_code 37 = .ok (.ddiv, 1) := by decide +kernel
theorem d4_38 : decode prog_230_method_4_code 38 = .ok (.dadd, 1) := by decide +kernel
theorem d4_39 : decode prog_230_method_4_code 39 = .ok (.dstore_n 3, 1) := by decide +kernel
theorem d4_40 : decode prog_230_method_4_code 40 = .ok (.dload 5, 2) := by decide +kernel
theorem d4_42 : decode prog_230_method_4_code 42 = .ok (.aload_n 0, 1) := by decide +kernel
theorem d4_43 : decode prog_230_method_4_code 43 = .ok (.getfield 13, 3) := by decide +kernel
theorem d4_46 : decode prog_230_method_4_code 46 = .ok (.iload 7, 2) := by decide +kernel
theorem d4_48 : decode prog_230_method_4_code 48 = .ok (.iaload, 1) := by decide +kernel
theorem d4_49 : decode prog_230_method_4_code 49 = .ok (.i2d, 1) := by decide +kernel
theorem d4_50 : decode prog_230_method_4_code 50 = .ok (.ddiv, 1) := by decide +kernel
theorem d4_51 : decode prog_230_method_4_code 51 = .ok (.dstore 5, 2) := by decide +kernel
theorem d4_53 : decode prog_230_method_4_code 53 = .ok (.iinc 7 1, 3) := by decide +kernel
theorem d4_56 : decode prog_230_method_4_code 56 = .ok (.goto (-48), 3) := by decide +kernel
theorem d4_59 : decode prog_230_method_4_code 59 = .ok (.dload_n 3, 1) := by decide +kernel
theorem d4_60 : decode prog_230_method_4_code 60 = .ok (.dconst 0, 1) := by decide +kernel
theorem d4_61 : decode prog_230_method_4_code 61 = .ok (.dcmp .l, 1) := by decide +kernel
theorem d4_62 : decode prog_230_method_4_code 62 = .ok (.ifCond .le 10, 3) := by decide +kernel
theorem d4_65 : decode prog_230_method_4_code 65 = .ok (.lload_n 1, 1) := by decide +kernel
theorem d4_66 : decode prog_230_method_4_code 66 = .ok (.l2d, 1) := by decide +kernel
theorem d4_67 : decode prog_230_method_4_code 67 = .ok (.dload_n 3, 1) := by decide +kernel
theorem d4_68 : decode prog_230_method_4_code 68 = .ok (.ddiv, 1) := by decide +kernel
theorem d4_69 : decode prog_230_method_4_code 69 = .ok (.goto 6, 3) := by decide +kernel
theorem d4_72 : decode prog_230_method_4_code 72 = .ok (.ldc2_w 28, 3) := by decide +kernel
theorem d4_75 : decode prog_230_method_4_code 75 = .ok (.dreturn, 1) := by decide +kernel
theorem pf_4 : plainFor (⟨"com/example/proofhound/proofhound/symbolic/Progress", "expectedWork", "(J)D"⟩ : MethodName) = true := by first | exact plainFor_of_name (by first | (simp [plainName, overriddenIn]; done) | decide +kernel) | decide +kernel
theorem pd_4 : parseMethodDescriptor "(J)D" = some ⟨[.long], some .double⟩ := by decide +kernel
theorem ef_4 (m : MethodId) (p0 : Addr) (p1 : Int64) : entryFrame m #[(.ref p0), (.long p1)] 8 = mkF m 0 #[.val (.ref p0), .val (.long p1), .second, .unset, .unset, .unset, .unset, .unset] [] := by first | (simp [entryFrame, mkF, argsToLocals, Value.category]; done) | rfl
def Q4 (p1 : Int64) (d : Nat) (T : Nat → Int32) (W : Nat → Int32) (h0 : Heap) (n0 : Nat) (v : Option Value) (h : Heap) (L : List Loc) : Prop := ∃ g, v = some (.double g) ∧ Fr n0 L ∧ h = h0 ∧ own_EW p1 (own_nm T W d) (own_ex W d) g
set_option maxRecDepth 65536 in
set_option maxHeartbeats 40000000 in
theorem rm4 (l : Launch) (Z : State) (a0 : Array Value) (hw : ∀ d ∈ tables_1, d.before a0 Z = true) (ws : List Jvm.Cond) (p0 : Addr) (p1 : Int64) (h0 : Heap) (n0 : Nat) (Z0 : n0 ≤ h0.size) (ta wa : Addr) (d : Nat) (ts us : List Int32) (PB0 : own_P Z n0 p0 ta wa h0 d ts us) (T W : Nat → Int32) (G : own_G T W) (hTW : ∀ j, j < d → ts.getD j 0 = T j ∧ us.getD j 0 = W j) (hd : d ≤ 3) :
    own_Met l Z (⟨"com/example/proofhound/proofhound/symbolic/Progress", "expectedWork", "(J)D"⟩ : MethodName) prog_230_method_4_code 8 (some .double) ws ({ frames := 0, cells := 0, slots := 0, locals := 0 } : Room) #[(.ref p0), (.long p1)] h0 (Q4 p1 d T W h0 n0) := by
  refine MetFree.of_bodySF pf_4 hisR ?_
  intro p e s m args below meth c s₁ Bd hml0 hP hK
  obtain ⟨rfl, hZ, hh⟩ := hP
  have hx := Bd.exec
  have hby := Bd.bytes
  have hlk : meth.locks = false := BodyLoose.notSynchronized Bd
  have hml : c.maxLocals = 8 := hml0
  have hown : s.vm.findClass "com/example/proofhound/proofhound/symbolic/Progress" = some m.cls := findClass_of_methodNamed Bd.named
  have hnm := (name_of_methodNamed Bd.named Bd.method).1
  have X0 : Stand p l e ({ frames := 0, cells := 0, slots := 0, locals := 0 } : Room) s m #[(.ref p0), (.long p1)] below meth c s₁ [] 0 0 := Stand.of_body Bd
  have e0 : s₁.heap = h0 := by rw [← hh, Bd.state]; rfl
  have N0 := Fr.nil n0
  show own_Go p.tables e below s (Q4 p1 d T W h0 n0) ({ frames := 0, cells := 0, slots := 0, locals := 0 } : Room).cells ({ frames := 0, cells := 0, slots := 0, locals := 0 } : Room).slots _
  refine own_by (fun _ k => castTop (ef_4 m p0 p1) k) ?_
  show own_Go p.tables e below s _ _ _ (s₁.setTop (mkF m 0 #[.val (.ref p0), .val (.long p1), .second, .unset, .unset, .unset, .unset, .unset] []))
  refine own_by (fun _ kz => XS.dconst0 X0.here hx rfl (hb hby d4_0) rfl kz) ?_
  show own_Go p.tables e below s _ _ _ (s₁.setTop (mkF m 1 #[.val (.ref p0), .val (.long p1), .second, .unset, .unset, .unset, .unset, .unset] [(.double FP.dconst0)]))
  refine own_by (fun _ kz => XS.dstoreN X0.here hx rfl (hb hby d4_1) rfl (l' := #[.val (.ref p0), .val (.long p1), .second, .val (.double FP.dconst0), .second, .unset, .unset, .unset]) rfl kz) ?_
  show own_Go p.tables e below s _ _ _ (s₁.setTop (mkF m 2 #[.val (.ref p0), .val (.long p1), .second, .val (.double FP.dconst0), .second, .unset, .unset, .unset] []))
  refine own_by (fun _ kz => XS.dconst1 X0.here hx rfl (hb hby d4_2) rfl kz) ?_
  show own_Go p.tables e below s _ _ _ (s₁.setTop (mkF m 3 #[.val (.ref p0), .val (.long p1), .second, .val (.double FP.dconst0), .second, .unset, .unset, .unset] [(.double FP.dconst1)]))
  refine own_by (fun _ kz => XS.dstore X0.here hx rfl (hb hby d4_3) rfl (l' := #[.val (.ref p0), .val (.long p1), .second, .val (.double FP.dconst0), .second, .val (.double FP.dconst1), .second, .unset]) rfl kz) ?_
  show own_Go p.tables e below s _ _ _ (s₁.setTop (mkF m 5 #[.val (.ref p0), .val (.long p1), .second, .val (.double FP.dconst0), .second, .val (.double FP.dconst1), .second, .unset] []))
  refine own_by (fun _ kz => XS.iconst X0.here hx rfl (hb hby d4_5) kz) ?_
  show own_Go p.tables e below s _ _ _ (s₁.setTop (mkF m 6 #[.val (.ref p0), .val (.long p1), .second, .val (.double FP.dconst0), .second, .val (.double FP.dconst1), .second, .unset] [(.int (0 : Int32))]))
  refine own_by (fun _ kz => XS.istore X0.here hx rfl (hb hby d4_6) rfl (l' := #[.val (.ref p0), .val (.long p1), .second, .val (.double FP.dconst0), .second, .val (.double FP.dconst1), .second, .val (.int (0 : Int32))]) rfl kz) ?_
  show own_Go p.tables e below s _ _ _ (s₁.setTop (mkF m 8 #[.val (.ref p0), .val (.long p1), .second, .val (.double FP.dconst0), .second, .val (.double FP.dconst1), .second, .val (.int (0 : Int32))] []))
  have loop : ∀ (n j : Nat) (T' : State) (cov sh : UInt64), Stand p l e ({ frames := 0, cells := 0, slots := 0, locals := 0 } : Room) s m #[(.ref p0), (.long p1)] below meth c T' [] 0 0 → T'.heap = h0 → j + n = d → own_Dy cov (own_nm T W j) (-(own_ex W j : Int)) → own_Dy sh 1 (-(own_ex W j : Int)) → own_Go p.tables e below s (Q4 p1 d T W h0 n0) ({ frames := 0, cells := 0, slots := 0, locals := 0 } : Room).cells ({ frames := 0, cells := 0, slots := 0, locals := 0 } : Room).slots (T'.setTop (mkF m 8 #[.val (.ref p0), .val (.long p1), .second, .val (.double cov), .second, .val (.double sh), .second, .val (.int (own_i j))] [])) := by
    intro n
    induction n with
    | zero =>
      intro j T' cov sh X eT hjn hc hs
      have hjd : j = d := by omega
      subst hjd
      refine own_by (fun _ kz => XS.iload X.here hx rfl (hb hby d4_8) rfl kz) ?_
      show own_Go p.tables e below s _ _ _ (T'.setTop (mkF m 10 #[.val (.ref p0), .val (.long p1), .second, .val (.double cov), .second, .val (.double sh), .second, .val (.int (own_i j))] [(.int (own_i j))]))
      refine own_by (fun _ kz => XS.aloadN X.here hx rfl (hb hby d4_10) rfl rfl kz) ?_
      show own_Go p.tables e below s _ _ _ (T'.setTop (mkF m 11 #[.val (.ref p0), .val (.long p1), .second, .val (.double cov), .second, .val (.double sh), .second, .val (.int (own_i j))] [(.ref p0), (.int (own_i j))]))
      obtain ⟨T1, X1, e1, st1⟩ := getF X hx hZ hown (host := "") (Or.inl (hw _ (List.mem_of_getElem? (i := 19) rfl))) Via.refl eT PB0.fD (g := (mkF m 11 #[.val (.ref p0), .val (.long p1), .second, .val (.double cov), .second, .val (.double sh), .second, .val (.int (own_i j))] [(.ref p0), (.int (own_i j))])) rfl rfl (hb hby d4_11)
      refine own_by st1 ?_
      show own_Go p.tables e below s _ _ _ (T1.setTop (mkF m 14 #[.val (.ref p0), .val (.long p1), .second, .val (.double cov), .second, .val (.double sh), .second, .val (.int (own_i j))] [(.int (own_i j)), (.int (own_i j))]))
      refine own_by (fun _ kz => XS.icmpYes X1.here hx rfl (pc0 := 14) (pc' := 59) rfl (hb hby d4_14) rfl (flt (show ¬ (own_i j) < (own_i j) from fun q => by have := (own_i_lt j (by omega) j (by omega)).mp q; omega)).2.1 (by decide) (by decide) kz) ?_
      show own_Go p.tables e below s _ _ _ (T1.setTop (mkF m 59 #[.val (.ref p0), .val (.long p1), .second, .val (.double cov), .second, .val (.double sh), .second, .val (.int (own_i j))] []))
      refine own_by (fun _ kz => XS.dloadN X1.here hx rfl (hb hby d4_59) rfl kz) ?_
      show own_Go p.tables e below s _ _ _ (T1.setTop (mkF m 60 #[.val (.ref p0), .val (.long p1), .second, .val (.double cov), .second, .val (.double sh), .second, .val (.int (own_i j))] [(.double cov)]))
      refine own_by (fun _ kz => XS.dconst0 X1.here hx rfl (hb hby d4_60) rfl kz) ?_
      show own_Go p.tables e below s _ _ _ (T1.setTop (mkF m 61 #[.val (.ref p0), .val (.long p1), .second, .val (.double cov), .second, .val (.double sh), .second, .val (.int (own_i j))] [(.double FP.dconst0), (.double cov)]))
      refine own_by (fun _ kz => XS.dcmpS X1.here hx rfl (hb hby d4_61) rfl rfl kz) ?_
      show own_Go p.tables e below s _ _ _ (T1.setTop (mkF m 62 #[.val (.ref p0), .val (.long p1), .second, .val (.double cov), .second, .val (.double sh), .second, .val (.int (own_i j))] [(.int (cmpValue (FP.dcmp cov FP.dconst0) .l))]))
      by_cases hc62_2 : (0 : Int32) < (cmpValue (FP.dcmp cov FP.dconst0) .l)
      · refine own_by (fun _ kz => XS.ifNo X1.here hx rfl (hb hby d4_62) rfl ((if0 _ _).trans (tlt hc62_2).2.2.2) kz) ?_
        show own_Go p.tables e below s _ _ _ (T1.setTop (mkF m 65 #[.val (.ref p0), .val (.long p1), .second, .val (.double cov), .second, .val (.double sh), .second, .val (.int (own_i j))] []))
        refine own_by (fun _ kz => XS.lloadN X1.here hx rfl (hb hby d4_65) rfl kz) ?_
        show own_Go p.tables e below s _ _ _ (T1.setTop (mkF m 66 #[.val (.ref p0), .val (.long p1), .second, .val (.double cov), .second, .val (.double sh), .second, .val (.int (own_i j))] [(.long p1)]))
        refine own_by (fun _ kz => XS.l2dS X1.here hx rfl (hb hby d4_66) rfl rfl kz) ?_
        show own_Go p.tables e below s _ _ _ (T1.setTop (mkF m 67 #[.val (.ref p0), .val (.long p1), .second, .val (.double cov), .second, .val (.double sh), .second, .val (.int (own_i j))] [(.double (FP.l2d p1))]))
        refine own_by (fun _ kz => XS.dloadN X1.here hx rfl (hb hby d4_67) rfl kz) ?_
        show own_Go p.tables e below s _ _ _ (T1.setTop (mkF m 68 #[.val (.ref p0), .val (.long p1), .second, .val (.double cov), .second, .val (.double sh), .second, .val (.int (own_i j))] [(.double cov), (.double (FP.l2d p1))]))
        refine own_by (fun _ kz => XS.ddivS X1.here hx rfl (hb hby d4_68) rfl (own_div_nn p1 hc ((own_pos hc).mp hc62_2)) rfl kz) ?_
        show own_Go p.tables e below s _ _ _ (T1.setTop (mkF m 69 #[.val (.ref p0), .val (.long p1), .second, .val (.double cov), .second, .val (.double sh), .second, .val (.int (own_i j))] [(.double (FP.ddiv (FP.l2d p1) cov))]))
        refine own_by (fun _ kz => XS.goto X1.here hx rfl (pc0 := 69) (pc' := 75) rfl (hb hby d4_69) (by decide) (by decide) kz) ?_
        show own_Go p.tables e below s _ _ _ (T1.setTop (mkF m 75 #[.val (.ref p0), .val (.long p1), .second, .val (.double cov), .second, .val (.double sh), .second, .val (.int (own_i j))] [(.double (FP.ddiv (FP.l2d p1) cov))]))
        exact own_retD X1 hx hlk Bd.returns (hb hby d4_75) (by decide) (by decide) ⟨_, rfl, N0, e1, Or.inr ⟨(own_pos hc).mp hc62_2, _, hc, rfl⟩⟩
      · refine own_by (fun _ kz => XS.ifYes X1.here hx rfl (pc0 := 62) (pc' := 72) rfl (hb hby d4_62) rfl ((if0 _ _).trans (flt hc62_2).2.2.2) (by decide) (by decide) kz) ?_
        show own_Go p.tables e below s _ _ _ (T1.setTop (mkF m 72 #[.val (.ref p0), .val (.long p1), .second, .val (.double cov), .second, .val (.double sh), .second, .val (.int (own_i j))] []))
        refine own_by (fun _ kz => X1.ldc2DoubleC hx hown (mvT hZ (hw _ (List.mem_of_getElem? (i := 26) rfl))) (g := (mkF m 72 #[.val (.ref p0), .val (.long p1), .second, .val (.double cov), .second, .val (.double sh), .second, .val (.int (own_i j))] [])) rfl (hb hby d4_72) _ kz) ?_
        show own_Go p.tables e below s _ _ _ (T1.setTop (mkF m 75 #[.val (.ref p0), .val (.long p1), .second, .val (.double cov), .second, .val (.double sh), .second, .val (.int (own_i j))] [(.double (9218868437227405312 : UInt64))]))
        exact own_retD X1 hx hlk Bd.returns (hb hby d4_75) (by decide) (by decide) ⟨_, rfl, N0, e1, Or.inl ⟨Classical.byContradiction fun q => hc62_2 ((own_pos hc).mpr q), rfl⟩⟩
    | succ n ih =>
      intro j T' cov sh X eT hjn hc hs
      have tu := own_turn G (by omega : j ≤ 3) hc hs
      have ht := hTW j (by omega)
      refine own_by (fun _ kz => XS.iload X.here hx rfl (hb hby d4_8) rfl kz) ?_
      show own_Go p.tables e below s _ _ _ (T'.setTop (mkF m 10 #[.val (.ref p0), .val (.long p1), .second, .val (.double cov), .second, .val (.double sh), .second, .val (.int (own_i j))] [(.int (own_i j))]))
      refine own_by (fun _ kz => XS.aloadN X.here hx rfl (hb hby d4_10) rfl rfl kz) ?_
      show own_Go p.tables e below s _ _ _ (T'.setTop (mkF m 11 #[.val (.ref p0), .val (.long p1), .second, .val (.double cov), .second, .val (.double sh), .second, .val (.int (own_i j))] [(.ref p0), (.int (own_i j))]))
      obtain ⟨T3, X3, e3, st3⟩ := getF X hx hZ hown (host := "") (Or.inl (hw _ (List.mem_of_getElem? (i := 19) rfl))) Via.refl eT PB0.fD (g := (mkF m 11 #[.val (.ref p0), .val (.long p1), .second, .val (.double cov), .second, .val (.double sh), .second, .val (.int (own_i j))] [(.ref p0), (.int (own_i j))])) rfl rfl (hb hby d4_11)
      refine own_by st3 ?_
      show own_Go p.tables e below s _ _ _ (T3.setTop (mkF m 14 #[.val (.ref p0), .val (.long p1), .second, .val (.double cov), .second, .val (.double sh), .second, .val (.int (own_i j))] [(.int (own_i d)), (.int (own_i j))]))
      refine own_by (fun _ kz => XS.icmpNo X3.here hx rfl (hb hby d4_14) rfl (tlt (show (own_i j) < (own_i d) from (own_i_lt j (by omega) d (by omega)).mpr (by omega))).2.1 kz) ?_
      show own_Go p.tables e below s _ _ _ (T3.setTop (mkF m 17 #[.val (.ref p0), .val (.long p1), .second, .val (.double cov), .second, .val (.double sh), .second, .val (.int (own_i j))] []))
      refine own_by (fun _ kz => XS.dloadN X3.here hx rfl (hb hby d4_17) rfl kz) ?_
      show own_Go p.tables e below s _ _ _ (T3.setTop (mkF m 18 #[.val (.ref p0), .val (.long p1), .second, .val (.double cov), .second, .val (.double sh), .second, .val (.int (own_i j))] [(.double cov)]))
      refine own_by (fun _ kz => XS.dload X3.here hx rfl (hb hby d4_18) rfl kz) ?_
      show own_Go p.tables e below s _ _ _ (T3.setTop (mkF m 20 #[.val (.ref p0), .val (.long p1), .second, .val (.double cov), .second, .val (.double sh), .second, .val (.int (own_i j))] [(.double sh), (.double cov)]))
      refine own_by (fun _ kz => XS.aloadN X3.here hx rfl (hb hby d4_20) rfl rfl kz) ?_
      show own_Go p.tables e below s _ _ _ (T3.setTop (mkF m 21 #[.val (.ref p0), .val (.long p1), .second, .val (.double cov), .second, .val (.double sh), .second, .val (.int (own_i j))] [(.ref p0), (.double sh), (.double cov)]))
      obtain ⟨T4, X4, e4, st4⟩ := getF X3 hx hZ hown (host := "") (Or.inl (hw _ (List.mem_of_getElem? (i := 10) rfl))) Via.refl e3 PB0.fT (g := (mkF m 21 #[.val (.ref p0), .val (.long p1), .second, .val (.double cov), .second, .val (.double sh), .second, .val (.int (own_i j))] [(.ref p0), (.double sh), (.double cov)])) rfl rfl (hb hby d4_21)
      refine own_by st4 ?_
      show own_Go p.tables e below s _ _ _ (T4.setTop (mkF m 24 #[.val (.ref p0), .val (.long p1), .second, .val (.double cov), .second, .val (.double sh), .second, .val (.int (own_i j))] [(.ref ta), (.double sh), (.double cov)]))
      refine own_by (fun _ kz => XS.iload X4.here hx rfl (hb hby d4_24) rfl kz) ?_
      show own_Go p.tables e below s _ _ _ (T4.setTop (mkF m 26 #[.val (.ref p0), .val (.long p1), .second, .val (.double cov), .second, .val (.double sh), .second, .val (.int (own_i j))] [(.int (own_i j)), (.ref ta), (.double sh), (.double cov)]))
      obtain ⟨kt5, Vt5⟩ := PB0.2.2.2.2.2.1
      refine own_by (fun _ kz => own_ld X4 hx hZ e4 Vt5 (own_i_lt16 (by omega)) ((own_at6 (by omega) ts).trans (congrArg Value.int ht.1)) (g := (mkF m 26 #[.val (.ref p0), .val (.long p1), .second, .val (.double cov), .second, .val (.double sh), .second, .val (.int (own_i j))] [(.int (own_i j)), (.ref ta), (.double sh), (.double cov)])) rfl rfl (hb hby d4_26) _ kz) ?_
      show own_Go p.tables e below s _ _ _ (T4.setTop (mkF m 27 #[.val (.ref p0), .val (.long p1), .second, .val (.double cov), .second, .val (.double sh), .second, .val (.int (own_i j))] [(.int (T j)), (.double sh), (.double cov)]))
      refine own_by (fun _ kz => XS.i2dS X4.here hx rfl (hb hby d4_27) rfl rfl kz) ?_
      show own_Go p.tables e below s _ _ _ (T4.setTop (mkF m 28 #[.val (.ref p0), .val (.long p1), .second, .val (.double cov), .second, .val (.double sh), .second, .val (.int (own_i j))] [(.double (FP.i2d (T j))), (.double sh), (.double cov)]))
      refine own_by (fun _ kz => XS.dmulS X4.here hx rfl (hb hby d4_28) rfl tu.1 rfl kz) ?_
      show own_Go p.tables e below s _ _ _ (T4.setTop (mkF m 29 #[.val (.ref p0), .val (.long p1), .second, .val (.double cov), .second, .val (.double sh), .second, .val (.int (own_i j))] [(.double (FP.dmul sh (FP.i2d (T j)))), (.double cov)]))
      refine own_by (fun _ kz => XS.aloadN X4.here hx rfl (hb hby d4_29) rfl rfl kz) ?_
      show own_Go p.tables e below s _ _ _ (T4.setTop (mkF m 30 #[.val (.ref p0), .val (.long p1), .second, .val (.double cov), .second, .val (.double sh), .second, .val (.int (own_i j))] [(.ref p0), (.double (FP.dmul sh (FP.i2d (T j)))), (.double cov)]))
      obtain ⟨T6, X6, e6, st6⟩ := getF X4 hx hZ hown (host := "") (Or.inl (hw _ (List.mem_of_getElem? (i := 12) rfl))) Via.refl e4 PB0.fW (g := (mkF m 30 #[.val (.ref p0), .val (.long p1), .second, .val (.double cov), .second, .val (.double sh), .second, .val (.int (own_i j))] [(.ref p0), (.double (FP.dmul sh (FP.i2d (T j)))), (.double cov)])) rfl rfl (hb hby d4_30)
      refine own_by st6 ?_
      show own_Go p.tables e below s _ _ _ (T6.setTop (mkF m 33 #[.val (.ref p0), .val (.long p1), .second, .val (.double cov), .second, .val (.double sh), .second, .val (.int (own_i j))] [(.ref wa), (.double (FP.dmul sh (FP.i2d (T j)))), (.double cov)]))
      refine own_by (fun _ kz => XS.iload X6.here hx rfl (hb hby d4_33) rfl kz) ?_
      show own_Go p.tables e below s _ _ _ (T6.setTop (mkF m 35 #[.val (.ref p0), .val (.long p1), .second, .val (.double cov), .second, .val (.double sh), .second, .val (.int (own_i j))] [(.int (own_i j)), (.ref wa), (.double (FP.dmul sh (FP.i2d (T j)))), (.double cov)]))
      obtain ⟨kt7, Vt7⟩ := PB0.2.2.2.2.2.2.1
      refine own_by (fun _ kz => own_ld X6 hx hZ e6 Vt7 (own_i_lt16 (by omega)) ((own_at6 (by omega) us).trans (congrArg Value.int ht.2)) (g := (mkF m 35 #[.val (.ref p0), .val (.long p1), .second, .val (.double cov), .second, .val (.double sh), .second, .val (.int (own_i j))] [(.int (own_i j)), (.ref wa), (.double (FP.dmul sh (FP.i2d (T j)))), (.double cov)])) rfl rfl (hb hby d4_35) _ kz) ?_
      show own_Go p.tables e below s _ _ _ (T6.setTop (mkF m 36 #[.val (.ref p0), .val (.long p1), .second, .val (.double cov), .second, .val (.double sh), .second, .val (.int (own_i j))] [(.int (W j)), (.double (FP.dmul sh (FP.i2d (T j)))), (.double cov)]))
      refine own_by (fun _ kz => XS.i2dS X6.here hx rfl (hb hby d4_36) rfl rfl kz) ?_
      show own_Go p.tables e below s _ _ _ (T6.setTop (mkF m 37 #[.val (.ref p0), .val (.long p1), .second, .val (.double cov), .second, .val (.double sh), .second, .val (.int (own_i j))] [(.double (FP.i2d (W j))), (.double (FP.dmul sh (FP.i2d (T j)))), (.double cov)]))
      refine own_by (fun _ kz => XS.ddivS X6.here hx rfl (hb hby d4_37) rfl tu.2.1 rfl kz) ?_
      show own_Go p.tables e below s _ _ _ (T6.setTop (mkF m 38 #[.val (.ref p0), .val (.long p1), .second, .val (.double cov), .second, .val (.double sh), .second, .val (.int (own_i j))] [(.double (FP.ddiv (FP.dmul sh (FP.i2d (T j))) (FP.i2d (W j)))), (.double cov)]))
      refine own_by (fun _ kz => XS.daddS X6.here hx rfl (hb hby d4_38) rfl tu.2.2.1.nn rfl kz) ?_
      show own_Go p.tables e below s _ _ _ (T6.setTop (mkF m 39 #[.val (.ref p0), .val (.long p1), .second, .val (.double cov), .second, .val (.double sh), .second, .val (.int (own_i j))] [(.double (FP.dadd cov (FP.ddiv (FP.dmul sh (FP.i2d (T j))) (FP.i2d (W j)))))]))
      refine own_by (fun _ kz => XS.dstoreN X6.here hx rfl (hb hby d4_39) rfl (l' := #[.val (.ref p0), .val (.long p1), .second, .val (.double (FP.dadd cov (FP.ddiv (FP.dmul sh (FP.i2d (T j))) (FP.i2d (W j))))), .second, .val (.double sh), .second, .val (.int (own_i j))]) rfl kz) ?_
      show own_Go p.tables e below s _ _ _ (T6.setTop (mkF m 40 #[.val (.ref p0), .val (.long p1), .second, .val (.double (FP.dadd cov (FP.ddiv (FP.dmul sh (FP.i2d (T j))) (FP.i2d (W j))))), .second, .val (.double sh), .second, .val (.int (own_i j))] []))
      refine own_by (fun _ kz => XS.dload X6.here hx rfl (hb hby d4_40) rfl kz) ?_
      show own_Go p.tables e below s _ _ _ (T6.setTop (mkF m 42 #[.val (.ref p0), .val (.long p1), .second, .val (.double (FP.dadd cov (FP.ddiv (FP.dmul sh (FP.i2d (T j))) (FP.i2d (W j))))), .second, .val (.double sh), .second, .val (.int (own_i j))] [(.double sh)]))
      refine own_by (fun _ kz => XS.aloadN X6.here hx rfl (hb hby d4_42) rfl rfl kz) ?_
      show own_Go p.tables e below s _ _ _ (T6.setTop (mkF m 43 #[.val (.ref p0), .val (.long p1), .second, .val (.double (FP.dadd cov (FP.ddiv (FP.dmul sh (FP.i2d (T j))) (FP.i2d (W j))))), .second, .val (.double sh), .second, .val (.int (own_i j))] [(.ref p0), (.double sh)]))
      obtain ⟨T8, X8, e8, st8⟩ := getF X6 hx hZ hown (host := "") (Or.inl (hw _ (List.mem_of_getElem? (i := 12) rfl))) Via.refl e6 PB0.fW (g := (mkF m 43 #[.val (.ref p0), .val (.long p1), .second, .val (.double (FP.dadd cov (FP.ddiv (FP.dmul sh (FP.i2d (T j))) (FP.i2d (W j))))), .second, .val (.double sh), .second, .val (.int (own_i j))] [(.ref p0), (.double sh)])) rfl rfl (hb hby d4_43)
      refine own_by st8 ?_
      show own_Go p.tables e below s _ _ _ (T8.setTop (mkF m 46 #[.val (.ref p0), .val (.long p1), .second, .val (.double (FP.dadd cov (FP.ddiv (FP.dmul sh (FP.i2d (T j))) (FP.i2d (W j))))), .second, .val (.double sh), .second, .val (.int (own_i j))] [(.ref wa), (.double sh)]))
      refine own_by (fun _ kz => XS.iload X8.here hx rfl (hb hby d4_46) rfl kz) ?_
      show own_Go p.tables e below s _ _ _ (T8.setTop (mkF m 48 #[.val (.ref p0), .val (.long p1), .second, .val (.double (FP.dadd cov (FP.ddiv (FP.dmul sh (FP.i2d (T j))) (FP.i2d (W j))))), .second, .val (.double sh), .second, .val (.int (own_i j))] [(.int (own_i j)), (.ref wa), (.double sh)]))
      obtain ⟨kt9, Vt9⟩ := PB0.2.2.2.2.2.2.1
      refine own_by (fun _ kz => own_ld X8 hx hZ e8 Vt9 (own_i_lt16 (by omega)) ((own_at6 (by omega) us).trans (congrArg Value.int ht.2)) (g := (mkF m 48 #[.val (.ref p0), .val (.long p1), .second, .val (.double (FP.dadd cov (FP.ddiv (FP.dmul sh (FP.i2d (T j))) (FP.i2d (W j))))), .second, .val (.double sh), .second, .val (.int (own_i j))] [(.int (own_i j)), (.ref wa), (.double sh)])) rfl rfl (hb hby d4_48) _ kz) ?_
      show own_Go p.tables e below s _ _ _ (T8.setTop (mkF m 49 #[.val (.ref p0), .val (.long p1), .second, .val (.double (FP.dadd cov (FP.ddiv (FP.dmul sh (FP.i2d (T j))) (FP.i2d (W j))))), .second, .val (.double sh), .second, .val (.int (own_i j))] [(.int (W j)), (.double sh)]))
      refine own_by (fun _ kz => XS.i2dS X8.here hx rfl (hb hby d4_49) rfl rfl kz) ?_
      show own_Go p.tables e below s _ _ _ (T8.setTop (mkF m 50 #[.val (.ref p0), .val (.long p1), .second, .val (.double (FP.dadd cov (FP.ddiv (FP.dmul sh (FP.i2d (T j))) (FP.i2d (W j))))), .second, .val (.double sh), .second, .val (.int (own_i j))] [(.double (FP.i2d (W j))), (.double sh)]))
      refine own_by (fun _ kz => XS.ddivS X8.here hx rfl (hb hby d4_50) rfl tu.2.2.2.nn rfl kz) ?_
      show own_Go p.tables e below s _ _ _ (T8.setTop (mkF m 51 #[.val (.ref p0), .val (.long p1), .second, .val (.double (FP.dadd cov (FP.ddiv (FP.dmul sh (FP.i2d (T j))) (FP.i2d (W j))))), .second, .val (.double sh), .second, .val (.int (own_i j))] [(.double (FP.ddiv sh (FP.i2d (W j))))]))
      refine own_by (fun _ kz => XS.dstore X8.here hx rfl (hb hby d4_51) rfl (l' := #[.val (.ref p0), .val (.long p1), .second, .val (.double (FP.dadd cov (FP.ddiv (FP.dmul sh (FP.i2d (T j))) (FP.i2d (W j))))), .second, .val (.double (FP.ddiv sh (FP.i2d (W j)))), .second, .val (.int (own_i j))]) rfl kz) ?_
      show own_Go p.tables e below s _ _ _ (T8.setTop (mkF m 53 #[.val (.ref p0), .val (.long p1), .second, .val (.double (FP.dadd cov (FP.ddiv (FP.dmul sh (FP.i2d (T j))) (FP.i2d (W j))))), .second, .val (.double (FP.ddiv sh (FP.i2d (W j)))), .second, .val (.int (own_i j))] []))
      refine own_by (fun _ kz => XS.iinc X8.here hx rfl (hb hby d4_53) rfl (l' := #[.val (.ref p0), .val (.long p1), .second, .val (.double (FP.dadd cov (FP.ddiv (FP.dmul sh (FP.i2d (T j))) (FP.i2d (W j))))), .second, .val (.double (FP.ddiv sh (FP.i2d (W j)))), .second, .val (.int (own_i j + 1))]) rfl kz) ?_
      show own_Go p.tables e below s _ _ _ (T8.setTop (mkF m 56 #[.val (.ref p0), .val (.long p1), .second, .val (.double (FP.dadd cov (FP.ddiv (FP.dmul sh (FP.i2d (T j))) (FP.i2d (W j))))), .second, .val (.double (FP.ddiv sh (FP.i2d (W j)))), .second, .val (.int (own_i j + 1))] []))
      rw [own_i_succ j (by omega)]
      show own_Go p.tables e below s _ _ _ (T8.setTop (mkF m 56 #[.val (.ref p0), .val (.long p1), .second, .val (.double (FP.dadd cov (FP.ddiv (FP.dmul sh (FP.i2d (T j))) (FP.i2d (W j))))), .second, .val (.double (FP.ddiv sh (FP.i2d (W j)))), .second, .val (.int (own_i (j + 1)))] []))
      refine own_by (fun _ kz => XS.goto X8.here hx rfl (pc0 := 56) (pc' := 8) rfl (hb hby d4_56) (by decide) (by decide) kz) ?_
      exact ih (j + 1) _ _ _ X8 e8 (by omega) tu.2.2.1 tu.2.2.2
  exact loop d 0 _ _ _ X0 e0 (by omega) (own_dy0 _) own_dy1

theorem pf_0 : plainFor x = true := by first | exact plainFor_of_name (by first | (simp [plainName, overriddenIn]; done) | decide +kernel) | decide +kernel
theorem pd_0 : parseMethodDescriptor "(JIIII)Z" = some ⟨[.long, .int, .int, .int, .int], some .boolean⟩ := by decide +kernel
theorem ef_0 (m : MethodId) (p0 : Int64) (qa : Int32) (qb : Int32) (qc : Int32) (qm : Int32) : entryFrame m #[(.long p0), (.int qa), (.int qb), (.int qc), (.int qm)] maxLocals = mkF m 0 #[.val (.long p0), .second, .val (.int qa), .val (.int qb), .val (.int qc), .val (.int qm), .unset, .unset, .unset, .unset, .unset, .unset, .unset, .unset, .unset, .unset, .unset, .unset, .unset, .unset, .unset, .unset, .unset, .unset] [] := by first | (simp [entryFrame, mkF, argsToLocals, Value.category, maxLocals]; done) | rfl
def Q0 (p0 : Int64) (qa : Int32) (qb : Int32) (qc : Int32) (qm : Int32) (h0 : Heap) (n0 : Nat) (v : Option Value) (h : Heap) (L : List Loc) : Prop := v = some (.int 1) ∧ Fr n0 L
set_option maxRecDepth 65536 in
set_option maxHeartbeats 40000000 in
theorem rm0 (l : Launch) (Z : State) (a0 : Array Value) (hw : ∀ d ∈ tables_1, d.before a0 Z = true) (ws : List Jvm.Cond) (p0 : Int64) (qa : Int32) (qb : Int32) (qc : Int32) (qm : Int32) (h0 : Heap) (n0 : Nat) (Z0 : n0 ≤ h0.size)  :
    own_Met l Z x code maxLocals ret ws room_1 #[(.long p0), (.int qa), (.int qb), (.int qc), (.int qm)] h0 (Q0 p0 qa qb qc qm h0 n0) := by
  refine MetFree.of_bodySF pf_0 hisR ?_
  intro p e s m args below meth c s₁ Bd hml0 hP hK
  obtain ⟨rfl, hZ, hh⟩ := hP
  have hx := Bd.exec
  have hby := Bd.bytes
  have hlk : meth.locks = false := BodyLoose.notSynchronized Bd
  have hml : c.maxLocals = 24 := hml0
  have hown : s.vm.findClass "com/example/proofhound/proofhound/symbolic/ProgressExpectedWorkPinLaw" = some m.cls := findClass_of_methodNamed Bd.named
  have hnm := (name_of_methodNamed Bd.named Bd.method).1
  have X0 : Stand p l e room_1 s m #[(.long p0), (.int qa), (.int qb), (.int qc), (.int qm)] below meth c s₁ [] 0 0 := Stand.of_body Bd
  have e0 : s₁.heap = h0 := by rw [← hh, Bd.state]; rfl
  have N0 := Fr.nil n0
  show own_Go p.tables e below s (Q0 p0 qa qb qc qm h0 n0) room_1.cells room_1.slots _
  refine own_by (fun _ k => castTop (ef_0 m p0 qa qb qc qm) k) ?_
  show own_Go p.tables e below s _ _ _ (s₁.setTop (mkF m 0 #[.val (.long p0), .second, .val (.int qa), .val (.int qb), .val (.int qc), .val (.int qm), .unset, .unset, .unset, .unset, .unset, .unset, .unset, .unset, .unset, .unset, .unset, .unset, .unset, .unset, .unset, .unset, .unset, .unset] []))
  refine own_by (fun _ kz => XS.iconst X0.here hx rfl (hb hby at_0) kz) ?_
  show own_Go p.tables e below s _ _ _ (s₁.setTop (mkF m 1 #[.val (.long p0), .second, .val (.int qa), .val (.int qb), .val (.int qc), .val (.int qm), .unset, .unset, .unset, .unset, .unset, .unset, .unset, .unset, .unset, .unset, .unset, .unset, .unset, .unset, .unset, .unset, .unset, .unset] [(.int (1 : Int32))]))
  refine own_by (fun _ kz => XS.iloadN X0.here hx rfl (hb hby at_1) rfl kz) ?_
  show own_Go p.tables e below s _ _ _ (s₁.setTop (mkF m 2 #[.val (.long p0), .second, .val (.int qa), .val (.int qb), .val (.int qc), .val (.int qm), .unset, .unset, .unset, .unset, .unset, .unset, .unset, .unset, .unset, .unset, .unset, .unset, .unset, .unset, .unset, .unset, .unset, .unset] [(.int qa), (.int (1 : Int32))]))
  refine own_by (fun _ kz => XS.bipush X0.here hx rfl (hb hby at_2) kz) ?_
  show own_Go p.tables e below s _ _ _ (s₁.setTop (mkF m 4 #[.val (.long p0), .second, .val (.int qa), .val (.int qb), .val (.int qc), .val (.int qm), .unset, .unset, .unset, .unset, .unset, .unset, .unset, .unset, .unset, .unset, .unset, .unset, .unset, .unset, .unset, .unset, .unset, .unset] [(.int (7 : Int32)), (.int qa), (.int (1 : Int32))]))
  refine own_by (fun _ kz => XS.iand X0.here hx rfl (hb hby at_4) rfl kz) ?_
  show own_Go p.tables e below s _ _ _ (s₁.setTop (mkF m 5 #[.val (.long p0), .second, .val (.int qa), .val (.int qb), .val (.int qc), .val (.int qm), .unset, .unset, .unset, .unset, .unset, .unset, .unset, .unset, .unset, .unset, .unset, .unset, .unset, .unset, .unset, .unset, .unset, .unset] [(.int (qa &&& (7 : Int32))), (.int (1 : Int32))]))
  refine own_by (fun _ kz => XS.ishl X0.here hx rfl (hb hby at_5) rfl kz) ?_
  show own_Go p.tables e below s _ _ _ (s₁.setTop (mkF m 6 #[.val (.long p0), .second, .val (.int qa), .val (.int qb), .val (.int qc), .val (.int qm), .unset, .unset, .unset, .unset, .unset, .unset, .unset, .unset, .unset, .unset, .unset, .unset, .unset, .unset, .unset, .unset, .unset, .unset] [(.int ((1 : Int32) <<< ((qa &&& (7 : Int32)) &&& 31)))]))
  obtain ⟨w0, ew0, hw0⟩ : ∃ w : Int32, w = ((1 : Int32) <<< ((qa &&& (7 : Int32)) &&& 31)) ∧ ∃ k : Nat, k ≤ 7 ∧ w.toInt = 2 ^ k := ⟨_, rfl, own_pow7 qa⟩
  rw [← ew0]
  show own_Go p.tables e below s _ _ _ (s₁.setTop (mkF m 6 #[.val (.long p0), .second, .val (.int qa), .val (.int qb), .val (.int qc), .val (.int qm), .unset, .unset, .unset, .unset, .unset, .unset, .unset, .unset, .unset, .unset, .unset, .unset, .unset, .unset, .unset, .unset, .unset, .unset] [(.int w0)]))
  refine own_by (fun _ kz => XS.istore X0.here hx rfl (hb hby at_6) rfl (l' := #[.val (.long p0), .second, .val (.int qa), .val (.int qb), .val (.int qc), .val (.int qm), .val (.int w0), .unset, .unset, .unset, .unset, .unset, .unset, .unset, .unset, .unset, .unset, .unset, .unset, .unset, .unset, .unset, .unset, .unset]) rfl kz) ?_
  show own_Go p.tables e below s _ _ _ (s₁.setTop (mkF m 8 #[.val (.long p0), .second, .val (.int qa), .val (.int qb), .val (.int qc), .val (.int qm), .val (.int w0), .unset, .unset, .unset, .unset, .unset, .unset, .unset, .unset, .unset, .unset, .unset, .unset, .unset, .unset, .unset, .unset, .unset] []))
  refine own_by (fun _ kz => XS.iconst X0.here hx rfl (hb hby at_8) kz) ?_
  show own_Go p.tables e below s _ _ _ (s₁.setTop (mkF m 9 #[.val (.long p0), .second, .val (.int qa), .val (.int qb), .val (.int qc), .val (.int qm), .val (.int w0), .unset, .unset, .unset, .unset, .unset, .unset, .unset, .unset, .unset, .unset, .unset, .unset, .unset, .unset, .unset, .unset, .unset] [(.int (1 : Int32))]))
  refine own_by (fun _ kz => XS.iloadN X0.here hx rfl (hb hby at_9) rfl kz) ?_
  show own_Go p.tables e below s _ _ _ (s₁.setTop (mkF m 10 #[.val (.long p0), .second, .val (.int qa), .val (.int qb), .val (.int qc), .val (.int qm), .val (.int w0), .unset, .unset, .unset, .unset, .unset, .unset, .unset, .unset, .unset, .unset, .unset, .unset, .unset, .unset, .unset, .unset, .unset] [(.int qb), (.int (1 : Int32))]))
  refine own_by (fun _ kz => XS.bipush X0.here hx rfl (hb hby at_10) kz) ?_
  show own_Go p.tables e below s _ _ _ (s₁.setTop (mkF m 12 #[.val (.long p0), .second, .val (.int qa), .val (.int qb), .val (.int qc), .val (.int qm), .val (.int w0), .unset, .unset, .unset, .unset, .unset, .unset, .unset, .unset, .unset, .unset, .unset, .unset, .unset, .unset, .unset, .unset, .unset] [(.int (7 : Int32)), (.int qb), (.int (1 : Int32))]))
  refine own_by (fun _ kz => XS.iand X0.here hx rfl (hb hby at_12) rfl kz) ?_
  show own_Go p.tables e below s _ _ _ (s₁.setTop (mkF m 13 #[.val (.long p0), .second, .val (.int qa), .val (.int qb), .val (.int qc), .val (.int qm), .val (.int w0), .unset, .unset, .unset, .unset, .unset, .unset, .unset, .unset, .unset, .unset, .unset, .unset, .unset, .unset, .unset, .unset, .unset] [(.int (qb &&& (7 : Int32))), (.int (1 : Int32))]))
  refine own_by (fun _ kz => XS.ishl X0.here hx rfl (hb hby at_13) rfl kz) ?_
  show own_Go p.tables e below s _ _ _ (s₁.setTop (mkF m 14 #[.val (.long p0), .second, .val (.int qa), .val (.int qb), .val (.int qc), .val (.int qm), .val (.int w0), .unset, .unset, .unset, .unset, .unset, .unset, .unset, .unset, .unset, .unset, .unset, .unset, .unset, .unset, .unset, .unset, .unset] [(.int ((1 : Int32) <<< ((qb &&& (7 : Int32)) &&& 31)))]))
  obtain ⟨w1, ew1, hw1⟩ : ∃ w : Int32, w = ((1 : Int32) <<< ((qb &&& (7 : Int32)) &&& 31)) ∧ ∃ k : Nat, k ≤ 7 ∧ w.toInt = 2 ^ k := ⟨_, rfl, own_pow7 qb⟩
  rw [← ew1]
  show own_Go p.tables e below s _ _ _ (s₁.setTop (mkF m 14 #[.val (.long p0), .second, .val (.int qa), .val (.int qb), .val (.int qc), .val (.int qm), .val (.int w0), .unset, .unset, .unset, .unset, .unset, .unset, .unset, .unset, .unset, .unset, .unset, .unset, .unset, .unset, .unset, .unset, .unset] [(.int w1)]))
  refine own_by (fun _ kz => XS.istore X0.here hx rfl (hb hby at_14) rfl (l' := #[.val (.long p0), .second, .val (.int qa), .val (.int qb), .val (.int qc), .val (.int qm), .val (.int w0), .val (.int w1), .unset, .unset, .unset, .unset, .unset, .unset, .unset, .unset, .unset, .unset, .unset, .unset, .unset, .unset, .unset, .unset]) rfl kz) ?_
  show own_Go p.tables e below s _ _ _ (s₁.setTop (mkF m 16 #[.val (.long p0), .second, .val (.int qa), .val (.int qb), .val (.int qc), .val (.int qm), .val (.int w0), .val (.int w1), .unset, .unset, .unset, .unset, .unset, .unset, .unset, .unset, .unset, .unset, .unset, .unset, .unset, .unset, .unset, .unset] []))
  refine own_by (fun _ kz => XS.iconst X0.here hx rfl (hb hby at_16) kz) ?_
  show own_Go p.tables e below s _ _ _ (s₁.setTop (mkF m 17 #[.val (.long p0), .second, .val (.int qa), .val (.int qb), .val (.int qc), .val (.int qm), .val (.int w0), .val (.int w1), .unset, .unset, .unset, .unset, .unset, .unset, .unset, .unset, .unset, .unset, .unset, .unset, .unset, .unset, .unset, .unset] [(.int (1 : Int32))]))
  refine own_by (fun _ kz => XS.iload X0.here hx rfl (hb hby at_17) rfl kz) ?_
  show own_Go p.tables e below s _ _ _ (s₁.setTop (mkF m 19 #[.val (.long p0), .second, .val (.int qa), .val (.int qb), .val (.int qc), .val (.int qm), .val (.int w0), .val (.int w1), .unset, .unset, .unset, .unset, .unset, .unset, .unset, .unset, .unset, .unset, .unset, .unset, .unset, .unset, .unset, .unset] [(.int qc), (.int (1 : Int32))]))
  refine own_by (fun _ kz => XS.bipush X0.here hx rfl (hb hby at_19) kz) ?_
  show own_Go p.tables e below s _ _ _ (s₁.setTop (mkF m 21 #[.val (.long p0), .second, .val (.int qa), .val (.int qb), .val (.int qc), .val (.int qm), .val (.int w0), .val (.int w1), .unset, .unset, .unset, .unset, .unset, .unset, .unset, .unset, .unset, .unset, .unset, .unset, .unset, .unset, .unset, .unset] [(.int (7 : Int32)), (.int qc), (.int (1 : Int32))]))
  refine own_by (fun _ kz => XS.iand X0.here hx rfl (hb hby at_21) rfl kz) ?_
  show own_Go p.tables e below s _ _ _ (s₁.setTop (mkF m 22 #[.val (.long p0), .second, .val (.int qa), .val (.int qb), .val (.int qc), .val (.int qm), .val (.int w0), .val (.int w1), .unset, .unset, .unset, .unset, .unset, .unset, .unset, .unset, .unset, .unset, .unset, .unset, .unset, .unset, .unset, .unset] [(.int (qc &&& (7 : Int32))), (.int (1 : Int32))]))
  refine own_by (fun _ kz => XS.ishl X0.here hx rfl (hb hby at_22) rfl kz) ?_
  show own_Go p.tables e below s _ _ _ (s₁.setTop (mkF m 23 #[.val (.long p0), .second, .val (.int qa), .val (.int qb), .val (.int qc), .val (.int qm), .val (.int w0), .val (.int w1), .unset, .unset, .unset, .unset, .unset, .unset, .unset, .unset, .unset, .unset, .unset, .unset, .unset, .unset, .unset, .unset] [(.int ((1 : Int32) <<< ((qc &&& (7 : Int32)) &&& 31)))]))
  obtain ⟨w2, ew2, hw2⟩ : ∃ w : Int32, w = ((1 : Int32) <<< ((qc &&& (7 : Int32)) &&& 31)) ∧ ∃ k : Nat, k ≤ 7 ∧ w.toInt = 2 ^ k := ⟨_, rfl, own_pow7 qc⟩
  rw [← ew2]
  show own_Go p.tables e below s _ _ _ (s₁.setTop (mkF m 23 #[.val (.long p0), .second, .val (.int qa), .val (.int qb), .val (.int qc), .val (.int qm), .val (.int w0), .val (.int w1), .unset, .unset, .unset, .unset, .unset, .unset, .unset, .unset, .unset, .unset, .unset, .unset, .unset, .unset, .unset, .unset] [(.int w2)]))
  refine own_by (fun _ kz => XS.istore X0.here hx rfl (hb hby at_23) rfl (l' := #[.val (.long p0), .second, .val (.int qa), .val (.int qb), .val (.int qc), .val (.int qm), .val (.int w0), .val (.int w1), .val (.int w2), .unset, .unset, .unset, .unset, .unset, .unset, .unset, .unset, .unset, .unset, .unset, .unset, .unset, .unset, .unset]) rfl kz) ?_
  show own_Go p.tables e below s _ _ _ (s₁.setTop (mkF m 25 #[.val (.long p0), .second, .val (.int qa), .val (.int qb), .val (.int qc), .val (.int qm), .val (.int w0), .val (.int w1), .val (.int w2), .unset, .unset, .unset, .unset, .unset, .unset, .unset, .unset, .unset, .unset, .unset, .unset, .unset, .unset, .unset] []))
  refine own_by (fun _ kz => XS.iloadN X0.here hx rfl (hb hby at_25) rfl kz) ?_
  show own_Go p.tables e below s _ _ _ (s₁.setTop (mkF m 26 #[.val (.long p0), .second, .val (.int qa), .val (.int qb), .val (.int qc), .val (.int qm), .val (.int w0), .val (.int w1), .val (.int w2), .unset, .unset, .unset, .unset, .unset, .unset, .unset, .unset, .unset, .unset, .unset, .unset, .unset, .unset, .unset] [(.int qa)]))
  refine own_by (fun _ kz => XS.iconst X0.here hx rfl (hb hby at_26) kz) ?_
  show own_Go p.tables e below s _ _ _ (s₁.setTop (mkF m 27 #[.val (.long p0), .second, .val (.int qa), .val (.int qb), .val (.int qc), .val (.int qm), .val (.int w0), .val (.int w1), .val (.int w2), .unset, .unset, .unset, .unset, .unset, .unset, .unset, .unset, .unset, .unset, .unset, .unset, .unset, .unset, .unset] [(.int (3 : Int32)), (.int qa)]))
  refine own_by (fun _ kz => XS.iushr X0.here hx rfl (hb hby at_27) rfl kz) ?_
  show own_Go p.tables e below s _ _ _ (s₁.setTop (mkF m 28 #[.val (.long p0), .second, .val (.int qa), .val (.int qb), .val (.int qc), .val (.int qm), .val (.int w0), .val (.int w1), .val (.int w2), .unset, .unset, .unset, .unset, .unset, .unset, .unset, .unset, .unset, .unset, .unset, .unset, .unset, .unset, .unset] [(.int (own_sri qa (3 : Int32)))]))
  refine own_by (fun _ kz => XS.iload X0.here hx rfl (hb hby at_28) rfl kz) ?_
  show own_Go p.tables e below s _ _ _ (s₁.setTop (mkF m 30 #[.val (.long p0), .second, .val (.int qa), .val (.int qb), .val (.int qc), .val (.int qm), .val (.int w0), .val (.int w1), .val (.int w2), .unset, .unset, .unset, .unset, .unset, .unset, .unset, .unset, .unset, .unset, .unset, .unset, .unset, .unset, .unset] [(.int w0), (.int (own_sri qa (3 : Int32)))]))
  refine own_by (fun _ kz => XS.iconst X0.here hx rfl (hb hby at_30) kz) ?_
  show own_Go p.tables e below s _ _ _ (s₁.setTop (mkF m 31 #[.val (.long p0), .second, .val (.int qa), .val (.int qb), .val (.int qc), .val (.int qm), .val (.int w0), .val (.int w1), .val (.int w2), .unset, .unset, .unset, .unset, .unset, .unset, .unset, .unset, .unset, .unset, .unset, .unset, .unset, .unset, .unset] [(.int (1 : Int32)), (.int w0), (.int (own_sri qa (3 : Int32)))]))
  refine own_by (fun _ kz => XS.isub X0.here hx rfl (hb hby at_31) rfl kz) ?_
  show own_Go p.tables e below s _ _ _ (s₁.setTop (mkF m 32 #[.val (.long p0), .second, .val (.int qa), .val (.int qb), .val (.int qc), .val (.int qm), .val (.int w0), .val (.int w1), .val (.int w2), .unset, .unset, .unset, .unset, .unset, .unset, .unset, .unset, .unset, .unset, .unset, .unset, .unset, .unset, .unset] [(.int (w0 - (1 : Int32))), (.int (own_sri qa (3 : Int32)))]))
  refine own_by (fun _ kz => XS.iand X0.here hx rfl (hb hby at_32) rfl kz) ?_
  show own_Go p.tables e below s _ _ _ (s₁.setTop (mkF m 33 #[.val (.long p0), .second, .val (.int qa), .val (.int qb), .val (.int qc), .val (.int qm), .val (.int w0), .val (.int w1), .val (.int w2), .unset, .unset, .unset, .unset, .unset, .unset, .unset, .unset, .unset, .unset, .unset, .unset, .unset, .unset, .unset] [(.int ((own_sri qa (3 : Int32)) &&& (w0 - (1 : Int32))))]))
  obtain ⟨t0, et0, ht0⟩ : ∃ t : Int32, t = ((own_sri qa (3 : Int32)) &&& (w0 - (1 : Int32))) ∧ 0 ≤ t.toInt ∧ t.toInt < w0.toInt := ⟨_, rfl, own_tk _ hw0⟩
  rw [← et0]
  show own_Go p.tables e below s _ _ _ (s₁.setTop (mkF m 33 #[.val (.long p0), .second, .val (.int qa), .val (.int qb), .val (.int qc), .val (.int qm), .val (.int w0), .val (.int w1), .val (.int w2), .unset, .unset, .unset, .unset, .unset, .unset, .unset, .unset, .unset, .unset, .unset, .unset, .unset, .unset, .unset] [(.int t0)]))
  refine own_by (fun _ kz => XS.istore X0.here hx rfl (hb hby at_33) rfl (l' := #[.val (.long p0), .second, .val (.int qa), .val (.int qb), .val (.int qc), .val (.int qm), .val (.int w0), .val (.int w1), .val (.int w2), .val (.int t0), .unset, .unset, .unset, .unset, .unset, .unset, .unset, .unset, .unset, .unset, .unset, .unset, .unset, .unset]) rfl kz) ?_
  show own_Go p.tables e below s _ _ _ (s₁.setTop (mkF m 35 #[.val (.long p0), .second, .val (.int qa), .val (.int qb), .val (.int qc), .val (.int qm), .val (.int w0), .val (.int w1), .val (.int w2), .val (.int t0), .unset, .unset, .unset, .unset, .unset, .unset, .unset, .unset, .unset, .unset, .unset, .unset, .unset, .unset] []))
  refine own_by (fun _ kz => XS.iloadN X0.here hx rfl (hb hby at_35) rfl kz) ?_
  show own_Go p.tables e below s _ _ _ (s₁.setTop (mkF m 36 #[.val (.long p0), .second, .val (.int qa), .val (.int qb), .val (.int qc), .val (.int qm), .val (.int w0), .val (.int w1), .val (.int w2), .val (.int t0), .unset, .unset, .unset, .unset, .unset, .unset, .unset, .unset, .unset, .unset, .unset, .unset, .unset, .unset] [(.int qb)]))
  refine own_by (fun _ kz => XS.iconst X0.here hx rfl (hb hby at_36) kz) ?_
  show own_Go p.tables e below s _ _ _ (s₁.setTop (mkF m 37 #[.val (.long p0), .second, .val (.int qa), .val (.int qb), .val (.int qc), .val (.int qm), .val (.int w0), .val (.int w1), .val (.int w2), .val (.int t0), .unset, .unset, .unset, .unset, .unset, .unset, .unset, .unset, .unset, .unset, .unset, .unset, .unset, .unset] [(.int (3 : Int32)), (.int qb)]))
  refine own_by (fun _ kz => XS.iushr X0.here hx rfl (hb hby at_37) rfl kz) ?_
  show own_Go p.tables e below s _ _ _ (s₁.setTop (mkF m 38 #[.val (.long p0), .second, .val (.int qa), .val (.int qb), .val (.int qc), .val (.int qm), .val (.int w0), .val (.int w1), .val (.int w2), .val (.int t0), .unset, .unset, .unset, .unset, .unset, .unset, .unset, .unset, .unset, .unset, .unset, .unset, .unset, .unset] [(.int (own_sri qb (3 : Int32)))]))
  refine own_by (fun _ kz => XS.iload X0.here hx rfl (hb hby at_38) rfl kz) ?_
  show own_Go p.tables e below s _ _ _ (s₁.setTop (mkF m 40 #[.val (.long p0), .second, .val (.int qa), .val (.int qb), .val (.int qc), .val (.int qm), .val (.int w0), .val (.int w1), .val (.int w2), .val (.int t0), .unset, .unset, .unset, .unset, .unset, .unset, .unset, .unset, .unset, .unset, .unset, .unset, .unset, .unset] [(.int w1), (.int (own_sri qb (3 : Int32)))]))
  refine own_by (fun _ kz => XS.iconst X0.here hx rfl (hb hby at_40) kz) ?_
  show own_Go p.tables e below s _ _ _ (s₁.setTop (mkF m 41 #[.val (.long p0), .second, .val (.int qa), .val (.int qb), .val (.int qc), .val (.int qm), .val (.int w0), .val (.int w1), .val (.int w2), .val (.int t0), .unset, .unset, .unset, .unset, .unset, .unset, .unset, .unset, .unset, .unset, .unset, .unset, .unset, .unset] [(.int (1 : Int32)), (.int w1), (.int (own_sri qb (3 : Int32)))]))
  refine own_by (fun _ kz => XS.isub X0.here hx rfl (hb hby at_41) rfl kz) ?_
  show own_Go p.tables e below s _ _ _ (s₁.setTop (mkF m 42 #[.val (.long p0), .second, .val (.int qa), .val (.int qb), .val (.int qc), .val (.int qm), .val (.int w0), .val (.int w1), .val (.int w2), .val (.int t0), .unset, .unset, .unset, .unset, .unset, .unset, .unset, .unset, .unset, .unset, .unset, .unset, .unset, .unset] [(.int (w1 - (1 : Int32))), (.int (own_sri qb (3 : Int32)))]))
  refine own_by (fun _ kz => XS.iand X0.here hx rfl (hb hby at_42) rfl kz) ?_
  show own_Go p.tables e below s _ _ _ (s₁.setTop (mkF m 43 #[.val (.long p0), .second, .val (.int qa), .val (.int qb), .val (.int qc), .val (.int qm), .val (.int w0), .val (.int w1), .val (.int w2), .val (.int t0), .unset, .unset, .unset, .unset, .unset, .unset, .unset, .unset, .unset, .unset, .unset, .unset, .unset, .unset] [(.int ((own_sri qb (3 : Int32)) &&& (w1 - (1 : Int32))))]))
  obtain ⟨t1, et1, ht1⟩ : ∃ t : Int32, t = ((own_sri qb (3 : Int32)) &&& (w1 - (1 : Int32))) ∧ 0 ≤ t.toInt ∧ t.toInt < w1.toInt := ⟨_, rfl, own_tk _ hw1⟩
  rw [← et1]
  show own_Go p.tables e below s _ _ _ (s₁.setTop (mkF m 43 #[.val (.long p0), .second, .val (.int qa), .val (.int qb), .val (.int qc), .val (.int qm), .val (.int w0), .val (.int w1), .val (.int w2), .val (.int t0), .unset, .unset, .unset, .unset, .unset, .unset, .unset, .unset, .unset, .unset, .unset, .unset, .unset, .unset] [(.int t1)]))
  refine own_by (fun _ kz => XS.istore X0.here hx rfl (hb hby at_43) rfl (l' := #[.val (.long p0), .second, .val (.int qa), .val (.int qb), .val (.int qc), .val (.int qm), .val (.int w0), .val (.int w1), .val (.int w2), .val (.int t0), .val (.int t1), .unset, .unset, .unset, .unset, .unset, .unset, .unset, .unset, .unset, .unset, .unset, .unset, .unset]) rfl kz) ?_
  show own_Go p.tables e below s _ _ _ (s₁.setTop (mkF m 45 #[.val (.long p0), .second, .val (.int qa), .val (.int qb), .val (.int qc), .val (.int qm), .val (.int w0), .val (.int w1), .val (.int w2), .val (.int t0), .val (.int t1), .unset, .unset, .unset, .unset, .unset, .unset, .unset, .unset, .unset, .unset, .unset, .unset, .unset] []))
  refine own_by (fun _ kz => XS.iload X0.here hx rfl (hb hby at_45) rfl kz) ?_
  show own_Go p.tables e below s _ _ _ (s₁.setTop (mkF m 47 #[.val (.long p0), .second, .val (.int qa), .val (.int qb), .val (.int qc), .val (.int qm), .val (.int w0), .val (.int w1), .val (.int w2), .val (.int t0), .val (.int t1), .unset, .unset, .unset, .unset, .unset, .unset, .unset, .unset, .unset, .unset, .unset, .unset, .unset] [(.int qc)]))
  refine own_by (fun _ kz => XS.iconst X0.here hx rfl (hb hby at_47) kz) ?_
  show own_Go p.tables e below s _ _ _ (s₁.setTop (mkF m 48 #[.val (.long p0), .second, .val (.int qa), .val (.int qb), .val (.int qc), .val (.int qm), .val (.int w0), .val (.int w1), .val (.int w2), .val (.int t0), .val (.int t1), .unset, .unset, .unset, .unset, .unset, .unset, .unset, .unset, .unset, .unset, .unset, .unset, .unset] [(.int (3 : Int32)), (.int qc)]))
  refine own_by (fun _ kz => XS.iushr X0.here hx rfl (hb hby at_48) rfl kz) ?_
  show own_Go p.tables e below s _ _ _ (s₁.setTop (mkF m 49 #[.val (.long p0), .second, .val (.int qa), .val (.int qb), .val (.int qc), .val (.int qm), .val (.int w0), .val (.int w1), .val (.int w2), .val (.int t0), .val (.int t1), .unset, .unset, .unset, .unset, .unset, .unset, .unset, .unset, .unset, .unset, .unset, .unset, .unset] [(.int (own_sri qc (3 : Int32)))]))
  refine own_by (fun _ kz => XS.iload X0.here hx rfl (hb hby at_49) rfl kz) ?_
  show own_Go p.tables e below s _ _ _ (s₁.setTop (mkF m 51 #[.val (.long p0), .second, .val (.int qa), .val (.int qb), .val (.int qc), .val (.int qm), .val (.int w0), .val (.int w1), .val (.int w2), .val (.int t0), .val (.int t1), .unset, .unset, .unset, .unset, .unset, .unset, .unset, .unset, .unset, .unset, .unset, .unset, .unset] [(.int w2), (.int (own_sri qc (3 : Int32)))]))
  refine own_by (fun _ kz => XS.iconst X0.here hx rfl (hb hby at_51) kz) ?_
  show own_Go p.tables e below s _ _ _ (s₁.setTop (mkF m 52 #[.val (.long p0), .second, .val (.int qa), .val (.int qb), .val (.int qc), .val (.int qm), .val (.int w0), .val (.int w1), .val (.int w2), .val (.int t0), .val (.int t1), .unset, .unset, .unset, .unset, .unset, .unset, .unset, .unset, .unset, .unset, .unset, .unset, .unset] [(.int (1 : Int32)), (.int w2), (.int (own_sri qc (3 : Int32)))]))
  refine own_by (fun _ kz => XS.isub X0.here hx rfl (hb hby at_52) rfl kz) ?_
  show own_Go p.tables e below s _ _ _ (s₁.setTop (mkF m 53 #[.val (.long p0), .second, .val (.int qa), .val (.int qb), .val (.int qc), .val (.int qm), .val (.int w0), .val (.int w1), .val (.int w2), .val (.int t0), .val (.int t1), .unset, .unset, .unset, .unset, .unset, .unset, .unset, .unset, .unset, .unset, .unset, .unset, .unset] [(.int (w2 - (1 : Int32))), (.int (own_sri qc (3 : Int32)))]))
  refine own_by (fun _ kz => XS.iand X0.here hx rfl (hb hby at_53) rfl kz) ?_
  show own_Go p.tables e below s _ _ _ (s₁.setTop (mkF m 54 #[.val (.long p0), .second, .val (.int qa), .val (.int qb), .val (.int qc), .val (.int qm), .val (.int w0), .val (.int w1), .val (.int w2), .val (.int t0), .val (.int t1), .unset, .unset, .unset, .unset, .unset, .unset, .unset, .unset, .unset, .unset, .unset, .unset, .unset] [(.int ((own_sri qc (3 : Int32)) &&& (w2 - (1 : Int32))))]))
  obtain ⟨t2, et2, ht2⟩ : ∃ t : Int32, t = ((own_sri qc (3 : Int32)) &&& (w2 - (1 : Int32))) ∧ 0 ≤ t.toInt ∧ t.toInt < w2.toInt := ⟨_, rfl, own_tk _ hw2⟩
  rw [← et2]
  show own_Go p.tables e below s _ _ _ (s₁.setTop (mkF m 54 #[.val (.long p0), .second, .val (.int qa), .val (.int qb), .val (.int qc), .val (.int qm), .val (.int w0), .val (.int w1), .val (.int w2), .val (.int t0), .val (.int t1), .unset, .unset, .unset, .unset, .unset, .unset, .unset, .unset, .unset, .unset, .unset, .unset, .unset] [(.int t2)]))
  refine own_by (fun _ kz => XS.istore X0.here hx rfl (hb hby at_54) rfl (l' := #[.val (.long p0), .second, .val (.int qa), .val (.int qb), .val (.int qc), .val (.int qm), .val (.int w0), .val (.int w1), .val (.int w2), .val (.int t0), .val (.int t1), .val (.int t2), .unset, .unset, .unset, .unset, .unset, .unset, .unset, .unset, .unset, .unset, .unset, .unset]) rfl kz) ?_
  show own_Go p.tables e below s _ _ _ (s₁.setTop (mkF m 56 #[.val (.long p0), .second, .val (.int qa), .val (.int qb), .val (.int qc), .val (.int qm), .val (.int w0), .val (.int w1), .val (.int w2), .val (.int t0), .val (.int t1), .val (.int t2), .unset, .unset, .unset, .unset, .unset, .unset, .unset, .unset, .unset, .unset, .unset, .unset] []))
  refine own_by (fun _ kz => XS.iload X0.here hx rfl (hb hby at_56) rfl kz) ?_
  show own_Go p.tables e below s _ _ _ (s₁.setTop (mkF m 58 #[.val (.long p0), .second, .val (.int qa), .val (.int qb), .val (.int qc), .val (.int qm), .val (.int w0), .val (.int w1), .val (.int w2), .val (.int t0), .val (.int t1), .val (.int t2), .unset, .unset, .unset, .unset, .unset, .unset, .unset, .unset, .unset, .unset, .unset, .unset] [(.int qm)]))
  refine own_by (fun _ kz => XS.iconst X0.here hx rfl (hb hby at_58) kz) ?_
  show own_Go p.tables e below s _ _ _ (s₁.setTop (mkF m 59 #[.val (.long p0), .second, .val (.int qa), .val (.int qb), .val (.int qc), .val (.int qm), .val (.int w0), .val (.int w1), .val (.int w2), .val (.int t0), .val (.int t1), .val (.int t2), .unset, .unset, .unset, .unset, .unset, .unset, .unset, .unset, .unset, .unset, .unset, .unset] [(.int (3 : Int32)), (.int qm)]))
  refine own_by (fun _ kz => XS.iand X0.here hx rfl (hb hby at_59) rfl kz) ?_
  show own_Go p.tables e below s _ _ _ (s₁.setTop (mkF m 60 #[.val (.long p0), .second, .val (.int qa), .val (.int qb), .val (.int qc), .val (.int qm), .val (.int w0), .val (.int w1), .val (.int w2), .val (.int t0), .val (.int t1), .val (.int t2), .unset, .unset, .unset, .unset, .unset, .unset, .unset, .unset, .unset, .unset, .unset, .unset] [(.int (qm &&& (3 : Int32)))]))
  obtain ⟨n, en, hn3⟩ := own_and3 qm
  rw [← en]
  show own_Go p.tables e below s _ _ _ (s₁.setTop (mkF m 60 #[.val (.long p0), .second, .val (.int qa), .val (.int qb), .val (.int qc), .val (.int qm), .val (.int w0), .val (.int w1), .val (.int w2), .val (.int t0), .val (.int t1), .val (.int t2), .unset, .unset, .unset, .unset, .unset, .unset, .unset, .unset, .unset, .unset, .unset, .unset] [(.int (own_i n))]))
  refine own_by (fun _ kz => XS.istore X0.here hx rfl (hb hby at_60) rfl (l' := #[.val (.long p0), .second, .val (.int qa), .val (.int qb), .val (.int qc), .val (.int qm), .val (.int w0), .val (.int w1), .val (.int w2), .val (.int t0), .val (.int t1), .val (.int t2), .val (.int (own_i n)), .unset, .unset, .unset, .unset, .unset, .unset, .unset, .unset, .unset, .unset, .unset]) rfl kz) ?_
  show own_Go p.tables e below s _ _ _ (s₁.setTop (mkF m 62 #[.val (.long p0), .second, .val (.int qa), .val (.int qb), .val (.int qc), .val (.int qm), .val (.int w0), .val (.int w1), .val (.int w2), .val (.int t0), .val (.int t1), .val (.int t2), .val (.int (own_i n)), .unset, .unset, .unset, .unset, .unset, .unset, .unset, .unset, .unset, .unset, .unset] []))
  have j81 : ∀ z13 : Int32, (z13 = 0 ∨ (¬ z13 = 0 ∧ 0 < n)) → own_Go p.tables e below s (Q0 p0 qa qb qc qm h0 n0) room_1.cells room_1.slots (s₁.setTop (mkF m 81 #[.val (.long p0), .second, .val (.int qa), .val (.int qb), .val (.int qc), .val (.int qm), .val (.int w0), .val (.int w1), .val (.int w2), .val (.int t0), .val (.int t1), .val (.int t2), .val (.int (own_i n)), .unset, .unset, .unset, .unset, .unset, .unset, .unset, .unset, .unset, .unset, .unset] [(.int z13)])) := by
    intro z13 hz13
    refine own_by (fun _ kz => XS.istore X0.here hx rfl (hb hby at_81) rfl (l' := #[.val (.long p0), .second, .val (.int qa), .val (.int qb), .val (.int qc), .val (.int qm), .val (.int w0), .val (.int w1), .val (.int w2), .val (.int t0), .val (.int t1), .val (.int t2), .val (.int (own_i n)), .val (.int z13), .unset, .unset, .unset, .unset, .unset, .unset, .unset, .unset, .unset, .unset]) rfl kz) ?_
    show own_Go p.tables e below s _ _ _ (s₁.setTop (mkF m 83 #[.val (.long p0), .second, .val (.int qa), .val (.int qb), .val (.int qc), .val (.int qm), .val (.int w0), .val (.int w1), .val (.int w2), .val (.int t0), .val (.int t1), .val (.int t2), .val (.int (own_i n)), .val (.int z13), .unset, .unset, .unset, .unset, .unset, .unset, .unset, .unset, .unset, .unset] []))
    obtain ⟨T1, h1, X1, e1, E1, A1, D1, -, st1⟩ := newO X0 hx hZ hown (hw _ (List.mem_of_getElem? (i := 0) rfl)) (hw _ (List.mem_of_getElem? (i := 1) rfl)) (hw _ (List.mem_of_getElem? (i := 2) rfl)) e0 (g := (mkF m 83 #[.val (.long p0), .second, .val (.int qa), .val (.int qb), .val (.int qc), .val (.int qm), .val (.int w0), .val (.int w1), .val (.int w2), .val (.int t0), .val (.int t1), .val (.int t2), .val (.int (own_i n)), .val (.int z13), .unset, .unset, .unset, .unset, .unset, .unset, .unset, .unset, .unset, .unset] [])) rfl (hb hby at_83) (by decide) (by decide)
    obtain ⟨b1, g1⟩ : ∃ z, z = h0.size := ⟨_, rfl⟩
    rw [← g1] at A1 D1 st1
    have ge_b1 : n0 ≤ b1 := Nat.le_trans Z0 (Nat.le_of_eq g1.symm)
    have Z1 : n0 ≤ h1.size := Nat.le_trans Z0 E1.1
    have F1_taken : Fld Z h1 b1 "com/example/proofhound/proofhound/symbolic/Progress" "taken" "[I" .null := D1 (Or.inl (hw _ (List.mem_of_getElem? (i := 11) rfl))) (ty := (.array .int)) (by decide)
    have F1_ways : Fld Z h1 b1 "com/example/proofhound/proofhound/symbolic/Progress" "ways" "[I" .null := D1 (Or.inl (hw _ (List.mem_of_getElem? (i := 13) rfl))) (ty := (.array .int)) (by decide)
    have F1_depth : Fld Z h1 b1 "com/example/proofhound/proofhound/symbolic/Progress" "depth" "I" (.int (0 : Int32)) := D1 (Or.inl (hw _ (List.mem_of_getElem? (i := 20) rfl))) (ty := .int) (by decide)
    refine own_by st1 ?_
    show own_Go p.tables e below s _ _ _ (T1.setTop (mkF m 86 #[.val (.long p0), .second, .val (.int qa), .val (.int qb), .val (.int qc), .val (.int qm), .val (.int w0), .val (.int w1), .val (.int w2), .val (.int t0), .val (.int t1), .val (.int t2), .val (.int (own_i n)), .val (.int z13), .unset, .unset, .unset, .unset, .unset, .unset, .unset, .unset, .unset, .unset] [(.ref b1)]))
    refine own_by (fun _ kz => XS.dup X1.here hx rfl (hb hby at_86) rfl rfl kz) ?_
    show own_Go p.tables e below s _ _ _ (T1.setTop (mkF m 87 #[.val (.long p0), .second, .val (.int qa), .val (.int qb), .val (.int qc), .val (.int qm), .val (.int w0), .val (.int w1), .val (.int w2), .val (.int t0), .val (.int t1), .val (.int t2), .val (.int (own_i n)), .val (.int z13), .unset, .unset, .unset, .unset, .unset, .unset, .unset, .unset, .unset, .unset] [(.ref b1), (.ref b1)]))
    obtain ⟨v2, T2, L2, X2, q2, st2⟩ := own_callI X1 hx hZ rfl hown (hw _ (List.mem_of_getElem? (i := 3) rfl)) (hw _ (List.mem_of_getElem? (i := 4) rfl)) (hw _ (List.mem_of_getElem? (i := 2) rfl)) (hw _ (List.mem_of_getElem? (i := 5) rfl)) (by decide) (rm1 l Z a0 hw [] b1 h1 n0 Z1 A1 F1_taken F1_ways F1_depth ge_b1) (W := 1) (by decide) (by decide) e1 (g := (mkF m 87 #[.val (.long p0), .second, .val (.int qa), .val (.int qb), .val (.int qc), .val (.int qm), .val (.int w0), .val (.int w1), .val (.int w2), .val (.int t0), .val (.int t1), .val (.int t2), .val (.int (own_i n)), .val (.int z13), .unset, .unset, .unset, .unset, .unset, .unset, .unset, .unset, .unset, .unset] [(.ref b1), (.ref b1)])) rfl (by rw [hml]; rfl) (a := b1) (argsL := []) (rest := [(.ref b1)]) (lenOf pd_1 rfl) rfl rfl (by show 2 * 0 + _ ≤ _; exact Nat.le_of_eq rfl) (hb hby at_87) (by decide) (by decide)
    obtain ⟨ta, wa, rfl, Nq2, Zq2, PB2⟩ := q2
    have N2 := Fr.app N0 Nq2
    refine own_by st2 ?_
    show own_Go p.tables e below s _ _ _ (T2.setTop (mkF m 90 #[.val (.long p0), .second, .val (.int qa), .val (.int qb), .val (.int qc), .val (.int qm), .val (.int w0), .val (.int w1), .val (.int w2), .val (.int t0), .val (.int t1), .val (.int t2), .val (.int (own_i n)), .val (.int z13), .unset, .unset, .unset, .unset, .unset, .unset, .unset, .unset, .unset, .unset] [(.ref b1)]))
    have L0 : own_L Z n0 b1 ta wa T2.heap 0 (own_T3 t0 t1 t2) (own_T3 w0 w1 w2) := ⟨_, _, PB2, fun j hj => absurd hj (Nat.not_lt_zero _)⟩
    refine own_by (fun _ kz => XS.astore X2.here hx rfl (hb hby at_90) rfl rfl (l' := #[.val (.long p0), .second, .val (.int qa), .val (.int qb), .val (.int qc), .val (.int qm), .val (.int w0), .val (.int w1), .val (.int w2), .val (.int t0), .val (.int t1), .val (.int t2), .val (.int (own_i n)), .val (.int z13), .val (.ref b1), .unset, .unset, .unset, .unset, .unset, .unset, .unset, .unset, .unset]) rfl kz) ?_
    show own_Go p.tables e below s _ _ _ (T2.setTop (mkF m 92 #[.val (.long p0), .second, .val (.int qa), .val (.int qb), .val (.int qc), .val (.int qm), .val (.int w0), .val (.int w1), .val (.int w2), .val (.int t0), .val (.int t1), .val (.int t2), .val (.int (own_i n)), .val (.int z13), .val (.ref b1), .unset, .unset, .unset, .unset, .unset, .unset, .unset, .unset, .unset] []))
    have s107 : ∀ (T_s107 : State) (Lc_s107 : List Loc), Stand p l e room_1 s m #[(.long p0), (.int qa), (.int qb), (.int qc), (.int qm)] below meth c T_s107 Lc_s107 3 35 → Fr n0 Lc_s107 → n0 ≤ T_s107.heap.size → own_L Z n0 b1 ta wa T_s107.heap (min n 1) (own_T3 t0 t1 t2) (own_T3 w0 w1 w2) → own_Go p.tables e below s (Q0 p0 qa qb qc qm h0 n0) room_1.cells room_1.slots (T_s107.setTop (mkF m 107 #[.val (.long p0), .second, .val (.int qa), .val (.int qb), .val (.int qc), .val (.int qm), .val (.int w0), .val (.int w1), .val (.int w2), .val (.int t0), .val (.int t1), .val (.int t2), .val (.int (own_i n)), .val (.int z13), .val (.ref b1), .unset, .unset, .unset, .unset, .unset, .unset, .unset, .unset, .unset] [])) := by
      intro T_s107 Lc_s107 X_s107 N_s107 Z_s107 L_s107
      have s122 : ∀ (T_s122 : State) (Lc_s122 : List Loc), Stand p l e room_1 s m #[(.long p0), (.int qa), (.int qb), (.int qc), (.int qm)] below meth c T_s122 Lc_s122 3 35 → Fr n0 Lc_s122 → n0 ≤ T_s122.heap.size → own_L Z n0 b1 ta wa T_s122.heap (min n 2) (own_T3 t0 t1 t2) (own_T3 w0 w1 w2) → own_Go p.tables e below s (Q0 p0 qa qb qc qm h0 n0) room_1.cells room_1.slots (T_s122.setTop (mkF m 122 #[.val (.long p0), .second, .val (.int qa), .val (.int qb), .val (.int qc), .val (.int qm), .val (.int w0), .val (.int w1), .val (.int w2), .val (.int t0), .val (.int t1), .val (.int t2), .val (.int (own_i n)), .val (.int z13), .val (.ref b1), .unset, .unset, .unset, .unset, .unset, .unset, .unset, .unset, .unset] [])) := by
        intro T_s122 Lc_s122 X_s122 N_s122 Z_s122 L_s122
        have s137 : ∀ (T_s137 : State) (Lc_s137 : List Loc), Stand p l e room_1 s m #[(.long p0), (.int qa), (.int qb), (.int qc), (.int qm)] below meth c T_s137 Lc_s137 3 35 → Fr n0 Lc_s137 → n0 ≤ T_s137.heap.size → own_L Z n0 b1 ta wa T_s137.heap n (own_T3 t0 t1 t2) (own_T3 w0 w1 w2) → own_Go p.tables e below s (Q0 p0 qa qb qc qm h0 n0) room_1.cells room_1.slots (T_s137.setTop (mkF m 137 #[.val (.long p0), .second, .val (.int qa), .val (.int qb), .val (.int qc), .val (.int qm), .val (.int w0), .val (.int w1), .val (.int w2), .val (.int t0), .val (.int t1), .val (.int t2), .val (.int (own_i n)), .val (.int z13), .val (.ref b1), .unset, .unset, .unset, .unset, .unset, .unset, .unset, .unset, .unset] [])) := by
          intro T_s137 Lc_s137 X_s137 N_s137 Z_s137 L_s137
          have s147 : ∀ (T_s147 : State) (Lc_s147 : List Loc), Stand p l e room_1 s m #[(.long p0), (.int qa), (.int qb), (.int qc), (.int qm)] below meth c T_s147 Lc_s147 3 35 → Fr n0 Lc_s147 → n0 ≤ T_s147.heap.size → own_L Z n0 b1 ta wa T_s147.heap (if z13 = 0 then n else n - 1) (own_T3 t0 t1 t2) (own_T3 w0 w1 w2) → own_Go p.tables e below s (Q0 p0 qa qb qc qm h0 n0) room_1.cells room_1.slots (T_s147.setTop (mkF m 147 #[.val (.long p0), .second, .val (.int qa), .val (.int qb), .val (.int qc), .val (.int qm), .val (.int w0), .val (.int w1), .val (.int w2), .val (.int t0), .val (.int t1), .val (.int t2), .val (.int (own_i n)), .val (.int z13), .val (.ref b1), .unset, .unset, .unset, .unset, .unset, .unset, .unset, .unset, .unset] [])) := by
            intro T_s147 Lc_s147 X_s147 N_s147 Z_s147 L_s147
            have j163 : ∀ z15 : Int32, z15 = own_i (if z13 = 0 then n else n - 1) → own_Go p.tables e below s (Q0 p0 qa qb qc qm h0 n0) room_1.cells room_1.slots (T_s147.setTop (mkF m 163 #[.val (.long p0), .second, .val (.int qa), .val (.int qb), .val (.int qc), .val (.int qm), .val (.int w0), .val (.int w1), .val (.int w2), .val (.int t0), .val (.int t1), .val (.int t2), .val (.int (own_i n)), .val (.int z13), .val (.ref b1), .val (.int z15), .unset, .unset, .unset, .unset, .unset, .unset, .unset, .unset] [])) := by
              intro z15 hz15
              subst hz15
              obtain ⟨dd, edd⟩ : ∃ dd : Nat, dd = (if z13 = 0 then n else n - 1) := ⟨_, rfl⟩
              have hd3 : dd ≤ 3 := by rw [edd]; split <;> omega
              have Ldd := L_s147
              rw [← edd] at Ldd ⊢
              show own_Go p.tables e below s _ _ _ (T_s147.setTop (mkF m 163 #[.val (.long p0), .second, .val (.int qa), .val (.int qb), .val (.int qc), .val (.int qm), .val (.int w0), .val (.int w1), .val (.int w2), .val (.int t0), .val (.int t1), .val (.int t2), .val (.int (own_i n)), .val (.int z13), .val (.ref b1), .val (.int (own_i dd)), .unset, .unset, .unset, .unset, .unset, .unset, .unset, .unset] []))
              have G := own_G3 ht0 ht1 ht2 hw0 hw1 hw2
              have j261 : ∀ num den : Int64, num.toInt = ((own_nm (own_T3 t0 t1 t2) (own_T3 w0 w1 w2) dd) : Int) → den.toInt = 2 ^ (own_ex (own_T3 w0 w1 w2) dd) → own_Go p.tables e below s (Q0 p0 qa qb qc qm h0 n0) room_1.cells room_1.slots (T_s147.setTop (mkF m 261 #[.val (.long p0), .second, .val (.int qa), .val (.int qb), .val (.int qc), .val (.int qm), .val (.int w0), .val (.int w1), .val (.int w2), .val (.int t0), .val (.int t1), .val (.int t2), .val (.int (own_i n)), .val (.int z13), .val (.ref b1), .val (.int (own_i dd)), .val (.long num), .second, .val (.long den), .second, .unset, .unset, .unset, .unset] [])) := by
                intro num den hnum hden
                refine own_by (fun _ kz => XS.aload X_s147.here hx rfl (hb hby at_261) rfl rfl kz) ?_
                show own_Go p.tables e below s _ _ _ (T_s147.setTop (mkF m 263 #[.val (.long p0), .second, .val (.int qa), .val (.int qb), .val (.int qc), .val (.int qm), .val (.int w0), .val (.int w1), .val (.int w2), .val (.int t0), .val (.int t1), .val (.int t2), .val (.int (own_i n)), .val (.int z13), .val (.ref b1), .val (.int (own_i dd)), .val (.long num), .second, .val (.long den), .second, .unset, .unset, .unset, .unset] [(.ref b1)]))
                refine own_by (fun _ kz => XS.lloadN X_s147.here hx rfl (hb hby at_263) rfl kz) ?_
                show own_Go p.tables e below s _ _ _ (T_s147.setTop (mkF m 264 #[.val (.long p0), .second, .val (.int qa), .val (.int qb), .val (.int qc), .val (.int qm), .val (.int w0), .val (.int w1), .val (.int w2), .val (.int t0), .val (.int t1), .val (.int t2), .val (.int (own_i n)), .val (.int z13), .val (.ref b1), .val (.int (own_i dd)), .val (.long num), .second, .val (.long den), .second, .unset, .unset, .unset, .unset] [(.long p0), (.ref b1)]))
                obtain ⟨tsx, usx, PBx, Hx⟩ := Ldd
                obtain ⟨v3, T3, L3, X3, q3, st3⟩ := own_callV X_s147 hx hZ hown (hw _ (List.mem_of_getElem? (i := 21) rfl)) (hw _ (List.mem_of_getElem? (i := 22) rfl)) (hw _ (List.mem_of_getElem? (i := 24) rfl)) (hw _ (List.mem_of_getElem? (i := 23) rfl)) (hw _ (List.mem_of_getElem? (i := 2) rfl)) (hw _ (List.mem_of_getElem? (i := 25) rfl)) (by decide) (rm4 l Z a0 hw [] b1 p0 T_s147.heap n0 Z_s147 ta wa dd tsx usx PBx (own_T3 t0 t1 t2) (own_T3 w0 w1 w2) G Hx hd3) (W := 0) (by decide) (by decide) rfl PBx.exa (g := (mkF m 264 #[.val (.long p0), .second, .val (.int qa), .val (.int qb), .val (.int qc), .val (.int qm), .val (.int w0), .val (.int w1), .val (.int w2), .val (.int t0), .val (.int t1), .val (.int t2), .val (.int (own_i n)), .val (.int z13), .val (.ref b1), .val (.int (own_i dd)), .val (.long num), .second, .val (.long den), .second, .unset, .unset, .unset, .unset] [(.long p0), (.ref b1)])) rfl (by rw [hml]; rfl) (argsL := [(.long p0)]) (rest := []) (lenOf pd_4 rfl) rfl rfl (by show 2 * 0 + _ ≤ _; exact Nat.le_of_eq rfl) (hb hby at_264) (by decide) (by decide)
                obtain ⟨g, rfl, Nq3, hh3, EW⟩ := q3
                have N3 := Fr.app N_s147 Nq3
                refine own_by st3 ?_
                show own_Go p.tables e below s _ _ _ (T3.setTop (mkF m 267 #[.val (.long p0), .second, .val (.int qa), .val (.int qb), .val (.int qc), .val (.int qm), .val (.int w0), .val (.int w1), .val (.int w2), .val (.int t0), .val (.int t1), .val (.int t2), .val (.int (own_i n)), .val (.int z13), .val (.ref b1), .val (.int (own_i dd)), .val (.long num), .second, .val (.long den), .second, .unset, .unset, .unset, .unset] [(.double g)]))
                have z0 : (0 : Int64).toInt = 0 := by decide
                refine own_by (fun _ kz => XS.dstore X3.here hx rfl (hb hby at_267) rfl (l' := #[.val (.long p0), .second, .val (.int qa), .val (.int qb), .val (.int qc), .val (.int qm), .val (.int w0), .val (.int w1), .val (.int w2), .val (.int t0), .val (.int t1), .val (.int t2), .val (.int (own_i n)), .val (.int z13), .val (.ref b1), .val (.int (own_i dd)), .val (.long num), .second, .val (.long den), .second, .val (.double g), .second, .unset, .unset]) rfl kz) ?_
                show own_Go p.tables e below s _ _ _ (T3.setTop (mkF m 269 #[.val (.long p0), .second, .val (.int qa), .val (.int qb), .val (.int qc), .val (.int qm), .val (.int w0), .val (.int w1), .val (.int w2), .val (.int t0), .val (.int t1), .val (.int t2), .val (.int (own_i n)), .val (.int z13), .val (.ref b1), .val (.int (own_i dd)), .val (.long num), .second, .val (.long den), .second, .val (.double g), .second, .unset, .unset] []))
                refine own_by (fun _ kz => XS.lload X3.here hx rfl (hb hby at_269) rfl kz) ?_
                show own_Go p.tables e below s _ _ _ (T3.setTop (mkF m 271 #[.val (.long p0), .second, .val (.int qa), .val (.int qb), .val (.int qc), .val (.int qm), .val (.int w0), .val (.int w1), .val (.int w2), .val (.int t0), .val (.int t1), .val (.int t2), .val (.int (own_i n)), .val (.int z13), .val (.ref b1), .val (.int (own_i dd)), .val (.long num), .second, .val (.long den), .second, .val (.double g), .second, .unset, .unset] [(.long num)]))
                refine own_by (fun _ kz => XS.lconst X3.here hx rfl (hb hby at_271) kz) ?_
                show own_Go p.tables e below s _ _ _ (T3.setTop (mkF m 272 #[.val (.long p0), .second, .val (.int qa), .val (.int qb), .val (.int qc), .val (.int qm), .val (.int w0), .val (.int w1), .val (.int w2), .val (.int t0), .val (.int t1), .val (.int t2), .val (.int (own_i n)), .val (.int z13), .val (.ref b1), .val (.int (own_i dd)), .val (.long num), .second, .val (.long den), .second, .val (.double g), .second, .unset, .unset] [(.long (0 : Int64)), (.long num)]))
                refine own_by (fun _ kz => XS.lcmp X3.here hx rfl (hb hby at_272) rfl kz) ?_
                show own_Go p.tables e below s _ _ _ (T3.setTop (mkF m 273 #[.val (.long p0), .second, .val (.int qa), .val (.int qb), .val (.int qc), .val (.int qm), .val (.int w0), .val (.int w1), .val (.int w2), .val (.int t0), .val (.int t1), .val (.int t2), .val (.int (own_i n)), .val (.int z13), .val (.ref b1), .val (.int (own_i dd)), .val (.long num), .second, .val (.long den), .second, .val (.double g), .second, .unset, .unset] [(.int (lcmpW num (0 : Int64)))]))
                by_cases hc273_4 : (lcmpW num (0 : Int64)) = (0 : Int32)
                · refine own_by (fun _ kz => XS.ifNo X3.here hx rfl (hb hby at_273) rfl ((if0 _ _).trans (teq hc273_4).2) kz) ?_
                  show own_Go p.tables e below s _ _ _ (T3.setTop (mkF m 276 #[.val (.long p0), .second, .val (.int qa), .val (.int qb), .val (.int qc), .val (.int qm), .val (.int w0), .val (.int w1), .val (.int w2), .val (.int t0), .val (.int t1), .val (.int t2), .val (.int (own_i n)), .val (.int z13), .val (.ref b1), .val (.int (own_i dd)), .val (.long num), .second, .val (.long den), .second, .val (.double g), .second, .unset, .unset] []))
                  have hg : g = (9218868437227405312 : UInt64) := by
                    have q : num = 0 := (lw_eq _ _).mp hc273_4
                    rw [q, z0] at hnum
                    rcases EW with ⟨_, u⟩ | ⟨u, _⟩
                    · exact u
                    · exact absurd (by omega) u
                  subst hg
                  show own_Go p.tables e below s _ _ _ (T3.setTop (mkF m 276 #[.val (.long p0), .second, .val (.int qa), .val (.int qb), .val (.int qc), .val (.int qm), .val (.int w0), .val (.int w1), .val (.int w2), .val (.int t0), .val (.int t1), .val (.int t2), .val (.int (own_i n)), .val (.int z13), .val (.ref b1), .val (.int (own_i dd)), .val (.long num), .second, .val (.long den), .second, .val (.double (9218868437227405312 : UInt64)), .second, .unset, .unset] []))
                  refine own_by (fun _ kz => XS.dload X3.here hx rfl (hb hby at_276) rfl kz) ?_
                  show own_Go p.tables e below s _ _ _ (T3.setTop (mkF m 278 #[.val (.long p0), .second, .val (.int qa), .val (.int qb), .val (.int qc), .val (.int qm), .val (.int w0), .val (.int w1), .val (.int w2), .val (.int t0), .val (.int t1), .val (.int t2), .val (.int (own_i n)), .val (.int z13), .val (.ref b1), .val (.int (own_i dd)), .val (.long num), .second, .val (.long den), .second, .val (.double (9218868437227405312 : UInt64)), .second, .unset, .unset] [(.double (9218868437227405312 : UInt64))]))
                  refine own_by (fun _ kz => X3.ldc2DoubleC hx hown (mvT hZ (hw _ (List.mem_of_getElem? (i := 27) rfl))) (g := (mkF m 278 #[.val (.long p0), .second, .val (.int qa), .val (.int qb), .val (.int qc), .val (.int qm), .val (.int w0), .val (.int w1), .val (.int w2), .val (.int t0), .val (.int t1), .val (.int t2), .val (.int (own_i n)), .val (.int z13), .val (.ref b1), .val (.int (own_i dd)), .val (.long num), .second, .val (.long den), .second, .val (.double (9218868437227405312 : UInt64)), .second, .unset, .unset] [(.double (9218868437227405312 : UInt64))])) rfl (hb hby at_278) _ kz) ?_
                  show own_Go p.tables e below s _ _ _ (T3.setTop (mkF m 281 #[.val (.long p0), .second, .val (.int qa), .val (.int qb), .val (.int qc), .val (.int qm), .val (.int w0), .val (.int w1), .val (.int w2), .val (.int t0), .val (.int t1), .val (.int t2), .val (.int (own_i n)), .val (.int z13), .val (.ref b1), .val (.int (own_i dd)), .val (.long num), .second, .val (.long den), .second, .val (.double (9218868437227405312 : UInt64)), .second, .unset, .unset] [(.double (9218868437227405312 : UInt64)), (.double (9218868437227405312 : UInt64))]))
                  refine own_by (fun _ kz => XS.dcmpS X3.here hx rfl (hb hby at_281) rfl own_inf kz) ?_
                  show own_Go p.tables e below s _ _ _ (T3.setTop (mkF m 282 #[.val (.long p0), .second, .val (.int qa), .val (.int qb), .val (.int qc), .val (.int qm), .val (.int w0), .val (.int w1), .val (.int w2), .val (.int t0), .val (.int t1), .val (.int t2), .val (.int (own_i n)), .val (.int z13), .val (.ref b1), .val (.int (own_i dd)), .val (.long num), .second, .val (.long den), .second, .val (.double (9218868437227405312 : UInt64)), .second, .unset, .unset] [(.int (0 : Int32))]))
                  refine own_by (fun _ kz => XS.ifNo X3.here hx rfl (hb hby at_282) rfl ((if0 _ _).trans (teq (by decide : ((0 : Int32) = (0 : Int32)))).2) kz) ?_
                  show own_Go p.tables e below s _ _ _ (T3.setTop (mkF m 285 #[.val (.long p0), .second, .val (.int qa), .val (.int qb), .val (.int qc), .val (.int qm), .val (.int w0), .val (.int w1), .val (.int w2), .val (.int t0), .val (.int t1), .val (.int t2), .val (.int (own_i n)), .val (.int z13), .val (.ref b1), .val (.int (own_i dd)), .val (.long num), .second, .val (.long den), .second, .val (.double (9218868437227405312 : UInt64)), .second, .unset, .unset] []))
                  refine own_by (fun _ kz => XS.iconst X3.here hx rfl (hb hby at_285) kz) ?_
                  show own_Go p.tables e below s _ _ _ (T3.setTop (mkF m 286 #[.val (.long p0), .second, .val (.int qa), .val (.int qb), .val (.int qc), .val (.int qm), .val (.int w0), .val (.int w1), .val (.int w2), .val (.int t0), .val (.int t1), .val (.int t2), .val (.int (own_i n)), .val (.int z13), .val (.ref b1), .val (.int (own_i dd)), .val (.long num), .second, .val (.long den), .second, .val (.double (9218868437227405312 : UInt64)), .second, .unset, .unset] [(.int (1 : Int32))]))
                  refine own_by (fun _ kz => XS.goto X3.here hx rfl (pc0 := 286) (pc' := 290) rfl (hb hby at_286) (by decide) (by decide) kz) ?_
                  show own_Go p.tables e below s _ _ _ (T3.setTop (mkF m 290 #[.val (.long p0), .second, .val (.int qa), .val (.int qb), .val (.int qc), .val (.int qm), .val (.int w0), .val (.int w1), .val (.int w2), .val (.int t0), .val (.int t1), .val (.int t2), .val (.int (own_i n)), .val (.int z13), .val (.ref b1), .val (.int (own_i dd)), .val (.long num), .second, .val (.long den), .second, .val (.double (9218868437227405312 : UInt64)), .second, .unset, .unset] [(.int (1 : Int32))]))
                  exact own_retZ X3 hx hlk Bd.returns (hb hby at_290) (by decide) (by decide) ⟨rfl, N3⟩
                · refine own_by (fun _ kz => XS.ifYes X3.here hx rfl (pc0 := 273) (pc' := 291) rfl (hb hby at_273) rfl ((if0 _ _).trans (feq hc273_4).2) (by decide) (by decide) kz) ?_
                  show own_Go p.tables e below s _ _ _ (T3.setTop (mkF m 291 #[.val (.long p0), .second, .val (.int qa), .val (.int qb), .val (.int qc), .val (.int qm), .val (.int w0), .val (.int w1), .val (.int w2), .val (.int t0), .val (.int t1), .val (.int t2), .val (.int (own_i n)), .val (.int z13), .val (.ref b1), .val (.int (own_i dd)), .val (.long num), .second, .val (.long den), .second, .val (.double g), .second, .unset, .unset] []))
                  have hnz : (own_nm (own_T3 t0 t1 t2) (own_T3 w0 w1 w2) dd) ≠ 0 := fun u => hc273_4 ((lw_eq _ _).mpr (Int64.toInt_inj.mp (by rw [hnum, u]; rfl)))
                  obtain ⟨cov, hcov, rfl⟩ : ∃ cov, own_Dy cov (own_nm (own_T3 t0 t1 t2) (own_T3 w0 w1 w2) dd) (-((own_ex (own_T3 w0 w1 w2) dd) : Int)) ∧ g = FP.ddiv (FP.l2d p0) cov := EW.elim (fun u => absurd u.1 hnz) (fun u => u.2)
                  have hE := own_ex_le G dd
                  have SM := own_same p0 hnz (by omega) hcov (own_den_dy (by omega) hden) (own_num_dy (own_pow_bound (by omega) (own_nm_lt G dd)) hnum)
                  show own_Go p.tables e below s _ _ _ (T3.setTop (mkF m 291 #[.val (.long p0), .second, .val (.int qa), .val (.int qb), .val (.int qc), .val (.int qm), .val (.int w0), .val (.int w1), .val (.int w2), .val (.int t0), .val (.int t1), .val (.int t2), .val (.int (own_i n)), .val (.int z13), .val (.ref b1), .val (.int (own_i dd)), .val (.long num), .second, .val (.long den), .second, .val (.double (FP.ddiv (FP.l2d p0) cov)), .second, .unset, .unset] []))
                  refine own_by (fun _ kz => XS.lloadN X3.here hx rfl (hb hby at_291) rfl kz) ?_
                  show own_Go p.tables e below s _ _ _ (T3.setTop (mkF m 292 #[.val (.long p0), .second, .val (.int qa), .val (.int qb), .val (.int qc), .val (.int qm), .val (.int w0), .val (.int w1), .val (.int w2), .val (.int t0), .val (.int t1), .val (.int t2), .val (.int (own_i n)), .val (.int z13), .val (.ref b1), .val (.int (own_i dd)), .val (.long num), .second, .val (.long den), .second, .val (.double (FP.ddiv (FP.l2d p0) cov)), .second, .unset, .unset] [(.long p0)]))
                  refine own_by (fun _ kz => XS.l2dS X3.here hx rfl (hb hby at_292) rfl rfl kz) ?_
                  show own_Go p.tables e below s _ _ _ (T3.setTop (mkF m 293 #[.val (.long p0), .second, .val (.int qa), .val (.int qb), .val (.int qc), .val (.int qm), .val (.int w0), .val (.int w1), .val (.int w2), .val (.int t0), .val (.int t1), .val (.int t2), .val (.int (own_i n)), .val (.int z13), .val (.ref b1), .val (.int (own_i dd)), .val (.long num), .second, .val (.long den), .second, .val (.double (FP.ddiv (FP.l2d p0) cov)), .second, .unset, .unset] [(.double (FP.l2d p0))]))
                  refine own_by (fun _ kz => XS.lload X3.here hx rfl (hb hby at_293) rfl kz) ?_
                  show own_Go p.tables e below s _ _ _ (T3.setTop (mkF m 295 #[.val (.long p0), .second, .val (.int qa), .val (.int qb), .val (.int qc), .val (.int qm), .val (.int w0), .val (.int w1), .val (.int w2), .val (.int t0), .val (.int t1), .val (.int t2), .val (.int (own_i n)), .val (.int z13), .val (.ref b1), .val (.int (own_i dd)), .val (.long num), .second, .val (.long den), .second, .val (.double (FP.ddiv (FP.l2d p0) cov)), .second, .unset, .unset] [(.long den), (.double (FP.l2d p0))]))
                  refine own_by (fun _ kz => XS.l2dS X3.here hx rfl (hb hby at_295) rfl rfl kz) ?_
                  show own_Go p.tables e below s _ _ _ (T3.setTop (mkF m 296 #[.val (.long p0), .second, .val (.int qa), .val (.int qb), .val (.int qc), .val (.int qm), .val (.int w0), .val (.int w1), .val (.int w2), .val (.int t0), .val (.int t1), .val (.int t2), .val (.int (own_i n)), .val (.int z13), .val (.ref b1), .val (.int (own_i dd)), .val (.long num), .second, .val (.long den), .second, .val (.double (FP.ddiv (FP.l2d p0) cov)), .second, .unset, .unset] [(.double (FP.l2d den)), (.double (FP.l2d p0))]))
                  refine own_by (fun _ kz => XS.dmulS X3.here hx rfl (hb hby at_296) rfl SM.2.2.1 rfl kz) ?_
                  show own_Go p.tables e below s _ _ _ (T3.setTop (mkF m 297 #[.val (.long p0), .second, .val (.int qa), .val (.int qb), .val (.int qc), .val (.int qm), .val (.int w0), .val (.int w1), .val (.int w2), .val (.int t0), .val (.int t1), .val (.int t2), .val (.int (own_i n)), .val (.int z13), .val (.ref b1), .val (.int (own_i dd)), .val (.long num), .second, .val (.long den), .second, .val (.double (FP.ddiv (FP.l2d p0) cov)), .second, .unset, .unset] [(.double (FP.dmul (FP.l2d p0) (FP.l2d den)))]))
                  refine own_by (fun _ kz => XS.lload X3.here hx rfl (hb hby at_297) rfl kz) ?_
                  show own_Go p.tables e below s _ _ _ (T3.setTop (mkF m 299 #[.val (.long p0), .second, .val (.int qa), .val (.int qb), .val (.int qc), .val (.int qm), .val (.int w0), .val (.int w1), .val (.int w2), .val (.int t0), .val (.int t1), .val (.int t2), .val (.int (own_i n)), .val (.int z13), .val (.ref b1), .val (.int (own_i dd)), .val (.long num), .second, .val (.long den), .second, .val (.double (FP.ddiv (FP.l2d p0) cov)), .second, .unset, .unset] [(.long num), (.double (FP.dmul (FP.l2d p0) (FP.l2d den)))]))
                  refine own_by (fun _ kz => XS.l2dS X3.here hx rfl (hb hby at_299) rfl rfl kz) ?_
                  show own_Go p.tables e below s _ _ _ (T3.setTop (mkF m 300 #[.val (.long p0), .second, .val (.int qa), .val (.int qb), .val (.int qc), .val (.int qm), .val (.int w0), .val (.int w1), .val (.int w2), .val (.int t0), .val (.int t1), .val (.int t2), .val (.int (own_i n)), .val (.int z13), .val (.ref b1), .val (.int (own_i dd)), .val (.long num), .second, .val (.long den), .second, .val (.double (FP.ddiv (FP.l2d p0) cov)), .second, .unset, .unset] [(.double (FP.l2d num)), (.double (FP.dmul (FP.l2d p0) (FP.l2d den)))]))
                  refine own_by (fun _ kz => XS.ddivS X3.here hx rfl (hb hby at_300) rfl SM.2.2.2 rfl kz) ?_
                  show own_Go p.tables e below s _ _ _ (T3.setTop (mkF m 301 #[.val (.long p0), .second, .val (.int qa), .val (.int qb), .val (.int qc), .val (.int qm), .val (.int w0), .val (.int w1), .val (.int w2), .val (.int t0), .val (.int t1), .val (.int t2), .val (.int (own_i n)), .val (.int z13), .val (.ref b1), .val (.int (own_i dd)), .val (.long num), .second, .val (.long den), .second, .val (.double (FP.ddiv (FP.l2d p0) cov)), .second, .unset, .unset] [(.double (FP.ddiv (FP.dmul (FP.l2d p0) (FP.l2d den)) (FP.l2d num)))]))
                  refine own_by (fun _ kz => XS.dstore X3.here hx rfl (hb hby at_301) rfl (l' := #[.val (.long p0), .second, .val (.int qa), .val (.int qb), .val (.int qc), .val (.int qm), .val (.int w0), .val (.int w1), .val (.int w2), .val (.int t0), .val (.int t1), .val (.int t2), .val (.int (own_i n)), .val (.int z13), .val (.ref b1), .val (.int (own_i dd)), .val (.long num), .second, .val (.long den), .second, .val (.double (FP.ddiv (FP.l2d p0) cov)), .second, .val (.double (FP.ddiv (FP.dmul (FP.l2d p0) (FP.l2d den)) (FP.l2d num))), .second]) rfl kz) ?_
                  show own_Go p.tables e below s _ _ _ (T3.setTop (mkF m 303 #[.val (.long p0), .second, .val (.int qa), .val (.int qb), .val (.int qc), .val (.int qm), .val (.int w0), .val (.int w1), .val (.int w2), .val (.int t0), .val (.int t1), .val (.int t2), .val (.int (own_i n)), .val (.int z13), .val (.ref b1), .val (.int (own_i dd)), .val (.long num), .second, .val (.long den), .second, .val (.double (FP.ddiv (FP.l2d p0) cov)), .second, .val (.double (FP.ddiv (FP.dmul (FP.l2d p0) (FP.l2d den)) (FP.l2d num))), .second] []))
                  refine own_by (fun _ kz => XS.dload X3.here hx rfl (hb hby at_303) rfl kz) ?_
                  show own_Go p.tables e below s _ _ _ (T3.setTop (mkF m 305 #[.val (.long p0), .second, .val (.int qa), .val (.int qb), .val (.int qc), .val (.int qm), .val (.int w0), .val (.int w1), .val (.int w2), .val (.int t0), .val (.int t1), .val (.int t2), .val (.int (own_i n)), .val (.int z13), .val (.ref b1), .val (.int (own_i dd)), .val (.long num), .second, .val (.long den), .second, .val (.double (FP.ddiv (FP.l2d p0) cov)), .second, .val (.double (FP.ddiv (FP.dmul (FP.l2d p0) (FP.l2d den)) (FP.l2d num))), .second] [(.double (FP.ddiv (FP.l2d p0) cov))]))
                  refine own_by (fun _ kz => XS.dload X3.here hx rfl (hb hby at_305) rfl kz) ?_
                  show own_Go p.tables e below s _ _ _ (T3.setTop (mkF m 307 #[.val (.long p0), .second, .val (.int qa), .val (.int qb), .val (.int qc), .val (.int qm), .val (.int w0), .val (.int w1), .val (.int w2), .val (.int t0), .val (.int t1), .val (.int t2), .val (.int (own_i n)), .val (.int z13), .val (.ref b1), .val (.int (own_i dd)), .val (.long num), .second, .val (.long den), .second, .val (.double (FP.ddiv (FP.l2d p0) cov)), .second, .val (.double (FP.ddiv (FP.dmul (FP.l2d p0) (FP.l2d den)) (FP.l2d num))), .second] [(.double (FP.ddiv (FP.dmul (FP.l2d p0) (FP.l2d den)) (FP.l2d num))), (.double (FP.ddiv (FP.l2d p0) cov))]))
                  refine own_by (fun _ kz => XS.dcmpS X3.here hx rfl (hb hby at_307) rfl (dcmpV_eq SM.1 SM.2.1 .l) kz) ?_
                  show own_Go p.tables e below s _ _ _ (T3.setTop (mkF m 308 #[.val (.long p0), .second, .val (.int qa), .val (.int qb), .val (.int qc), .val (.int qm), .val (.int w0), .val (.int w1), .val (.int w2), .val (.int t0), .val (.int t1), .val (.int t2), .val (.int (own_i n)), .val (.int z13), .val (.ref b1), .val (.int (own_i dd)), .val (.long num), .second, .val (.long den), .second, .val (.double (FP.ddiv (FP.l2d p0) cov)), .second, .val (.double (FP.ddiv (FP.dmul (FP.l2d p0) (FP.l2d den)) (FP.l2d num))), .second] [(.int (0 : Int32))]))
                  refine own_by (fun _ kz => XS.ifNo X3.here hx rfl (hb hby at_308) rfl ((if0 _ _).trans (teq (by decide : ((0 : Int32) = (0 : Int32)))).2) kz) ?_
                  show own_Go p.tables e below s _ _ _ (T3.setTop (mkF m 311 #[.val (.long p0), .second, .val (.int qa), .val (.int qb), .val (.int qc), .val (.int qm), .val (.int w0), .val (.int w1), .val (.int w2), .val (.int t0), .val (.int t1), .val (.int t2), .val (.int (own_i n)), .val (.int z13), .val (.ref b1), .val (.int (own_i dd)), .val (.long num), .second, .val (.long den), .second, .val (.double (FP.ddiv (FP.l2d p0) cov)), .second, .val (.double (FP.ddiv (FP.dmul (FP.l2d p0) (FP.l2d den)) (FP.l2d num))), .second] []))
                  refine own_by (fun _ kz => XS.iconst X3.here hx rfl (hb hby at_311) kz) ?_
                  show own_Go p.tables e below s _ _ _ (T3.setTop (mkF m 312 #[.val (.long p0), .second, .val (.int qa), .val (.int qb), .val (.int qc), .val (.int qm), .val (.int w0), .val (.int w1), .val (.int w2), .val (.int t0), .val (.int t1), .val (.int t2), .val (.int (own_i n)), .val (.int z13), .val (.ref b1), .val (.int (own_i dd)), .val (.long num), .second, .val (.long den), .second, .val (.double (FP.ddiv (FP.l2d p0) cov)), .second, .val (.double (FP.ddiv (FP.dmul (FP.l2d p0) (FP.l2d den)) (FP.l2d num))), .second] [(.int (1 : Int32))]))
                  refine own_by (fun _ kz => XS.goto X3.here hx rfl (pc0 := 312) (pc' := 316) rfl (hb hby at_312) (by decide) (by decide) kz) ?_
                  show own_Go p.tables e below s _ _ _ (T3.setTop (mkF m 316 #[.val (.long p0), .second, .val (.int qa), .val (.int qb), .val (.int qc), .val (.int qm), .val (.int w0), .val (.int w1), .val (.int w2), .val (.int t0), .val (.int t1), .val (.int t2), .val (.int (own_i n)), .val (.int z13), .val (.ref b1), .val (.int (own_i dd)), .val (.long num), .second, .val (.long den), .second, .val (.double (FP.ddiv (FP.l2d p0) cov)), .second, .val (.double (FP.ddiv (FP.dmul (FP.l2d p0) (FP.l2d den)) (FP.l2d num))), .second] [(.int (1 : Int32))]))
                  exact own_retZ X3 hx hlk Bd.returns (hb hby at_316) (by decide) (by decide) ⟨rfl, N3⟩
              refine own_by (fun _ kz => XS.iload X_s147.here hx rfl (hb hby at_163) rfl kz) ?_
              show own_Go p.tables e below s _ _ _ (T_s147.setTop (mkF m 165 #[.val (.long p0), .second, .val (.int qa), .val (.int qb), .val (.int qc), .val (.int qm), .val (.int w0), .val (.int w1), .val (.int w2), .val (.int t0), .val (.int t1), .val (.int t2), .val (.int (own_i n)), .val (.int z13), .val (.ref b1), .val (.int (own_i dd)), .unset, .unset, .unset, .unset, .unset, .unset, .unset, .unset] [(.int (own_i dd))]))
              by_cases hc165_5 : (own_i dd) = (0 : Int32)
              · refine own_by (fun _ kz => XS.ifNo X_s147.here hx rfl (hb hby at_165) rfl ((if0 _ _).trans (teq hc165_5).2) kz) ?_
                show own_Go p.tables e below s _ _ _ (T_s147.setTop (mkF m 168 #[.val (.long p0), .second, .val (.int qa), .val (.int qb), .val (.int qc), .val (.int qm), .val (.int w0), .val (.int w1), .val (.int w2), .val (.int t0), .val (.int t1), .val (.int t2), .val (.int (own_i n)), .val (.int z13), .val (.ref b1), .val (.int (own_i dd)), .unset, .unset, .unset, .unset, .unset, .unset, .unset, .unset] []))
                refine own_by (fun _ kz => XS.lconst X_s147.here hx rfl (hb hby at_168) kz) ?_
                show own_Go p.tables e below s _ _ _ (T_s147.setTop (mkF m 169 #[.val (.long p0), .second, .val (.int qa), .val (.int qb), .val (.int qc), .val (.int qm), .val (.int w0), .val (.int w1), .val (.int w2), .val (.int t0), .val (.int t1), .val (.int t2), .val (.int (own_i n)), .val (.int z13), .val (.ref b1), .val (.int (own_i dd)), .unset, .unset, .unset, .unset, .unset, .unset, .unset, .unset] [(.long (0 : Int64))]))
                refine own_by (fun _ kz => XS.lstore X_s147.here hx rfl (hb hby at_169) rfl (l' := #[.val (.long p0), .second, .val (.int qa), .val (.int qb), .val (.int qc), .val (.int qm), .val (.int w0), .val (.int w1), .val (.int w2), .val (.int t0), .val (.int t1), .val (.int t2), .val (.int (own_i n)), .val (.int z13), .val (.ref b1), .val (.int (own_i dd)), .val (.long (0 : Int64)), .second, .unset, .unset, .unset, .unset, .unset, .unset]) rfl kz) ?_
                show own_Go p.tables e below s _ _ _ (T_s147.setTop (mkF m 171 #[.val (.long p0), .second, .val (.int qa), .val (.int qb), .val (.int qc), .val (.int qm), .val (.int w0), .val (.int w1), .val (.int w2), .val (.int t0), .val (.int t1), .val (.int t2), .val (.int (own_i n)), .val (.int z13), .val (.ref b1), .val (.int (own_i dd)), .val (.long (0 : Int64)), .second, .unset, .unset, .unset, .unset, .unset, .unset] []))
                refine own_by (fun _ kz => XS.lconst X_s147.here hx rfl (hb hby at_171) kz) ?_
                show own_Go p.tables e below s _ _ _ (T_s147.setTop (mkF m 172 #[.val (.long p0), .second, .val (.int qa), .val (.int qb), .val (.int qc), .val (.int qm), .val (.int w0), .val (.int w1), .val (.int w2), .val (.int t0), .val (.int t1), .val (.int t2), .val (.int (own_i n)), .val (.int z13), .val (.ref b1), .val (.int (own_i dd)), .val (.long (0 : Int64)), .second, .unset, .unset, .unset, .unset, .unset, .unset] [(.long (1 : Int64))]))
                refine own_by (fun _ kz => XS.lstore X_s147.here hx rfl (hb hby at_172) rfl (l' := #[.val (.long p0), .second, .val (.int qa), .val (.int qb), .val (.int qc), .val (.int qm), .val (.int w0), .val (.int w1), .val (.int w2), .val (.int t0), .val (.int t1), .val (.int t2), .val (.int (own_i n)), .val (.int z13), .val (.ref b1), .val (.int (own_i dd)), .val (.long (0 : Int64)), .second, .val (.long (1 : Int64)), .second, .unset, .unset, .unset, .unset]) rfl kz) ?_
                show own_Go p.tables e below s _ _ _ (T_s147.setTop (mkF m 174 #[.val (.long p0), .second, .val (.int qa), .val (.int qb), .val (.int qc), .val (.int qm), .val (.int w0), .val (.int w1), .val (.int w2), .val (.int t0), .val (.int t1), .val (.int t2), .val (.int (own_i n)), .val (.int z13), .val (.ref b1), .val (.int (own_i dd)), .val (.long (0 : Int64)), .second, .val (.long (1 : Int64)), .second, .unset, .unset, .unset, .unset] []))
                refine own_by (fun _ kz => XS.goto X_s147.here hx rfl (pc0 := 174) (pc' := 261) rfl (hb hby at_174) (by decide) (by decide) kz) ?_
                show own_Go p.tables e below s _ _ _ (T_s147.setTop (mkF m 261 #[.val (.long p0), .second, .val (.int qa), .val (.int qb), .val (.int qc), .val (.int qm), .val (.int w0), .val (.int w1), .val (.int w2), .val (.int t0), .val (.int t1), .val (.int t2), .val (.int (own_i n)), .val (.int z13), .val (.ref b1), .val (.int (own_i dd)), .val (.long (0 : Int64)), .second, .val (.long (1 : Int64)), .second, .unset, .unset, .unset, .unset] []))
                have hdk : dd = 0 := (own_i_eq dd (by omega) 0 (by omega)).mp hc165_5
                exact j261 _ _ (by rw [hdk]; exact rfl) (by rw [hdk]; exact rfl)
              · refine own_by (fun _ kz => XS.ifYes X_s147.here hx rfl (pc0 := 165) (pc' := 177) rfl (hb hby at_165) rfl ((if0 _ _).trans (feq hc165_5).2) (by decide) (by decide) kz) ?_
                show own_Go p.tables e below s _ _ _ (T_s147.setTop (mkF m 177 #[.val (.long p0), .second, .val (.int qa), .val (.int qb), .val (.int qc), .val (.int qm), .val (.int w0), .val (.int w1), .val (.int w2), .val (.int t0), .val (.int t1), .val (.int t2), .val (.int (own_i n)), .val (.int z13), .val (.ref b1), .val (.int (own_i dd)), .unset, .unset, .unset, .unset, .unset, .unset, .unset, .unset] []))
                refine own_by (fun _ kz => XS.iload X_s147.here hx rfl (hb hby at_177) rfl kz) ?_
                show own_Go p.tables e below s _ _ _ (T_s147.setTop (mkF m 179 #[.val (.long p0), .second, .val (.int qa), .val (.int qb), .val (.int qc), .val (.int qm), .val (.int w0), .val (.int w1), .val (.int w2), .val (.int t0), .val (.int t1), .val (.int t2), .val (.int (own_i n)), .val (.int z13), .val (.ref b1), .val (.int (own_i dd)), .unset, .unset, .unset, .unset, .unset, .unset, .unset, .unset] [(.int (own_i dd))]))
                refine own_by (fun _ kz => XS.iconst X_s147.here hx rfl (hb hby at_179) kz) ?_
                show own_Go p.tables e below s _ _ _ (T_s147.setTop (mkF m 180 #[.val (.long p0), .second, .val (.int qa), .val (.int qb), .val (.int qc), .val (.int qm), .val (.int w0), .val (.int w1), .val (.int w2), .val (.int t0), .val (.int t1), .val (.int t2), .val (.int (own_i n)), .val (.int z13), .val (.ref b1), .val (.int (own_i dd)), .unset, .unset, .unset, .unset, .unset, .unset, .unset, .unset] [(.int (1 : Int32)), (.int (own_i dd))]))
                by_cases hc180_6 : (own_i dd) = (1 : Int32)
                · refine own_by (fun _ kz => XS.icmpNo X_s147.here hx rfl (hb hby at_180) rfl (teq hc180_6).2 kz) ?_
                  show own_Go p.tables e below s _ _ _ (T_s147.setTop (mkF m 183 #[.val (.long p0), .second, .val (.int qa), .val (.int qb), .val (.int qc), .val (.int qm), .val (.int w0), .val (.int w1), .val (.int w2), .val (.int t0), .val (.int t1), .val (.int t2), .val (.int (own_i n)), .val (.int z13), .val (.ref b1), .val (.int (own_i dd)), .unset, .unset, .unset, .unset, .unset, .unset, .unset, .unset] []))
                  refine own_by (fun _ kz => XS.iload X_s147.here hx rfl (hb hby at_183) rfl kz) ?_
                  show own_Go p.tables e below s _ _ _ (T_s147.setTop (mkF m 185 #[.val (.long p0), .second, .val (.int qa), .val (.int qb), .val (.int qc), .val (.int qm), .val (.int w0), .val (.int w1), .val (.int w2), .val (.int t0), .val (.int t1), .val (.int t2), .val (.int (own_i n)), .val (.int z13), .val (.ref b1), .val (.int (own_i dd)), .unset, .unset, .unset, .unset, .unset, .unset, .unset, .unset] [(.int t0)]))
                  refine own_by (fun _ kz => XS.i2l X_s147.here hx rfl (hb hby at_185) rfl kz) ?_
                  show own_Go p.tables e below s _ _ _ (T_s147.setTop (mkF m 186 #[.val (.long p0), .second, .val (.int qa), .val (.int qb), .val (.int qc), .val (.int qm), .val (.int w0), .val (.int w1), .val (.int w2), .val (.int t0), .val (.int t1), .val (.int t2), .val (.int (own_i n)), .val (.int z13), .val (.ref b1), .val (.int (own_i dd)), .unset, .unset, .unset, .unset, .unset, .unset, .unset, .unset] [(.long (t0.toInt64))]))
                  refine own_by (fun _ kz => XS.lstore X_s147.here hx rfl (hb hby at_186) rfl (l' := #[.val (.long p0), .second, .val (.int qa), .val (.int qb), .val (.int qc), .val (.int qm), .val (.int w0), .val (.int w1), .val (.int w2), .val (.int t0), .val (.int t1), .val (.int t2), .val (.int (own_i n)), .val (.int z13), .val (.ref b1), .val (.int (own_i dd)), .val (.long (t0.toInt64)), .second, .unset, .unset, .unset, .unset, .unset, .unset]) rfl kz) ?_
                  show own_Go p.tables e below s _ _ _ (T_s147.setTop (mkF m 188 #[.val (.long p0), .second, .val (.int qa), .val (.int qb), .val (.int qc), .val (.int qm), .val (.int w0), .val (.int w1), .val (.int w2), .val (.int t0), .val (.int t1), .val (.int t2), .val (.int (own_i n)), .val (.int z13), .val (.ref b1), .val (.int (own_i dd)), .val (.long (t0.toInt64)), .second, .unset, .unset, .unset, .unset, .unset, .unset] []))
                  refine own_by (fun _ kz => XS.iload X_s147.here hx rfl (hb hby at_188) rfl kz) ?_
                  show own_Go p.tables e below s _ _ _ (T_s147.setTop (mkF m 190 #[.val (.long p0), .second, .val (.int qa), .val (.int qb), .val (.int qc), .val (.int qm), .val (.int w0), .val (.int w1), .val (.int w2), .val (.int t0), .val (.int t1), .val (.int t2), .val (.int (own_i n)), .val (.int z13), .val (.ref b1), .val (.int (own_i dd)), .val (.long (t0.toInt64)), .second, .unset, .unset, .unset, .unset, .unset, .unset] [(.int w0)]))
                  refine own_by (fun _ kz => XS.i2l X_s147.here hx rfl (hb hby at_190) rfl kz) ?_
                  show own_Go p.tables e below s _ _ _ (T_s147.setTop (mkF m 191 #[.val (.long p0), .second, .val (.int qa), .val (.int qb), .val (.int qc), .val (.int qm), .val (.int w0), .val (.int w1), .val (.int w2), .val (.int t0), .val (.int t1), .val (.int t2), .val (.int (own_i n)), .val (.int z13), .val (.ref b1), .val (.int (own_i dd)), .val (.long (t0.toInt64)), .second, .unset, .unset, .unset, .unset, .unset, .unset] [(.long (w0.toInt64))]))
                  refine own_by (fun _ kz => XS.lstore X_s147.here hx rfl (hb hby at_191) rfl (l' := #[.val (.long p0), .second, .val (.int qa), .val (.int qb), .val (.int qc), .val (.int qm), .val (.int w0), .val (.int w1), .val (.int w2), .val (.int t0), .val (.int t1), .val (.int t2), .val (.int (own_i n)), .val (.int z13), .val (.ref b1), .val (.int (own_i dd)), .val (.long (t0.toInt64)), .second, .val (.long (w0.toInt64)), .second, .unset, .unset, .unset, .unset]) rfl kz) ?_
                  show own_Go p.tables e below s _ _ _ (T_s147.setTop (mkF m 193 #[.val (.long p0), .second, .val (.int qa), .val (.int qb), .val (.int qc), .val (.int qm), .val (.int w0), .val (.int w1), .val (.int w2), .val (.int t0), .val (.int t1), .val (.int t2), .val (.int (own_i n)), .val (.int z13), .val (.ref b1), .val (.int (own_i dd)), .val (.long (t0.toInt64)), .second, .val (.long (w0.toInt64)), .second, .unset, .unset, .unset, .unset] []))
                  refine own_by (fun _ kz => XS.goto X_s147.here hx rfl (pc0 := 193) (pc' := 261) rfl (hb hby at_193) (by decide) (by decide) kz) ?_
                  show own_Go p.tables e below s _ _ _ (T_s147.setTop (mkF m 261 #[.val (.long p0), .second, .val (.int qa), .val (.int qb), .val (.int qc), .val (.int qm), .val (.int w0), .val (.int w1), .val (.int w2), .val (.int t0), .val (.int t1), .val (.int t2), .val (.int (own_i n)), .val (.int z13), .val (.ref b1), .val (.int (own_i dd)), .val (.long (t0.toInt64)), .second, .val (.long (w0.toInt64)), .second, .unset, .unset, .unset, .unset] []))
                  have hdk : dd = 1 := (own_i_eq dd (by omega) 1 (by omega)).mp hc180_6
                  exact j261 _ _ (by rw [hdk]; exact (own_nd1 (t0 := t0) (t1 := t1) (t2 := t2) (w0 := w0) (w1 := w1) (w2 := w2) ht0 hw0).1) (by rw [hdk]; exact (own_nd1 (t0 := t0) (t1 := t1) (t2 := t2) (w0 := w0) (w1 := w1) (w2 := w2) ht0 hw0).2)
                · refine own_by (fun _ kz => XS.icmpYes X_s147.here hx rfl (pc0 := 180) (pc' := 196) rfl (hb hby at_180) rfl (feq hc180_6).2 (by decide) (by decide) kz) ?_
                  show own_Go p.tables e below s _ _ _ (T_s147.setTop (mkF m 196 #[.val (.long p0), .second, .val (.int qa), .val (.int qb), .val (.int qc), .val (.int qm), .val (.int w0), .val (.int w1), .val (.int w2), .val (.int t0), .val (.int t1), .val (.int t2), .val (.int (own_i n)), .val (.int z13), .val (.ref b1), .val (.int (own_i dd)), .unset, .unset, .unset, .unset, .unset, .unset, .unset, .unset] []))
                  refine own_by (fun _ kz => XS.iload X_s147.here hx rfl (hb hby at_196) rfl kz) ?_
                  show own_Go p.tables e below s _ _ _ (T_s147.setTop (mkF m 198 #[.val (.long p0), .second, .val (.int qa), .val (.int qb), .val (.int qc), .val (.int qm), .val (.int w0), .val (.int w1), .val (.int w2), .val (.int t0), .val (.int t1), .val (.int t2), .val (.int (own_i n)), .val (.int z13), .val (.ref b1), .val (.int (own_i dd)), .unset, .unset, .unset, .unset, .unset, .unset, .unset, .unset] [(.int (own_i dd))]))
                  refine own_by (fun _ kz => XS.iconst X_s147.here hx rfl (hb hby at_198) kz) ?_
                  show own_Go p.tables e below s _ _ _ (T_s147.setTop (mkF m 199 #[.val (.long p0), .second, .val (.int qa), .val (.int qb), .val (.int qc), .val (.int qm), .val (.int w0), .val (.int w1), .val (.int w2), .val (.int t0), .val (.int t1), .val (.int t2), .val (.int (own_i n)), .val (.int z13), .val (.ref b1), .val (.int (own_i dd)), .unset, .unset, .unset, .unset, .unset, .unset, .unset, .unset] [(.int (2 : Int32)), (.int (own_i dd))]))
                  by_cases hc199_7 : (own_i dd) = (2 : Int32)
                  · refine own_by (fun _ kz => XS.icmpNo X_s147.here hx rfl (hb hby at_199) rfl (teq hc199_7).2 kz) ?_
                    show own_Go p.tables e below s _ _ _ (T_s147.setTop (mkF m 202 #[.val (.long p0), .second, .val (.int qa), .val (.int qb), .val (.int qc), .val (.int qm), .val (.int w0), .val (.int w1), .val (.int w2), .val (.int t0), .val (.int t1), .val (.int t2), .val (.int (own_i n)), .val (.int z13), .val (.ref b1), .val (.int (own_i dd)), .unset, .unset, .unset, .unset, .unset, .unset, .unset, .unset] []))
                    refine own_by (fun _ kz => XS.iload X_s147.here hx rfl (hb hby at_202) rfl kz) ?_
                    show own_Go p.tables e below s _ _ _ (T_s147.setTop (mkF m 204 #[.val (.long p0), .second, .val (.int qa), .val (.int qb), .val (.int qc), .val (.int qm), .val (.int w0), .val (.int w1), .val (.int w2), .val (.int t0), .val (.int t1), .val (.int t2), .val (.int (own_i n)), .val (.int z13), .val (.ref b1), .val (.int (own_i dd)), .unset, .unset, .unset, .unset, .unset, .unset, .unset, .unset] [(.int t0)]))
                    refine own_by (fun _ kz => XS.i2l X_s147.here hx rfl (hb hby at_204) rfl kz) ?_
                    show own_Go p.tables e below s _ _ _ (T_s147.setTop (mkF m 205 #[.val (.long p0), .second, .val (.int qa), .val (.int qb), .val (.int qc), .val (.int qm), .val (.int w0), .val (.int w1), .val (.int w2), .val (.int t0), .val (.int t1), .val (.int t2), .val (.int (own_i n)), .val (.int z13), .val (.ref b1), .val (.int (own_i dd)), .unset, .unset, .unset, .unset, .unset, .unset, .unset, .unset] [(.long (t0.toInt64))]))
                    refine own_by (fun _ kz => XS.iload X_s147.here hx rfl (hb hby at_205) rfl kz) ?_
                    show own_Go p.tables e below s _ _ _ (T_s147.setTop (mkF m 207 #[.val (.long p0), .second, .val (.int qa), .val (.int qb), .val (.int qc), .val (.int qm), .val (.int w0), .val (.int w1), .val (.int w2), .val (.int t0), .val (.int t1), .val (.int t2), .val (.int (own_i n)), .val (.int z13), .val (.ref b1), .val (.int (own_i dd)), .unset, .unset, .unset, .unset, .unset, .unset, .unset, .unset] [(.int w1), (.long (t0.toInt64))]))
                    refine own_by (fun _ kz => XS.i2l X_s147.here hx rfl (hb hby at_207) rfl kz) ?_
                    show own_Go p.tables e below s _ _ _ (T_s147.setTop (mkF m 208 #[.val (.long p0), .second, .val (.int qa), .val (.int qb), .val (.int qc), .val (.int qm), .val (.int w0), .val (.int w1), .val (.int w2), .val (.int t0), .val (.int t1), .val (.int t2), .val (.int (own_i n)), .val (.int z13), .val (.ref b1), .val (.int (own_i dd)), .unset, .unset, .unset, .unset, .unset, .unset, .unset, .unset] [(.long (w1.toInt64)), (.long (t0.toInt64))]))
                    refine own_by (fun _ kz => XS.lmul X_s147.here hx rfl (hb hby at_208) rfl kz) ?_
                    show own_Go p.tables e below s _ _ _ (T_s147.setTop (mkF m 209 #[.val (.long p0), .second, .val (.int qa), .val (.int qb), .val (.int qc), .val (.int qm), .val (.int w0), .val (.int w1), .val (.int w2), .val (.int t0), .val (.int t1), .val (.int t2), .val (.int (own_i n)), .val (.int z13), .val (.ref b1), .val (.int (own_i dd)), .unset, .unset, .unset, .unset, .unset, .unset, .unset, .unset] [(.long ((t0.toInt64) * (w1.toInt64)))]))
                    refine own_by (fun _ kz => XS.iload X_s147.here hx rfl (hb hby at_209) rfl kz) ?_
                    show own_Go p.tables e below s _ _ _ (T_s147.setTop (mkF m 211 #[.val (.long p0), .second, .val (.int qa), .val (.int qb), .val (.int qc), .val (.int qm), .val (.int w0), .val (.int w1), .val (.int w2), .val (.int t0), .val (.int t1), .val (.int t2), .val (.int (own_i n)), .val (.int z13), .val (.ref b1), .val (.int (own_i dd)), .unset, .unset, .unset, .unset, .unset, .unset, .unset, .unset] [(.int t1), (.long ((t0.toInt64) * (w1.toInt64)))]))
                    refine own_by (fun _ kz => XS.i2l X_s147.here hx rfl (hb hby at_211) rfl kz) ?_
                    show own_Go p.tables e below s _ _ _ (T_s147.setTop (mkF m 212 #[.val (.long p0), .second, .val (.int qa), .val (.int qb), .val (.int qc), .val (.int qm), .val (.int w0), .val (.int w1), .val (.int w2), .val (.int t0), .val (.int t1), .val (.int t2), .val (.int (own_i n)), .val (.int z13), .val (.ref b1), .val (.int (own_i dd)), .unset, .unset, .unset, .unset, .unset, .unset, .unset, .unset] [(.long (t1.toInt64)), (.long ((t0.toInt64) * (w1.toInt64)))]))
                    refine own_by (fun _ kz => XS.ladd X_s147.here hx rfl (hb hby at_212) rfl kz) ?_
                    show own_Go p.tables e below s _ _ _ (T_s147.setTop (mkF m 213 #[.val (.long p0), .second, .val (.int qa), .val (.int qb), .val (.int qc), .val (.int qm), .val (.int w0), .val (.int w1), .val (.int w2), .val (.int t0), .val (.int t1), .val (.int t2), .val (.int (own_i n)), .val (.int z13), .val (.ref b1), .val (.int (own_i dd)), .unset, .unset, .unset, .unset, .unset, .unset, .unset, .unset] [(.long (((t0.toInt64) * (w1.toInt64)) + (t1.toInt64)))]))
                    refine own_by (fun _ kz => XS.lstore X_s147.here hx rfl (hb hby at_213) rfl (l' := #[.val (.long p0), .second, .val (.int qa), .val (.int qb), .val (.int qc), .val (.int qm), .val (.int w0), .val (.int w1), .val (.int w2), .val (.int t0), .val (.int t1), .val (.int t2), .val (.int (own_i n)), .val (.int z13), .val (.ref b1), .val (.int (own_i dd)), .val (.long (((t0.toInt64) * (w1.toInt64)) + (t1.toInt64))), .second, .unset, .unset, .unset, .unset, .unset, .unset]) rfl kz) ?_
                    show own_Go p.tables e below s _ _ _ (T_s147.setTop (mkF m 215 #[.val (.long p0), .second, .val (.int qa), .val (.int qb), .val (.int qc), .val (.int qm), .val (.int w0), .val (.int w1), .val (.int w2), .val (.int t0), .val (.int t1), .val (.int t2), .val (.int (own_i n)), .val (.int z13), .val (.ref b1), .val (.int (own_i dd)), .val (.long (((t0.toInt64) * (w1.toInt64)) + (t1.toInt64))), .second, .unset, .unset, .unset, .unset, .unset, .unset] []))
                    refine own_by (fun _ kz => XS.iload X_s147.here hx rfl (hb hby at_215) rfl kz) ?_
                    show own_Go p.tables e below s _ _ _ (T_s147.setTop (mkF m 217 #[.val (.long p0), .second, .val (.int qa), .val (.int qb), .val (.int qc), .val (.int qm), .val (.int w0), .val (.int w1), .val (.int w2), .val (.int t0), .val (.int t1), .val (.int t2), .val (.int (own_i n)), .val (.int z13), .val (.ref b1), .val (.int (own_i dd)), .val (.long (((t0.toInt64) * (w1.toInt64)) + (t1.toInt64))), .second, .unset, .unset, .unset, .unset, .unset, .unset] [(.int w0)]))
                    refine own_by (fun _ kz => XS.i2l X_s147.here hx rfl (hb hby at_217) rfl kz) ?_
                    show own_Go p.tables e below s _ _ _ (T_s147.setTop (mkF m 218 #[.val (.long p0), .second, .val (.int qa), .val (.int qb), .val (.int qc), .val (.int qm), .val (.int w0), .val (.int w1), .val (.int w2), .val (.int t0), .val (.int t1), .val (.int t2), .val (.int (own_i n)), .val (.int z13), .val (.ref b1), .val (.int (own_i dd)), .val (.long (((t0.toInt64) * (w1.toInt64)) + (t1.toInt64))), .second, .unset, .unset, .unset, .unset, .unset, .unset] [(.long (w0.toInt64))]))
                    refine own_by (fun _ kz => XS.iload X_s147.here hx rfl (hb hby at_218) rfl kz) ?_
                    show own_Go p.tables e below s _ _ _ (T_s147.setTop (mkF m 220 #[.val (.long p0), .second, .val (.int qa), .val (.int qb), .val (.int qc), .val (.int qm), .val (.int w0), .val (.int w1), .val (.int w2), .val (.int t0), .val (.int t1), .val (.int t2), .val (.int (own_i n)), .val (.int z13), .val (.ref b1), .val (.int (own_i dd)), .val (.long (((t0.toInt64) * (w1.toInt64)) + (t1.toInt64))), .second, .unset, .unset, .unset, .unset, .unset, .unset] [(.int w1), (.long (w0.toInt64))]))
                    refine own_by (fun _ kz => XS.i2l X_s147.here hx rfl (hb hby at_220) rfl kz) ?_
                    show own_Go p.tables e below s _ _ _ (T_s147.setTop (mkF m 221 #[.val (.long p0), .second, .val (.int qa), .val (.int qb), .val (.int qc), .val (.int qm), .val (.int w0), .val (.int w1), .val (.int w2), .val (.int t0), .val (.int t1), .val (.int t2), .val (.int (own_i n)), .val (.int z13), .val (.ref b1), .val (.int (own_i dd)), .val (.long (((t0.toInt64) * (w1.toInt64)) + (t1.toInt64))), .second, .unset, .unset, .unset, .unset, .unset, .unset] [(.long (w1.toInt64)), (.long (w0.toInt64))]))
                    refine own_by (fun _ kz => XS.lmul X_s147.here hx rfl (hb hby at_221) rfl kz) ?_
                    show own_Go p.tables e below s _ _ _ (T_s147.setTop (mkF m 222 #[.val (.long p0), .second, .val (.int qa), .val (.int qb), .val (.int qc), .val (.int qm), .val (.int w0), .val (.int w1), .val (.int w2), .val (.int t0), .val (.int t1), .val (.int t2), .val (.int (own_i n)), .val (.int z13), .val (.ref b1), .val (.int (own_i dd)), .val (.long (((t0.toInt64) * (w1.toInt64)) + (t1.toInt64))), .second, .unset, .unset, .unset, .unset, .unset, .unset] [(.long ((w0.toInt64) * (w1.toInt64)))]))
                    refine own_by (fun _ kz => XS.lstore X_s147.here hx rfl (hb hby at_222) rfl (l' := #[.val (.long p0), .second, .val (.int qa), .val (.int qb), .val (.int qc), .val (.int qm), .val (.int w0), .val (.int w1), .val (.int w2), .val (.int t0), .val (.int t1), .val (.int t2), .val (.int (own_i n)), .val (.int z13), .val (.ref b1), .val (.int (own_i dd)), .val (.long (((t0.toInt64) * (w1.toInt64)) + (t1.toInt64))), .second, .val (.long ((w0.toInt64) * (w1.toInt64))), .second, .unset, .unset, .unset, .unset]) rfl kz) ?_
                    show own_Go p.tables e below s _ _ _ (T_s147.setTop (mkF m 224 #[.val (.long p0), .second, .val (.int qa), .val (.int qb), .val (.int qc), .val (.int qm), .val (.int w0), .val (.int w1), .val (.int w2), .val (.int t0), .val (.int t1), .val (.int t2), .val (.int (own_i n)), .val (.int z13), .val (.ref b1), .val (.int (own_i dd)), .val (.long (((t0.toInt64) * (w1.toInt64)) + (t1.toInt64))), .second, .val (.long ((w0.toInt64) * (w1.toInt64))), .second, .unset, .unset, .unset, .unset] []))
                    refine own_by (fun _ kz => XS.goto X_s147.here hx rfl (pc0 := 224) (pc' := 261) rfl (hb hby at_224) (by decide) (by decide) kz) ?_
                    show own_Go p.tables e below s _ _ _ (T_s147.setTop (mkF m 261 #[.val (.long p0), .second, .val (.int qa), .val (.int qb), .val (.int qc), .val (.int qm), .val (.int w0), .val (.int w1), .val (.int w2), .val (.int t0), .val (.int t1), .val (.int t2), .val (.int (own_i n)), .val (.int z13), .val (.ref b1), .val (.int (own_i dd)), .val (.long (((t0.toInt64) * (w1.toInt64)) + (t1.toInt64))), .second, .val (.long ((w0.toInt64) * (w1.toInt64))), .second, .unset, .unset, .unset, .unset] []))
                    have hdk : dd = 2 := (own_i_eq dd (by omega) 2 (by omega)).mp hc199_7
                    exact j261 _ _ (by rw [hdk]; exact (own_nd2 (t0 := t0) (t1 := t1) (t2 := t2) (w0 := w0) (w1 := w1) (w2 := w2) ht0 ht1 hw0 hw1).1) (by rw [hdk]; exact (own_nd2 (t0 := t0) (t1 := t1) (t2 := t2) (w0 := w0) (w1 := w1) (w2 := w2) ht0 ht1 hw0 hw1).2)
                  · refine own_by (fun _ kz => XS.icmpYes X_s147.here hx rfl (pc0 := 199) (pc' := 227) rfl (hb hby at_199) rfl (feq hc199_7).2 (by decide) (by decide) kz) ?_
                    show own_Go p.tables e below s _ _ _ (T_s147.setTop (mkF m 227 #[.val (.long p0), .second, .val (.int qa), .val (.int qb), .val (.int qc), .val (.int qm), .val (.int w0), .val (.int w1), .val (.int w2), .val (.int t0), .val (.int t1), .val (.int t2), .val (.int (own_i n)), .val (.int z13), .val (.ref b1), .val (.int (own_i dd)), .unset, .unset, .unset, .unset, .unset, .unset, .unset, .unset] []))
                    refine own_by (fun _ kz => XS.iload X_s147.here hx rfl (hb hby at_227) rfl kz) ?_
                    show own_Go p.tables e below s _ _ _ (T_s147.setTop (mkF m 229 #[.val (.long p0), .second, .val (.int qa), .val (.int qb), .val (.int qc), .val (.int qm), .val (.int w0), .val (.int w1), .val (.int w2), .val (.int t0), .val (.int t1), .val (.int t2), .val (.int (own_i n)), .val (.int z13), .val (.ref b1), .val (.int (own_i dd)), .unset, .unset, .unset, .unset, .unset, .unset, .unset, .unset] [(.int t0)]))
                    refine own_by (fun _ kz => XS.i2l X_s147.here hx rfl (hb hby at_229) rfl kz) ?_
                    show own_Go p.tables e below s _ _ _ (T_s147.setTop (mkF m 230 #[.val (.long p0), .second, .val (.int qa), .val (.int qb), .val (.int qc), .val (.int qm), .val (.int w0), .val (.int w1), .val (.int w2), .val (.int t0), .val (.int t1), .val (.int t2), .val (.int (own_i n)), .val (.int z13), .val (.ref b1), .val (.int (own_i dd)), .unset, .unset, .unset, .unset, .unset, .unset, .unset, .unset] [(.long (t0.toInt64))]))
                    refine own_by (fun _ kz => XS.iload X_s147.here hx rfl (hb hby at_230) rfl kz) ?_
                    show own_Go p.tables e below s _ _ _ (T_s147.setTop (mkF m 232 #[.val (.long p0), .second, .val (.int qa), .val (.int qb), .val (.int qc), .val (.int qm), .val (.int w0), .val (.int w1), .val (.int w2), .val (.int t0), .val (.int t1), .val (.int t2), .val (.int (own_i n)), .val (.int z13), .val (.ref b1), .val (.int (own_i dd)), .unset, .unset, .unset, .unset, .unset, .unset, .unset, .unset] [(.int w1), (.long (t0.toInt64))]))
                    refine own_by (fun _ kz => XS.i2l X_s147.here hx rfl (hb hby at_232) rfl kz) ?_
                    show own_Go p.tables e below s _ _ _ (T_s147.setTop (mkF m 233 #[.val (.long p0), .second, .val (.int qa), .val (.int qb), .val (.int qc), .val (.int qm), .val (.int w0), .val (.int w1), .val (.int w2), .val (.int t0), .val (.int t1), .val (.int t2), .val (.int (own_i n)), .val (.int z13), .val (.ref b1), .val (.int (own_i dd)), .unset, .unset, .unset, .unset, .unset, .unset, .unset, .unset] [(.long (w1.toInt64)), (.long (t0.toInt64))]))
                    refine own_by (fun _ kz => XS.lmul X_s147.here hx rfl (hb hby at_233) rfl kz) ?_
                    show own_Go p.tables e below s _ _ _ (T_s147.setTop (mkF m 234 #[.val (.long p0), .second, .val (.int qa), .val (.int qb), .val (.int qc), .val (.int qm), .val (.int w0), .val (.int w1), .val (.int w2), .val (.int t0), .val (.int t1), .val (.int t2), .val (.int (own_i n)), .val (.int z13), .val (.ref b1), .val (.int (own_i dd)), .unset, .unset, .unset, .unset, .unset, .unset, .unset, .unset] [(.long ((t0.toInt64) * (w1.toInt64)))]))
                    refine own_by (fun _ kz => XS.iload X_s147.here hx rfl (hb hby at_234) rfl kz) ?_
                    show own_Go p.tables e below s _ _ _ (T_s147.setTop (mkF m 236 #[.val (.long p0), .second, .val (.int qa), .val (.int qb), .val (.int qc), .val (.int qm), .val (.int w0), .val (.int w1), .val (.int w2), .val (.int t0), .val (.int t1), .val (.int t2), .val (.int (own_i n)), .val (.int z13), .val (.ref b1), .val (.int (own_i dd)), .unset, .unset, .unset, .unset, .unset, .unset, .unset, .unset] [(.int t1), (.long ((t0.toInt64) * (w1.toInt64)))]))
                    refine own_by (fun _ kz => XS.i2l X_s147.here hx rfl (hb hby at_236) rfl kz) ?_
                    show own_Go p.tables e below s _ _ _ (T_s147.setTop (mkF m 237 #[.val (.long p0), .second, .val (.int qa), .val (.int qb), .val (.int qc), .val (.int qm), .val (.int w0), .val (.int w1), .val (.int w2), .val (.int t0), .val (.int t1), .val (.int t2), .val (.int (own_i n)), .val (.int z13), .val (.ref b1), .val (.int (own_i dd)), .unset, .unset, .unset, .unset, .unset, .unset, .unset, .unset] [(.long (t1.toInt64)), (.long ((t0.toInt64) * (w1.toInt64)))]))
                    refine own_by (fun _ kz => XS.ladd X_s147.here hx rfl (hb hby at_237) rfl kz) ?_
                    show own_Go p.tables e below s _ _ _ (T_s147.setTop (mkF m 238 #[.val (.long p0), .second, .val (.int qa), .val (.int qb), .val (.int qc), .val (.int qm), .val (.int w0), .val (.int w1), .val (.int w2), .val (.int t0), .val (.int t1), .val (.int t2), .val (.int (own_i n)), .val (.int z13), .val (.ref b1), .val (.int (own_i dd)), .unset, .unset, .unset, .unset, .unset, .unset, .unset, .unset] [(.long (((t0.toInt64) * (w1.toInt64)) + (t1.toInt64)))]))
                    refine own_by (fun _ kz => XS.iload X_s147.here hx rfl (hb hby at_238) rfl kz) ?_
                    show own_Go p.tables e below s _ _ _ (T_s147.setTop (mkF m 240 #[.val (.long p0), .second, .val (.int qa), .val (.int qb), .val (.int qc), .val (.int qm), .val (.int w0), .val (.int w1), .val (.int w2), .val (.int t0), .val (.int t1), .val (.int t2), .val (.int (own_i n)), .val (.int z13), .val (.ref b1), .val (.int (own_i dd)), .unset, .unset, .unset, .unset, .unset, .unset, .unset, .unset] [(.int w2), (.long (((t0.toInt64) * (w1.toInt64)) + (t1.toInt64)))]))
                    refine own_by (fun _ kz => XS.i2l X_s147.here hx rfl (hb hby at_240) rfl kz) ?_
                    show own_Go p.tables e below s _ _ _ (T_s147.setTop (mkF m 241 #[.val (.long p0), .second, .val (.int qa), .val (.int qb), .val (.int qc), .val (.int qm), .val (.int w0), .val (.int w1), .val (.int w2), .val (.int t0), .val (.int t1), .val (.int t2), .val (.int (own_i n)), .val (.int z13), .val (.ref b1), .val (.int (own_i dd)), .unset, .unset, .unset, .unset, .unset, .unset, .unset, .unset] [(.long (w2.toInt64)), (.long (((t0.toInt64) * (w1.toInt64)) + (t1.toInt64)))]))
                    refine own_by (fun _ kz => XS.lmul X_s147.here hx rfl (hb hby at_241) rfl kz) ?_
                    show own_Go p.tables e below s _ _ _ (T_s147.setTop (mkF m 242 #[.val (.long p0), .second, .val (.int qa), .val (.int qb), .val (.int qc), .val (.int qm), .val (.int w0), .val (.int w1), .val (.int w2), .val (.int t0), .val (.int t1), .val (.int t2), .val (.int (own_i n)), .val (.int z13), .val (.ref b1), .val (.int (own_i dd)), .unset, .unset, .unset, .unset, .unset, .unset, .unset, .unset] [(.long ((((t0.toInt64) * (w1.toInt64)) + (t1.toInt64)) * (w2.toInt64)))]))
                    refine own_by (fun _ kz => XS.iload X_s147.here hx rfl (hb hby at_242) rfl kz) ?_
                    show own_Go p.tables e below s _ _ _ (T_s147.setTop (mkF m 244 #[.val (.long p0), .second, .val (.int qa), .val (.int qb), .val (.int qc), .val (.int qm), .val (.int w0), .val (.int w1), .val (.int w2), .val (.int t0), .val (.int t1), .val (.int t2), .val (.int (own_i n)), .val (.int z13), .val (.ref b1), .val (.int (own_i dd)), .unset, .unset, .unset, .unset, .unset, .unset, .unset, .unset] [(.int t2), (.long ((((t0.toInt64) * (w1.toInt64)) + (t1.toInt64)) * (w2.toInt64)))]))
                    refine own_by (fun _ kz => XS.i2l X_s147.here hx rfl (hb hby at_244) rfl kz) ?_
                    show own_Go p.tables e below s _ _ _ (T_s147.setTop (mkF m 245 #[.val (.long p0), .second, .val (.int qa), .val (.int qb), .val (.int qc), .val (.int qm), .val (.int w0), .val (.int w1), .val (.int w2), .val (.int t0), .val (.int t1), .val (.int t2), .val (.int (own_i n)), .val (.int z13), .val (.ref b1), .val (.int (own_i dd)), .unset, .unset, .unset, .unset, .unset, .unset, .unset, .unset] [(.long (t2.toInt64)), (.long ((((t0.toInt64) * (w1.toInt64)) + (t1.toInt64)) * (w2.toInt64)))]))
                    refine own_by (fun _ kz => XS.ladd X_s147.here hx rfl (hb hby at_245) rfl kz) ?_
                    show own_Go p.tables e below s _ _ _ (T_s147.setTop (mkF m 246 #[.val (.long p0), .second, .val (.int qa), .val (.int qb), .val (.int qc), .val (.int qm), .val (.int w0), .val (.int w1), .val (.int w2), .val (.int t0), .val (.int t1), .val (.int t2), .val (.int (own_i n)), .val (.int z13), .val (.ref b1), .val (.int (own_i dd)), .unset, .unset, .unset, .unset, .unset, .unset, .unset, .unset] [(.long (((((t0.toInt64) * (w1.toInt64)) + (t1.toInt64)) * (w2.toInt64)) + (t2.toInt64)))]))
                    refine own_by (fun _ kz => XS.lstore X_s147.here hx rfl (hb hby at_246) rfl (l' := #[.val (.long p0), .second, .val (.int qa), .val (.int qb), .val (.int qc), .val (.int qm), .val (.int w0), .val (.int w1), .val (.int w2), .val (.int t0), .val (.int t1), .val (.int t2), .val (.int (own_i n)), .val (.int z13), .val (.ref b1), .val (.int (own_i dd)), .val (.long (((((t0.toInt64) * (w1.toInt64)) + (t1.toInt64)) * (w2.toInt64)) + (t2.toInt64))), .second, .unset, .unset, .unset, .unset, .unset, .unset]) rfl kz) ?_
                    show own_Go p.tables e below s _ _ _ (T_s147.setTop (mkF m 248 #[.val (.long p0), .second, .val (.int qa), .val (.int qb), .val (.int qc), .val (.int qm), .val (.int w0), .val (.int w1), .val (.int w2), .val (.int t0), .val (.int t1), .val (.int t2), .val (.int (own_i n)), .val (.int z13), .val (.ref b1), .val (.int (own_i dd)), .val (.long (((((t0.toInt64) * (w1.toInt64)) + (t1.toInt64)) * (w2.toInt64)) + (t2.toInt64))), .second, .unset, .unset, .unset, .unset, .unset, .unset] []))
                    refine own_by (fun _ kz => XS.iload X_s147.here hx rfl (hb hby at_248) rfl kz) ?_
                    show own_Go p.tables e below s _ _ _ (T_s147.setTop (mkF m 250 #[.val (.long p0), .second, .val (.int qa), .val (.int qb), .val (.int qc), .val (.int qm), .val (.int w0), .val (.int w1), .val (.int w2), .val (.int t0), .val (.int t1), .val (.int t2), .val (.int (own_i n)), .val (.int z13), .val (.ref b1), .val (.int (own_i dd)), .val (.long (((((t0.toInt64) * (w1.toInt64)) + (t1.toInt64)) * (w2.toInt64)) + (t2.toInt64))), .second, .unset, .unset, .unset, .unset, .unset, .unset] [(.int w0)]))
                    refine own_by (fun _ kz => XS.i2l X_s147.here hx rfl (hb hby at_250) rfl kz) ?_
                    show own_Go p.tables e below s _ _ _ (T_s147.setTop (mkF m 251 #[.val (.long p0), .second, .val (.int qa), .val (.int qb), .val (.int qc), .val (.int qm), .val (.int w0), .val (.int w1), .val (.int w2), .val (.int t0), .val (.int t1), .val (.int t2), .val (.int (own_i n)), .val (.int z13), .val (.ref b1), .val (.int (own_i dd)), .val (.long (((((t0.toInt64) * (w1.toInt64)) + (t1.toInt64)) * (w2.toInt64)) + (t2.toInt64))), .second, .unset, .unset, .unset, .unset, .unset, .unset] [(.long (w0.toInt64))]))
                    refine own_by (fun _ kz => XS.iload X_s147.here hx rfl (hb hby at_251) rfl kz) ?_
                    show own_Go p.tables e below s _ _ _ (T_s147.setTop (mkF m 253 #[.val (.long p0), .second, .val (.int qa), .val (.int qb), .val (.int qc), .val (.int qm), .val (.int w0), .val (.int w1), .val (.int w2), .val (.int t0), .val (.int t1), .val (.int t2), .val (.int (own_i n)), .val (.int z13), .val (.ref b1), .val (.int (own_i dd)), .val (.long (((((t0.toInt64) * (w1.toInt64)) + (t1.toInt64)) * (w2.toInt64)) + (t2.toInt64))), .second, .unset, .unset, .unset, .unset, .unset, .unset] [(.int w1), (.long (w0.toInt64))]))
                    refine own_by (fun _ kz => XS.i2l X_s147.here hx rfl (hb hby at_253) rfl kz) ?_
                    show own_Go p.tables e below s _ _ _ (T_s147.setTop (mkF m 254 #[.val (.long p0), .second, .val (.int qa), .val (.int qb), .val (.int qc), .val (.int qm), .val (.int w0), .val (.int w1), .val (.int w2), .val (.int t0), .val (.int t1), .val (.int t2), .val (.int (own_i n)), .val (.int z13), .val (.ref b1), .val (.int (own_i dd)), .val (.long (((((t0.toInt64) * (w1.toInt64)) + (t1.toInt64)) * (w2.toInt64)) + (t2.toInt64))), .second, .unset, .unset, .unset, .unset, .unset, .unset] [(.long (w1.toInt64)), (.long (w0.toInt64))]))
                    refine own_by (fun _ kz => XS.lmul X_s147.here hx rfl (hb hby at_254) rfl kz) ?_
                    show own_Go p.tables e below s _ _ _ (T_s147.setTop (mkF m 255 #[.val (.long p0), .second, .val (.int qa), .val (.int qb), .val (.int qc), .val (.int qm), .val (.int w0), .val (.int w1), .val (.int w2), .val (.int t0), .val (.int t1), .val (.int t2), .val (.int (own_i n)), .val (.int z13), .val (.ref b1), .val (.int (own_i dd)), .val (.long (((((t0.toInt64) * (w1.toInt64)) + (t1.toInt64)) * (w2.toInt64)) + (t2.toInt64))), .second, .unset, .unset, .unset, .unset, .unset, .unset] [(.long ((w0.toInt64) * (w1.toInt64)))]))
                    refine own_by (fun _ kz => XS.iload X_s147.here hx rfl (hb hby at_255) rfl kz) ?_
                    show own_Go p.tables e below s _ _ _ (T_s147.setTop (mkF m 257 #[.val (.long p0), .second, .val (.int qa), .val (.int qb), .val (.int qc), .val (.int qm), .val (.int w0), .val (.int w1), .val (.int w2), .val (.int t0), .val (.int t1), .val (.int t2), .val (.int (own_i n)), .val (.int z13), .val (.ref b1), .val (.int (own_i dd)), .val (.long (((((t0.toInt64) * (w1.toInt64)) + (t1.toInt64)) * (w2.toInt64)) + (t2.toInt64))), .second, .unset, .unset, .unset, .unset, .unset, .unset] [(.int w2), (.long ((w0.toInt64) * (w1.toInt64)))]))
                    refine own_by (fun _ kz => XS.i2l X_s147.here hx rfl (hb hby at_257) rfl kz) ?_
                    show own_Go p.tables e below s _ _ _ (T_s147.setTop (mkF m 258 #[.val (.long p0), .second, .val (.int qa), .val (.int qb), .val (.int qc), .val (.int qm), .val (.int w0), .val (.int w1), .val (.int w2), .val (.int t0), .val (.int t1), .val (.int t2), .val (.int (own_i n)), .val (.int z13), .val (.ref b1), .val (.int (own_i dd)), .val (.long (((((t0.toInt64) * (w1.toInt64)) + (t1.toInt64)) * (w2.toInt64)) + (t2.toInt64))), .second, .unset, .unset, .unset, .unset, .unset, .unset] [(.long (w2.toInt64)), (.long ((w0.toInt64) * (w1.toInt64)))]))
                    refine own_by (fun _ kz => XS.lmul X_s147.here hx rfl (hb hby at_258) rfl kz) ?_
                    show own_Go p.tables e below s _ _ _ (T_s147.setTop (mkF m 259 #[.val (.long p0), .second, .val (.int qa), .val (.int qb), .val (.int qc), .val (.int qm), .val (.int w0), .val (.int w1), .val (.int w2), .val (.int t0), .val (.int t1), .val (.int t2), .val (.int (own_i n)), .val (.int z13), .val (.ref b1), .val (.int (own_i dd)), .val (.long (((((t0.toInt64) * (w1.toInt64)) + (t1.toInt64)) * (w2.toInt64)) + (t2.toInt64))), .second, .unset, .unset, .unset, .unset, .unset, .unset] [(.long (((w0.toInt64) * (w1.toInt64)) * (w2.toInt64)))]))
                    refine own_by (fun _ kz => XS.lstore X_s147.here hx rfl (hb hby at_259) rfl (l' := #[.val (.long p0), .second, .val (.int qa), .val (.int qb), .val (.int qc), .val (.int qm), .val (.int w0), .val (.int w1), .val (.int w2), .val (.int t0), .val (.int t1), .val (.int t2), .val (.int (own_i n)), .val (.int z13), .val (.ref b1), .val (.int (own_i dd)), .val (.long (((((t0.toInt64) * (w1.toInt64)) + (t1.toInt64)) * (w2.toInt64)) + (t2.toInt64))), .second, .val (.long (((w0.toInt64) * (w1.toInt64)) * (w2.toInt64))), .second, .unset, .unset, .unset, .unset]) rfl kz) ?_
                    show own_Go p.tables e below s _ _ _ (T_s147.setTop (mkF m 261 #[.val (.long p0), .second, .val (.int qa), .val (.int qb), .val (.int qc), .val (.int qm), .val (.int w0), .val (.int w1), .val (.int w2), .val (.int t0), .val (.int t1), .val (.int t2), .val (.int (own_i n)), .val (.int z13), .val (.ref b1), .val (.int (own_i dd)), .val (.long (((((t0.toInt64) * (w1.toInt64)) + (t1.toInt64)) * (w2.toInt64)) + (t2.toInt64))), .second, .val (.long (((w0.toInt64) * (w1.toInt64)) * (w2.toInt64))), .second, .unset, .unset, .unset, .unset] []))
                    have hdk : dd = 3 := by have q0 : ¬ dd = 0 := fun u => hc165_5 ((own_i_eq dd (by omega) 0 (by omega)).mpr u); have q1 : ¬ dd = 1 := fun u => hc180_6 ((own_i_eq dd (by omega) 1 (by omega)).mpr u); have q2 : ¬ dd = 2 := fun u => hc199_7 ((own_i_eq dd (by omega) 2 (by omega)).mpr u); omega
                    exact j261 _ _ (by rw [hdk]; exact (own_nd3 (t0 := t0) (t1 := t1) (t2 := t2) (w0 := w0) (w1 := w1) (w2 := w2) ht0 ht1 ht2 hw0 hw1 hw2).1) (by rw [hdk]; exact (own_nd3 (t0 := t0) (t1 := t1) (t2 := t2) (w0 := w0) (w1 := w1) (w2 := w2) ht0 ht1 ht2 hw0 hw1 hw2).2)
            refine own_by (fun _ kz => XS.iload X_s147.here hx rfl (hb hby at_147) rfl kz) ?_
            show own_Go p.tables e below s _ _ _ (T_s147.setTop (mkF m 149 #[.val (.long p0), .second, .val (.int qa), .val (.int qb), .val (.int qc), .val (.int qm), .val (.int w0), .val (.int w1), .val (.int w2), .val (.int t0), .val (.int t1), .val (.int t2), .val (.int (own_i n)), .val (.int z13), .val (.ref b1), .unset, .unset, .unset, .unset, .unset, .unset, .unset, .unset, .unset] [(.int z13)]))
            by_cases hc149_8 : z13 = (0 : Int32)
            · refine own_by (fun _ kz => XS.ifYes X_s147.here hx rfl (pc0 := 149) (pc' := 159) rfl (hb hby at_149) rfl ((if0 _ _).trans (teq hc149_8).1) (by decide) (by decide) kz) ?_
              show own_Go p.tables e below s _ _ _ (T_s147.setTop (mkF m 159 #[.val (.long p0), .second, .val (.int qa), .val (.int qb), .val (.int qc), .val (.int qm), .val (.int w0), .val (.int w1), .val (.int w2), .val (.int t0), .val (.int t1), .val (.int t2), .val (.int (own_i n)), .val (.int z13), .val (.ref b1), .unset, .unset, .unset, .unset, .unset, .unset, .unset, .unset, .unset] []))
              refine own_by (fun _ kz => XS.iload X_s147.here hx rfl (hb hby at_159) rfl kz) ?_
              show own_Go p.tables e below s _ _ _ (T_s147.setTop (mkF m 161 #[.val (.long p0), .second, .val (.int qa), .val (.int qb), .val (.int qc), .val (.int qm), .val (.int w0), .val (.int w1), .val (.int w2), .val (.int t0), .val (.int t1), .val (.int t2), .val (.int (own_i n)), .val (.int z13), .val (.ref b1), .unset, .unset, .unset, .unset, .unset, .unset, .unset, .unset, .unset] [(.int (own_i n))]))
              refine own_by (fun _ kz => XS.istore X_s147.here hx rfl (hb hby at_161) rfl (l' := #[.val (.long p0), .second, .val (.int qa), .val (.int qb), .val (.int qc), .val (.int qm), .val (.int w0), .val (.int w1), .val (.int w2), .val (.int t0), .val (.int t1), .val (.int t2), .val (.int (own_i n)), .val (.int z13), .val (.ref b1), .val (.int (own_i n)), .unset, .unset, .unset, .unset, .unset, .unset, .unset, .unset]) rfl kz) ?_
              show own_Go p.tables e below s _ _ _ (T_s147.setTop (mkF m 163 #[.val (.long p0), .second, .val (.int qa), .val (.int qb), .val (.int qc), .val (.int qm), .val (.int w0), .val (.int w1), .val (.int w2), .val (.int t0), .val (.int t1), .val (.int t2), .val (.int (own_i n)), .val (.int z13), .val (.ref b1), .val (.int (own_i n)), .unset, .unset, .unset, .unset, .unset, .unset, .unset, .unset] []))
              exact j163 _ (by rw [if_pos hc149_8])
            · refine own_by (fun _ kz => XS.ifNo X_s147.here hx rfl (hb hby at_149) rfl ((if0 _ _).trans (feq hc149_8).1) kz) ?_
              show own_Go p.tables e below s _ _ _ (T_s147.setTop (mkF m 152 #[.val (.long p0), .second, .val (.int qa), .val (.int qb), .val (.int qc), .val (.int qm), .val (.int w0), .val (.int w1), .val (.int w2), .val (.int t0), .val (.int t1), .val (.int t2), .val (.int (own_i n)), .val (.int z13), .val (.ref b1), .unset, .unset, .unset, .unset, .unset, .unset, .unset, .unset, .unset] []))
              refine own_by (fun _ kz => XS.iload X_s147.here hx rfl (hb hby at_152) rfl kz) ?_
              show own_Go p.tables e below s _ _ _ (T_s147.setTop (mkF m 154 #[.val (.long p0), .second, .val (.int qa), .val (.int qb), .val (.int qc), .val (.int qm), .val (.int w0), .val (.int w1), .val (.int w2), .val (.int t0), .val (.int t1), .val (.int t2), .val (.int (own_i n)), .val (.int z13), .val (.ref b1), .unset, .unset, .unset, .unset, .unset, .unset, .unset, .unset, .unset] [(.int (own_i n))]))
              refine own_by (fun _ kz => XS.iconst X_s147.here hx rfl (hb hby at_154) kz) ?_
              show own_Go p.tables e below s _ _ _ (T_s147.setTop (mkF m 155 #[.val (.long p0), .second, .val (.int qa), .val (.int qb), .val (.int qc), .val (.int qm), .val (.int w0), .val (.int w1), .val (.int w2), .val (.int t0), .val (.int t1), .val (.int t2), .val (.int (own_i n)), .val (.int z13), .val (.ref b1), .unset, .unset, .unset, .unset, .unset, .unset, .unset, .unset, .unset] [(.int (1 : Int32)), (.int (own_i n))]))
              have hn0 : 0 < n := (hz13.resolve_left hc149_8).2
              refine own_by (fun _ kz => XS.isub X_s147.here hx rfl (hb hby at_155) rfl kz) ?_
              show own_Go p.tables e below s _ _ _ (T_s147.setTop (mkF m 156 #[.val (.long p0), .second, .val (.int qa), .val (.int qb), .val (.int qc), .val (.int qm), .val (.int w0), .val (.int w1), .val (.int w2), .val (.int t0), .val (.int t1), .val (.int t2), .val (.int (own_i n)), .val (.int z13), .val (.ref b1), .unset, .unset, .unset, .unset, .unset, .unset, .unset, .unset, .unset] [(.int ((own_i n) - (1 : Int32)))]))
              rw [own_i_pred' (n) (by omega) (by omega)]
              show own_Go p.tables e below s _ _ _ (T_s147.setTop (mkF m 156 #[.val (.long p0), .second, .val (.int qa), .val (.int qb), .val (.int qc), .val (.int qm), .val (.int w0), .val (.int w1), .val (.int w2), .val (.int t0), .val (.int t1), .val (.int t2), .val (.int (own_i n)), .val (.int z13), .val (.ref b1), .unset, .unset, .unset, .unset, .unset, .unset, .unset, .unset, .unset] [(.int (own_i (n - 1)))]))
              refine own_by (fun _ kz => XS.goto X_s147.here hx rfl (pc0 := 156) (pc' := 161) rfl (hb hby at_156) (by decide) (by decide) kz) ?_
              show own_Go p.tables e below s _ _ _ (T_s147.setTop (mkF m 161 #[.val (.long p0), .second, .val (.int qa), .val (.int qb), .val (.int qc), .val (.int qm), .val (.int w0), .val (.int w1), .val (.int w2), .val (.int t0), .val (.int t1), .val (.int t2), .val (.int (own_i n)), .val (.int z13), .val (.ref b1), .unset, .unset, .unset, .unset, .unset, .unset, .unset, .unset, .unset] [(.int (own_i (n - 1)))]))
              refine own_by (fun _ kz => XS.istore X_s147.here hx rfl (hb hby at_161) rfl (l' := #[.val (.long p0), .second, .val (.int qa), .val (.int qb), .val (.int qc), .val (.int qm), .val (.int w0), .val (.int w1), .val (.int w2), .val (.int t0), .val (.int t1), .val (.int t2), .val (.int (own_i n)), .val (.int z13), .val (.ref b1), .val (.int (own_i (n - 1))), .unset, .unset, .unset, .unset, .unset, .unset, .unset, .unset]) rfl kz) ?_
              show own_Go p.tables e below s _ _ _ (T_s147.setTop (mkF m 163 #[.val (.long p0), .second, .val (.int qa), .val (.int qb), .val (.int qc), .val (.int qm), .val (.int w0), .val (.int w1), .val (.int w2), .val (.int t0), .val (.int t1), .val (.int t2), .val (.int (own_i n)), .val (.int z13), .val (.ref b1), .val (.int (own_i (n - 1))), .unset, .unset, .unset, .unset, .unset, .unset, .unset, .unset] []))
              exact j163 _ (by rw [if_neg hc149_8])
          refine own_by (fun _ kz => XS.iload X_s137.here hx rfl (hb hby at_137) rfl kz) ?_
          show own_Go p.tables e below s _ _ _ (T_s137.setTop (mkF m 139 #[.val (.long p0), .second, .val (.int qa), .val (.int qb), .val (.int qc), .val (.int qm), .val (.int w0), .val (.int w1), .val (.int w2), .val (.int t0), .val (.int t1), .val (.int t2), .val (.int (own_i n)), .val (.int z13), .val (.ref b1), .unset, .unset, .unset, .unset, .unset, .unset, .unset, .unset, .unset] [(.int z13)]))
          by_cases hc139_9 : z13 = (0 : Int32)
          · refine own_by (fun _ kz => XS.ifYes X_s137.here hx rfl (pc0 := 139) (pc' := 147) rfl (hb hby at_139) rfl ((if0 _ _).trans (teq hc139_9).1) (by decide) (by decide) kz) ?_
            show own_Go p.tables e below s _ _ _ (T_s137.setTop (mkF m 147 #[.val (.long p0), .second, .val (.int qa), .val (.int qb), .val (.int qc), .val (.int qm), .val (.int w0), .val (.int w1), .val (.int w2), .val (.int t0), .val (.int t1), .val (.int t2), .val (.int (own_i n)), .val (.int z13), .val (.ref b1), .unset, .unset, .unset, .unset, .unset, .unset, .unset, .unset, .unset] []))
            exact s147 T_s137 _ (X_s137.more (by decide) (by decide)) N_s137 Z_s137 (by rw [if_pos hc139_9]; exact L_s137)
          · refine own_by (fun _ kz => XS.ifNo X_s137.here hx rfl (hb hby at_139) rfl ((if0 _ _).trans (feq hc139_9).1) kz) ?_
            show own_Go p.tables e below s _ _ _ (T_s137.setTop (mkF m 142 #[.val (.long p0), .second, .val (.int qa), .val (.int qb), .val (.int qc), .val (.int qm), .val (.int w0), .val (.int w1), .val (.int w2), .val (.int t0), .val (.int t1), .val (.int t2), .val (.int (own_i n)), .val (.int z13), .val (.ref b1), .unset, .unset, .unset, .unset, .unset, .unset, .unset, .unset, .unset] []))
            refine own_by (fun _ kz => XS.aload X_s137.here hx rfl (hb hby at_142) rfl rfl kz) ?_
            show own_Go p.tables e below s _ _ _ (T_s137.setTop (mkF m 144 #[.val (.long p0), .second, .val (.int qa), .val (.int qb), .val (.int qc), .val (.int qm), .val (.int w0), .val (.int w1), .val (.int w2), .val (.int t0), .val (.int t1), .val (.int t2), .val (.int (own_i n)), .val (.int z13), .val (.ref b1), .unset, .unset, .unset, .unset, .unset, .unset, .unset, .unset, .unset] [(.ref b1)]))
            have hn0 : 0 < n := (hz13.resolve_left hc139_9).2
            obtain ⟨ts10, us10, PBo10, Ho10⟩ := L_s137
            obtain ⟨v11, T11, L11, X11, q11, st11⟩ := own_callV X_s137 hx hZ hown (hw _ (List.mem_of_getElem? (i := 28) rfl)) (hw _ (List.mem_of_getElem? (i := 29) rfl)) (hw _ (List.mem_of_getElem? (i := 31) rfl)) (hw _ (List.mem_of_getElem? (i := 30) rfl)) (hw _ (List.mem_of_getElem? (i := 2) rfl)) (hw _ (List.mem_of_getElem? (i := 32) rfl)) (by decide) (rm5 l Z a0 hw [] b1 T_s137.heap n0 Z_s137 ta wa n ts10 us10 PBo10 (by omega) hn0) (W := 0) (by decide) (by decide) rfl PBo10.exa (g := (mkF m 144 #[.val (.long p0), .second, .val (.int qa), .val (.int qb), .val (.int qc), .val (.int qm), .val (.int w0), .val (.int w1), .val (.int w2), .val (.int t0), .val (.int t1), .val (.int t2), .val (.int (own_i n)), .val (.int z13), .val (.ref b1), .unset, .unset, .unset, .unset, .unset, .unset, .unset, .unset, .unset] [(.ref b1)])) rfl (by rw [hml]; rfl) (argsL := []) (rest := []) (lenOf pd_5 rfl) rfl rfl (by show 2 * 0 + _ ≤ _; exact Nat.le_of_eq rfl) (hb hby at_144) (by decide) (by decide)
            obtain ⟨rfl, Nq11, Zq11, PB11⟩ := q11
            have N11 := Fr.app N_s137 Nq11
            refine own_by st11 ?_
            show own_Go p.tables e below s _ _ _ (T11.setTop (mkF m 147 #[.val (.long p0), .second, .val (.int qa), .val (.int qb), .val (.int qc), .val (.int qm), .val (.int w0), .val (.int w1), .val (.int w2), .val (.int t0), .val (.int t1), .val (.int t2), .val (.int (own_i n)), .val (.int z13), .val (.ref b1), .unset, .unset, .unset, .unset, .unset, .unset, .unset, .unset, .unset] []))
            have L11 : own_L Z n0 b1 ta wa T11.heap (n - 1) (own_T3 t0 t1 t2) (own_T3 w0 w1 w2) := ⟨_, _, PB11, fun j hj => Ho10 j (by omega)⟩
            exact s147 T11 _ (X11.more (by decide) (by decide)) N11 Zq11 (by rw [if_neg hc139_9]; exact L11)
        refine own_by (fun _ kz => XS.iload X_s122.here hx rfl (hb hby at_122) rfl kz) ?_
        show own_Go p.tables e below s _ _ _ (T_s122.setTop (mkF m 124 #[.val (.long p0), .second, .val (.int qa), .val (.int qb), .val (.int qc), .val (.int qm), .val (.int w0), .val (.int w1), .val (.int w2), .val (.int t0), .val (.int t1), .val (.int t2), .val (.int (own_i n)), .val (.int z13), .val (.ref b1), .unset, .unset, .unset, .unset, .unset, .unset, .unset, .unset, .unset] [(.int (own_i n))]))
        refine own_by (fun _ kz => XS.iconst X_s122.here hx rfl (hb hby at_124) kz) ?_
        show own_Go p.tables e below s _ _ _ (T_s122.setTop (mkF m 125 #[.val (.long p0), .second, .val (.int qa), .val (.int qb), .val (.int qc), .val (.int qm), .val (.int w0), .val (.int w1), .val (.int w2), .val (.int t0), .val (.int t1), .val (.int t2), .val (.int (own_i n)), .val (.int z13), .val (.ref b1), .unset, .unset, .unset, .unset, .unset, .unset, .unset, .unset, .unset] [(.int (3 : Int32)), (.int (own_i n))]))
        by_cases hc125_12 : (own_i n) < (3 : Int32)
        · refine own_by (fun _ kz => XS.icmpYes X_s122.here hx rfl (pc0 := 125) (pc' := 137) rfl (hb hby at_125) rfl (tlt hc125_12).1 (by decide) (by decide) kz) ?_
          show own_Go p.tables e below s _ _ _ (T_s122.setTop (mkF m 137 #[.val (.long p0), .second, .val (.int qa), .val (.int qb), .val (.int qc), .val (.int qm), .val (.int w0), .val (.int w1), .val (.int w2), .val (.int t0), .val (.int t1), .val (.int t2), .val (.int (own_i n)), .val (.int z13), .val (.ref b1), .unset, .unset, .unset, .unset, .unset, .unset, .unset, .unset, .unset] []))
          exact s137 T_s122 _ (X_s122.more (by decide) (by decide)) N_s122 Z_s122 (by have q := (own_i_lt n (by omega) 3 (by omega)).mp hc125_12; rw [show n = (min n 2) by omega]; exact L_s122)
        · refine own_by (fun _ kz => XS.icmpNo X_s122.here hx rfl (hb hby at_125) rfl (flt hc125_12).1 kz) ?_
          show own_Go p.tables e below s _ _ _ (T_s122.setTop (mkF m 128 #[.val (.long p0), .second, .val (.int qa), .val (.int qb), .val (.int qc), .val (.int qm), .val (.int w0), .val (.int w1), .val (.int w2), .val (.int t0), .val (.int t1), .val (.int t2), .val (.int (own_i n)), .val (.int z13), .val (.ref b1), .unset, .unset, .unset, .unset, .unset, .unset, .unset, .unset, .unset] []))
          refine own_by (fun _ kz => XS.aload X_s122.here hx rfl (hb hby at_128) rfl rfl kz) ?_
          show own_Go p.tables e below s _ _ _ (T_s122.setTop (mkF m 130 #[.val (.long p0), .second, .val (.int qa), .val (.int qb), .val (.int qc), .val (.int qm), .val (.int w0), .val (.int w1), .val (.int w2), .val (.int t0), .val (.int t1), .val (.int t2), .val (.int (own_i n)), .val (.int z13), .val (.ref b1), .unset, .unset, .unset, .unset, .unset, .unset, .unset, .unset, .unset] [(.ref b1)]))
          refine own_by (fun _ kz => XS.iload X_s122.here hx rfl (hb hby at_130) rfl kz) ?_
          show own_Go p.tables e below s _ _ _ (T_s122.setTop (mkF m 132 #[.val (.long p0), .second, .val (.int qa), .val (.int qb), .val (.int qc), .val (.int qm), .val (.int w0), .val (.int w1), .val (.int w2), .val (.int t0), .val (.int t1), .val (.int t2), .val (.int (own_i n)), .val (.int z13), .val (.ref b1), .unset, .unset, .unset, .unset, .unset, .unset, .unset, .unset, .unset] [(.int t2), (.ref b1)]))
          refine own_by (fun _ kz => XS.iload X_s122.here hx rfl (hb hby at_132) rfl kz) ?_
          show own_Go p.tables e below s _ _ _ (T_s122.setTop (mkF m 134 #[.val (.long p0), .second, .val (.int qa), .val (.int qb), .val (.int qc), .val (.int qm), .val (.int w0), .val (.int w1), .val (.int w2), .val (.int t0), .val (.int t1), .val (.int t2), .val (.int (own_i n)), .val (.int z13), .val (.ref b1), .unset, .unset, .unset, .unset, .unset, .unset, .unset, .unset, .unset] [(.int w2), (.int t2), (.ref b1)]))
          have qn : ¬ n < 3 := fun u => hc125_12 ((own_i_lt n (by omega) 3 (by omega)).mpr u)
          obtain ⟨ts13, us13, PBo13, Ho13⟩ := L_s122
          have ed13 : (min n 2) = 2 := by omega
          rw [ed13] at PBo13 Ho13
          obtain ⟨v14, T14, L14, X14, q14, st14⟩ := own_callV X_s122 hx hZ hown (hw _ (List.mem_of_getElem? (i := 14) rfl)) (hw _ (List.mem_of_getElem? (i := 15) rfl)) (hw _ (List.mem_of_getElem? (i := 17) rfl)) (hw _ (List.mem_of_getElem? (i := 16) rfl)) (hw _ (List.mem_of_getElem? (i := 2) rfl)) (hw _ (List.mem_of_getElem? (i := 18) rfl)) (by decide) (rm3 l Z a0 hw [] b1 t2 w2 T_s122.heap n0 Z_s122 ta wa 2 ts13 us13 PBo13 (by decide)) (W := 0) (by decide) (by decide) rfl PBo13.exa (g := (mkF m 134 #[.val (.long p0), .second, .val (.int qa), .val (.int qb), .val (.int qc), .val (.int qm), .val (.int w0), .val (.int w1), .val (.int w2), .val (.int t0), .val (.int t1), .val (.int t2), .val (.int (own_i n)), .val (.int z13), .val (.ref b1), .unset, .unset, .unset, .unset, .unset, .unset, .unset, .unset, .unset] [(.int w2), (.int t2), (.ref b1)])) rfl (by rw [hml]; rfl) (argsL := [(.int t2), (.int w2)]) (rest := []) (lenOf pd_3 rfl) rfl rfl (by show 2 * 0 + _ ≤ _; exact Nat.le_of_eq rfl) (hb hby at_134) (by decide) (by decide)
          obtain ⟨rfl, Nq14, Zq14, PB14⟩ := q14
          have N14 := Fr.app N_s122 Nq14
          refine own_by st14 ?_
          show own_Go p.tables e below s _ _ _ (T14.setTop (mkF m 137 #[.val (.long p0), .second, .val (.int qa), .val (.int qb), .val (.int qc), .val (.int qm), .val (.int w0), .val (.int w1), .val (.int w2), .val (.int t0), .val (.int t1), .val (.int t2), .val (.int (own_i n)), .val (.int z13), .val (.ref b1), .unset, .unset, .unset, .unset, .unset, .unset, .unset, .unset, .unset] []))
          have L14 : own_L Z n0 b1 ta wa T14.heap 3 (own_T3 t0 t1 t2) (own_T3 w0 w1 w2) := own_L.enter PBo13 Ho13 (by decide) rfl rfl PB14
          exact s137 T14 _ (X14.more (by decide) (by decide)) N14 Zq14 (by have q : ¬ n < 3 := fun u => hc125_12 ((own_i_lt n (by omega) 3 (by omega)).mpr u); rw [show n = 3 by omega]; exact L14)
      refine own_by (fun _ kz => XS.iload X_s107.here hx rfl (hb hby at_107) rfl kz) ?_
      show own_Go p.tables e below s _ _ _ (T_s107.setTop (mkF m 109 #[.val (.long p0), .second, .val (.int qa), .val (.int qb), .val (.int qc), .val (.int qm), .val (.int w0), .val (.int w1), .val (.int w2), .val (.int t0), .val (.int t1), .val (.int t2), .val (.int (own_i n)), .val (.int z13), .val (.ref b1), .unset, .unset, .unset, .unset, .unset, .unset, .unset, .unset, .unset] [(.int (own_i n))]))
      refine own_by (fun _ kz => XS.iconst X_s107.here hx rfl (hb hby at_109) kz) ?_
      show own_Go p.tables e below s _ _ _ (T_s107.setTop (mkF m 110 #[.val (.long p0), .second, .val (.int qa), .val (.int qb), .val (.int qc), .val (.int qm), .val (.int w0), .val (.int w1), .val (.int w2), .val (.int t0), .val (.int t1), .val (.int t2), .val (.int (own_i n)), .val (.int z13), .val (.ref b1), .unset, .unset, .unset, .unset, .unset, .unset, .unset, .unset, .unset] [(.int (2 : Int32)), (.int (own_i n))]))
      by_cases hc110_15 : (own_i n) < (2 : Int32)
      · refine own_by (fun _ kz => XS.icmpYes X_s107.here hx rfl (pc0 := 110) (pc' := 122) rfl (hb hby at_110) rfl (tlt hc110_15).1 (by decide) (by decide) kz) ?_
        show own_Go p.tables e below s _ _ _ (T_s107.setTop (mkF m 122 #[.val (.long p0), .second, .val (.int qa), .val (.int qb), .val (.int qc), .val (.int qm), .val (.int w0), .val (.int w1), .val (.int w2), .val (.int t0), .val (.int t1), .val (.int t2), .val (.int (own_i n)), .val (.int z13), .val (.ref b1), .unset, .unset, .unset, .unset, .unset, .unset, .unset, .unset, .unset] []))
        exact s122 T_s107 _ (X_s107.more (by decide) (by decide)) N_s107 Z_s107 (by have q := (own_i_lt n (by omega) 2 (by omega)).mp hc110_15; rw [show (min n 2) = (min n 1) by omega]; exact L_s107)
      · refine own_by (fun _ kz => XS.icmpNo X_s107.here hx rfl (hb hby at_110) rfl (flt hc110_15).1 kz) ?_
        show own_Go p.tables e below s _ _ _ (T_s107.setTop (mkF m 113 #[.val (.long p0), .second, .val (.int qa), .val (.int qb), .val (.int qc), .val (.int qm), .val (.int w0), .val (.int w1), .val (.int w2), .val (.int t0), .val (.int t1), .val (.int t2), .val (.int (own_i n)), .val (.int z13), .val (.ref b1), .unset, .unset, .unset, .unset, .unset, .unset, .unset, .unset, .unset] []))
        refine own_by (fun _ kz => XS.aload X_s107.here hx rfl (hb hby at_113) rfl rfl kz) ?_
        show own_Go p.tables e below s _ _ _ (T_s107.setTop (mkF m 115 #[.val (.long p0), .second, .val (.int qa), .val (.int qb), .val (.int qc), .val (.int qm), .val (.int w0), .val (.int w1), .val (.int w2), .val (.int t0), .val (.int t1), .val (.int t2), .val (.int (own_i n)), .val (.int z13), .val (.ref b1), .unset, .unset, .unset, .unset, .unset, .unset, .unset, .unset, .unset] [(.ref b1)]))
        refine own_by (fun _ kz => XS.iload X_s107.here hx rfl (hb hby at_115) rfl kz) ?_
        show own_Go p.tables e below s _ _ _ (T_s107.setTop (mkF m 117 #[.val (.long p0), .second, .val (.int qa), .val (.int qb), .val (.int qc), .val (.int qm), .val (.int w0), .val (.int w1), .val (.int w2), .val (.int t0), .val (.int t1), .val (.int t2), .val (.int (own_i n)), .val (.int z13), .val (.ref b1), .unset, .unset, .unset, .unset, .unset, .unset, .unset, .unset, .unset] [(.int t1), (.ref b1)]))
        refine own_by (fun _ kz => XS.iload X_s107.here hx rfl (hb hby at_117) rfl kz) ?_
        show own_Go p.tables e below s _ _ _ (T_s107.setTop (mkF m 119 #[.val (.long p0), .second, .val (.int qa), .val (.int qb), .val (.int qc), .val (.int qm), .val (.int w0), .val (.int w1), .val (.int w2), .val (.int t0), .val (.int t1), .val (.int t2), .val (.int (own_i n)), .val (.int z13), .val (.ref b1), .unset, .unset, .unset, .unset, .unset, .unset, .unset, .unset, .unset] [(.int w1), (.int t1), (.ref b1)]))
        have qn : ¬ n < 2 := fun u => hc110_15 ((own_i_lt n (by omega) 2 (by omega)).mpr u)
        obtain ⟨ts16, us16, PBo16, Ho16⟩ := L_s107
        have ed16 : (min n 1) = 1 := by omega
        rw [ed16] at PBo16 Ho16
        obtain ⟨v17, T17, L17, X17, q17, st17⟩ := own_callV X_s107 hx hZ hown (hw _ (List.mem_of_getElem? (i := 14) rfl)) (hw _ (List.mem_of_getElem? (i := 15) rfl)) (hw _ (List.mem_of_getElem? (i := 17) rfl)) (hw _ (List.mem_of_getElem? (i := 16) rfl)) (hw _ (List.mem_of_getElem? (i := 2) rfl)) (hw _ (List.mem_of_getElem? (i := 18) rfl)) (by decide) (rm3 l Z a0 hw [] b1 t1 w1 T_s107.heap n0 Z_s107 ta wa 1 ts16 us16 PBo16 (by decide)) (W := 0) (by decide) (by decide) rfl PBo16.exa (g := (mkF m 119 #[.val (.long p0), .second, .val (.int qa), .val (.int qb), .val (.int qc), .val (.int qm), .val (.int w0), .val (.int w1), .val (.int w2), .val (.int t0), .val (.int t1), .val (.int t2), .val (.int (own_i n)), .val (.int z13), .val (.ref b1), .unset, .unset, .unset, .unset, .unset, .unset, .unset, .unset, .unset] [(.int w1), (.int t1), (.ref b1)])) rfl (by rw [hml]; rfl) (argsL := [(.int t1), (.int w1)]) (rest := []) (lenOf pd_3 rfl) rfl rfl (by show 2 * 0 + _ ≤ _; exact Nat.le_of_eq rfl) (hb hby at_119) (by decide) (by decide)
        obtain ⟨rfl, Nq17, Zq17, PB17⟩ := q17
        have N17 := Fr.app N_s107 Nq17
        refine own_by st17 ?_
        show own_Go p.tables e below s _ _ _ (T17.setTop (mkF m 122 #[.val (.long p0), .second, .val (.int qa), .val (.int qb), .val (.int qc), .val (.int qm), .val (.int w0), .val (.int w1), .val (.int w2), .val (.int t0), .val (.int t1), .val (.int t2), .val (.int (own_i n)), .val (.int z13), .val (.ref b1), .unset, .unset, .unset, .unset, .unset, .unset, .unset, .unset, .unset] []))
        have L17 : own_L Z n0 b1 ta wa T17.heap 2 (own_T3 t0 t1 t2) (own_T3 w0 w1 w2) := own_L.enter PBo16 Ho16 (by decide) rfl rfl PB17
        exact s122 T17 _ (X17.more (by decide) (by decide)) N17 Zq17 (by have q : ¬ n < 2 := fun u => hc110_15 ((own_i_lt n (by omega) 2 (by omega)).mpr u); rw [show (min n 2) = 2 by omega]; exact L17)
    refine own_by (fun _ kz => XS.iload X2.here hx rfl (hb hby at_92) rfl kz) ?_
    show own_Go p.tables e below s _ _ _ (T2.setTop (mkF m 94 #[.val (.long p0), .second, .val (.int qa), .val (.int qb), .val (.int qc), .val (.int qm), .val (.int w0), .val (.int w1), .val (.int w2), .val (.int t0), .val (.int t1), .val (.int t2), .val (.int (own_i n)), .val (.int z13), .val (.ref b1), .unset, .unset, .unset, .unset, .unset, .unset, .unset, .unset, .unset] [(.int (own_i n))]))
    refine own_by (fun _ kz => XS.iconst X2.here hx rfl (hb hby at_94) kz) ?_
    show own_Go p.tables e below s _ _ _ (T2.setTop (mkF m 95 #[.val (.long p0), .second, .val (.int qa), .val (.int qb), .val (.int qc), .val (.int qm), .val (.int w0), .val (.int w1), .val (.int w2), .val (.int t0), .val (.int t1), .val (.int t2), .val (.int (own_i n)), .val (.int z13), .val (.ref b1), .unset, .unset, .unset, .unset, .unset, .unset, .unset, .unset, .unset] [(.int (1 : Int32)), (.int (own_i n))]))
    by_cases hc95_18 : (own_i n) < (1 : Int32)
    · refine own_by (fun _ kz => XS.icmpYes X2.here hx rfl (pc0 := 95) (pc' := 107) rfl (hb hby at_95) rfl (tlt hc95_18).1 (by decide) (by decide) kz) ?_
      show own_Go p.tables e below s _ _ _ (T2.setTop (mkF m 107 #[.val (.long p0), .second, .val (.int qa), .val (.int qb), .val (.int qc), .val (.int qm), .val (.int w0), .val (.int w1), .val (.int w2), .val (.int t0), .val (.int t1), .val (.int t2), .val (.int (own_i n)), .val (.int z13), .val (.ref b1), .unset, .unset, .unset, .unset, .unset, .unset, .unset, .unset, .unset] []))
      exact s107 T2 _ (X2.more (by decide) (by decide)) N2 Zq2 (by have q := (own_i_lt n (by omega) 1 (by omega)).mp hc95_18; rw [show (min n 1) = 0 by omega]; exact L0)
    · refine own_by (fun _ kz => XS.icmpNo X2.here hx rfl (hb hby at_95) rfl (flt hc95_18).1 kz) ?_
      show own_Go p.tables e below s _ _ _ (T2.setTop (mkF m 98 #[.val (.long p0), .second, .val (.int qa), .val (.int qb), .val (.int qc), .val (.int qm), .val (.int w0), .val (.int w1), .val (.int w2), .val (.int t0), .val (.int t1), .val (.int t2), .val (.int (own_i n)), .val (.int z13), .val (.ref b1), .unset, .unset, .unset, .unset, .unset, .unset, .unset, .unset, .unset] []))
      refine own_by (fun _ kz => XS.aload X2.here hx rfl (hb hby at_98) rfl rfl kz) ?_
      show own_Go p.tables e below s _ _ _ (T2.setTop (mkF m 100 #[.val (.long p0), .second, .val (.int qa), .val (.int qb), .val (.int qc), .val (.int qm), .val (.int w0), .val (.int w1), .val (.int w2), .val (.int t0), .val (.int t1), .val (.int t2), .val (.int (own_i n)), .val (.int z13), .val (.ref b1), .unset, .unset, .unset, .unset, .unset, .unset, .unset, .unset, .unset] [(.ref b1)]))
      refine own_by (fun _ kz => XS.iload X2.here hx rfl (hb hby at_100) rfl kz) ?_
      show own_Go p.tables e below s _ _ _ (T2.setTop (mkF m 102 #[.val (.long p0), .second, .val (.int qa), .val (.int qb), .val (.int qc), .val (.int qm), .val (.int w0), .val (.int w1), .val (.int w2), .val (.int t0), .val (.int t1), .val (.int t2), .val (.int (own_i n)), .val (.int z13), .val (.ref b1), .unset, .unset, .unset, .unset, .unset, .unset, .unset, .unset, .unset] [(.int t0), (.ref b1)]))
      refine own_by (fun _ kz => XS.iload X2.here hx rfl (hb hby at_102) rfl kz) ?_
      show own_Go p.tables e below s _ _ _ (T2.setTop (mkF m 104 #[.val (.long p0), .second, .val (.int qa), .val (.int qb), .val (.int qc), .val (.int qm), .val (.int w0), .val (.int w1), .val (.int w2), .val (.int t0), .val (.int t1), .val (.int t2), .val (.int (own_i n)), .val (.int z13), .val (.ref b1), .unset, .unset, .unset, .unset, .unset, .unset, .unset, .unset, .unset] [(.int w0), (.int t0), (.ref b1)]))
      have qn : ¬ n < 1 := fun u => hc95_18 ((own_i_lt n (by omega) 1 (by omega)).mpr u)
      obtain ⟨ts19, us19, PBo19, Ho19⟩ := L0
      have ed19 : 0 = 0 := by omega
      obtain ⟨v20, T20, L20, X20, q20, st20⟩ := own_callV X2 hx hZ hown (hw _ (List.mem_of_getElem? (i := 14) rfl)) (hw _ (List.mem_of_getElem? (i := 15) rfl)) (hw _ (List.mem_of_getElem? (i := 17) rfl)) (hw _ (List.mem_of_getElem? (i := 16) rfl)) (hw _ (List.mem_of_getElem? (i := 2) rfl)) (hw _ (List.mem_of_getElem? (i := 18) rfl)) (by decide) (rm3 l Z a0 hw [] b1 t0 w0 T2.heap n0 Zq2 ta wa 0 ts19 us19 PBo19 (by decide)) (W := 0) (by decide) (by decide) rfl PBo19.exa (g := (mkF m 104 #[.val (.long p0), .second, .val (.int qa), .val (.int qb), .val (.int qc), .val (.int qm), .val (.int w0), .val (.int w1), .val (.int w2), .val (.int t0), .val (.int t1), .val (.int t2), .val (.int (own_i n)), .val (.int z13), .val (.ref b1), .unset, .unset, .unset, .unset, .unset, .unset, .unset, .unset, .unset] [(.int w0), (.int t0), (.ref b1)])) rfl (by rw [hml]; rfl) (argsL := [(.int t0), (.int w0)]) (rest := []) (lenOf pd_3 rfl) rfl rfl (by show 2 * 0 + _ ≤ _; exact Nat.le_of_eq rfl) (hb hby at_104) (by decide) (by decide)
      obtain ⟨rfl, Nq20, Zq20, PB20⟩ := q20
      have N20 := Fr.app N2 Nq20
      refine own_by st20 ?_
      show own_Go p.tables e below s _ _ _ (T20.setTop (mkF m 107 #[.val (.long p0), .second, .val (.int qa), .val (.int qb), .val (.int qc), .val (.int qm), .val (.int w0), .val (.int w1), .val (.int w2), .val (.int t0), .val (.int t1), .val (.int t2), .val (.int (own_i n)), .val (.int z13), .val (.ref b1), .unset, .unset, .unset, .unset, .unset, .unset, .unset, .unset, .unset] []))
      have L20 : own_L Z n0 b1 ta wa T20.heap 1 (own_T3 t0 t1 t2) (own_T3 w0 w1 w2) := own_L.enter PBo19 Ho19 (by decide) rfl rfl PB20
      exact s107 T20 _ (X20.more (by decide) (by decide)) N20 Zq20 (by have q : ¬ n < 1 := fun u => hc95_18 ((own_i_lt n (by omega) 1 (by omega)).mpr u); rw [show (min n 1) = 1 by omega]; exact L20)
  refine own_by (fun _ kz => XS.iload X0.here hx rfl (hb hby at_62) rfl kz) ?_
  show own_Go p.tables e below s _ _ _ (s₁.setTop (mkF m 64 #[.val (.long p0), .second, .val (.int qa), .val (.int qb), .val (.int qc), .val (.int qm), .val (.int w0), .val (.int w1), .val (.int w2), .val (.int t0), .val (.int t1), .val (.int t2), .val (.int (own_i n)), .unset, .unset, .unset, .unset, .unset, .unset, .unset, .unset, .unset, .unset, .unset] [(.int qm)]))
  refine own_by (fun _ kz => XS.iconst X0.here hx rfl (hb hby at_64) kz) ?_
  show own_Go p.tables e below s _ _ _ (s₁.setTop (mkF m 65 #[.val (.long p0), .second, .val (.int qa), .val (.int qb), .val (.int qc), .val (.int qm), .val (.int w0), .val (.int w1), .val (.int w2), .val (.int t0), .val (.int t1), .val (.int t2), .val (.int (own_i n)), .unset, .unset, .unset, .unset, .unset, .unset, .unset, .unset, .unset, .unset, .unset] [(.int (2 : Int32)), (.int qm)]))
  refine own_by (fun _ kz => XS.iushr X0.here hx rfl (hb hby at_65) rfl kz) ?_
  show own_Go p.tables e below s _ _ _ (s₁.setTop (mkF m 66 #[.val (.long p0), .second, .val (.int qa), .val (.int qb), .val (.int qc), .val (.int qm), .val (.int w0), .val (.int w1), .val (.int w2), .val (.int t0), .val (.int t1), .val (.int t2), .val (.int (own_i n)), .unset, .unset, .unset, .unset, .unset, .unset, .unset, .unset, .unset, .unset, .unset] [(.int (own_sri qm (2 : Int32)))]))
  refine own_by (fun _ kz => XS.iconst X0.here hx rfl (hb hby at_66) kz) ?_
  show own_Go p.tables e below s _ _ _ (s₁.setTop (mkF m 67 #[.val (.long p0), .second, .val (.int qa), .val (.int qb), .val (.int qc), .val (.int qm), .val (.int w0), .val (.int w1), .val (.int w2), .val (.int t0), .val (.int t1), .val (.int t2), .val (.int (own_i n)), .unset, .unset, .unset, .unset, .unset, .unset, .unset, .unset, .unset, .unset, .unset] [(.int (1 : Int32)), (.int (own_sri qm (2 : Int32)))]))
  refine own_by (fun _ kz => XS.iand X0.here hx rfl (hb hby at_67) rfl kz) ?_
  show own_Go p.tables e below s _ _ _ (s₁.setTop (mkF m 68 #[.val (.long p0), .second, .val (.int qa), .val (.int qb), .val (.int qc), .val (.int qm), .val (.int w0), .val (.int w1), .val (.int w2), .val (.int t0), .val (.int t1), .val (.int t2), .val (.int (own_i n)), .unset, .unset, .unset, .unset, .unset, .unset, .unset, .unset, .unset, .unset, .unset] [(.int ((own_sri qm (2 : Int32)) &&& (1 : Int32)))]))
  by_cases hc68_21 : ((own_sri qm (2 : Int32)) &&& (1 : Int32)) = (0 : Int32)
  · refine own_by (fun _ kz => XS.ifYes X0.here hx rfl (pc0 := 68) (pc' := 80) rfl (hb hby at_68) rfl ((if0 _ _).trans (teq hc68_21).1) (by decide) (by decide) kz) ?_
    show own_Go p.tables e below s _ _ _ (s₁.setTop (mkF m 80 #[.val (.long p0), .second, .val (.int qa), .val (.int qb), .val (.int qc), .val (.int qm), .val (.int w0), .val (.int w1), .val (.int w2), .val (.int t0), .val (.int t1), .val (.int t2), .val (.int (own_i n)), .unset, .unset, .unset, .unset, .unset, .unset, .unset, .unset, .unset, .unset, .unset] []))
    refine own_by (fun _ kz => XS.iconst X0.here hx rfl (hb hby at_80) kz) ?_
    show own_Go p.tables e below s _ _ _ (s₁.setTop (mkF m 81 #[.val (.long p0), .second, .val (.int qa), .val (.int qb), .val (.int qc), .val (.int qm), .val (.int w0), .val (.int w1), .val (.int w2), .val (.int t0), .val (.int t1), .val (.int t2), .val (.int (own_i n)), .unset, .unset, .unset, .unset, .unset, .unset, .unset, .unset, .unset, .unset, .unset] [(.int (0 : Int32))]))
    exact j81 _ (Or.inl rfl)
  · refine own_by (fun _ kz => XS.ifNo X0.here hx rfl (hb hby at_68) rfl ((if0 _ _).trans (feq hc68_21).1) kz) ?_
    show own_Go p.tables e below s _ _ _ (s₁.setTop (mkF m 71 #[.val (.long p0), .second, .val (.int qa), .val (.int qb), .val (.int qc), .val (.int qm), .val (.int w0), .val (.int w1), .val (.int w2), .val (.int t0), .val (.int t1), .val (.int t2), .val (.int (own_i n)), .unset, .unset, .unset, .unset, .unset, .unset, .unset, .unset, .unset, .unset, .unset] []))
    refine own_by (fun _ kz => XS.iload X0.here hx rfl (hb hby at_71) rfl kz) ?_
    show own_Go p.tables e below s _ _ _ (s₁.setTop (mkF m 73 #[.val (.long p0), .second, .val (.int qa), .val (.int qb), .val (.int qc), .val (.int qm), .val (.int w0), .val (.int w1), .val (.int w2), .val (.int t0), .val (.int t1), .val (.int t2), .val (.int (own_i n)), .unset, .unset, .unset, .unset, .unset, .unset, .unset, .unset, .unset, .unset, .unset] [(.int (own_i n))]))
    by_cases hc73_22 : (0 : Int32) < (own_i n)
    · refine own_by (fun _ kz => XS.ifNo X0.here hx rfl (hb hby at_73) rfl ((if0 _ _).trans (tlt hc73_22).2.2.2) kz) ?_
      show own_Go p.tables e below s _ _ _ (s₁.setTop (mkF m 76 #[.val (.long p0), .second, .val (.int qa), .val (.int qb), .val (.int qc), .val (.int qm), .val (.int w0), .val (.int w1), .val (.int w2), .val (.int t0), .val (.int t1), .val (.int t2), .val (.int (own_i n)), .unset, .unset, .unset, .unset, .unset, .unset, .unset, .unset, .unset, .unset, .unset] []))
      refine own_by (fun _ kz => XS.iconst X0.here hx rfl (hb hby at_76) kz) ?_
      show own_Go p.tables e below s _ _ _ (s₁.setTop (mkF m 77 #[.val (.long p0), .second, .val (.int qa), .val (.int qb), .val (.int qc), .val (.int qm), .val (.int w0), .val (.int w1), .val (.int w2), .val (.int t0), .val (.int t1), .val (.int t2), .val (.int (own_i n)), .unset, .unset, .unset, .unset, .unset, .unset, .unset, .unset, .unset, .unset, .unset] [(.int (1 : Int32))]))
      refine own_by (fun _ kz => XS.goto X0.here hx rfl (pc0 := 77) (pc' := 81) rfl (hb hby at_77) (by decide) (by decide) kz) ?_
      show own_Go p.tables e below s _ _ _ (s₁.setTop (mkF m 81 #[.val (.long p0), .second, .val (.int qa), .val (.int qb), .val (.int qc), .val (.int qm), .val (.int w0), .val (.int w1), .val (.int w2), .val (.int t0), .val (.int t1), .val (.int t2), .val (.int (own_i n)), .unset, .unset, .unset, .unset, .unset, .unset, .unset, .unset, .unset, .unset, .unset] [(.int (1 : Int32))]))
      exact j81 _ (Or.inr ⟨by decide, (own_i_lt 0 (by omega) n (by omega)).mp hc73_22⟩)
    · refine own_by (fun _ kz => XS.ifYes X0.here hx rfl (pc0 := 73) (pc' := 80) rfl (hb hby at_73) rfl ((if0 _ _).trans (flt hc73_22).2.2.2) (by decide) (by decide) kz) ?_
      show own_Go p.tables e below s _ _ _ (s₁.setTop (mkF m 80 #[.val (.long p0), .second, .val (.int qa), .val (.int qb), .val (.int qc), .val (.int qm), .val (.int w0), .val (.int w1), .val (.int w2), .val (.int t0), .val (.int t1), .val (.int t2), .val (.int (own_i n)), .unset, .unset, .unset, .unset, .unset, .unset, .unset, .unset, .unset, .unset, .unset] []))
      refine own_by (fun _ kz => XS.iconst X0.here hx rfl (hb hby at_80) kz) ?_
      show own_Go p.tables e below s _ _ _ (s₁.setTop (mkF m 81 #[.val (.long p0), .second, .val (.int qa), .val (.int qb), .val (.int qc), .val (.int qm), .val (.int w0), .val (.int w1), .val (.int w2), .val (.int t0), .val (.int t1), .val (.int t2), .val (.int (own_i n)), .unset, .unset, .unset, .unset, .unset, .unset, .unset, .unset, .unset, .unset, .unset] [(.int (0 : Int32))]))
      exact j81 _ (Or.inl rfl)
set_option maxRecDepth 65536 in
set_option maxHeartbeats 40000000 in
theorem comes_1 {Post : Tables → Env → Array Value → State → Outcome → State → Prop} (hpost : ∀ tb e args s v u, (limb_1_1.after args s (.returned v) u = true ∧ limb_1_2.after args s (.returned v) u = true ∧ True) → FrameEnd s (.returned v) u (Jvm.fieldLocs frame_1_writes args s ++ Jvm.arrayLocs frame_1_arrays args s ++ Jvm.staticLocs frame_1_statics s) 16 192 → Post tb e args s (.returned v) u) :
    ArmFor flags0 classFile x code maxLocals ret World_1 tables_1 room_1 Calls_1 rest_1 Pre_1 Post := by
  intro l hfl _ _ p e ha hc hk s m args below hf hA hF happ hP
  obtain ⟨hcalls, hrest, hpre⟩ := hP
  obtain ⟨-, -, -, hnamed, -, -, -, hat⟩ := (Spec.applies_iff hf).mp happ
  obtain ⟨hg, hn⟩ := and_e (Cond.before_iff.mp (show (Jvm.Cond.and given_1 narrow_1).before args s = true from hpre))
  obtain ⟨hcount, hr0⟩ := and_e hg
  obtain ⟨ha0, hr1⟩ := and_e hr0
  obtain ⟨ha1, hr2⟩ := and_e hr1
  obtain ⟨ha2, hr3⟩ := and_e hr2
  obtain ⟨ha3, hr4⟩ := and_e hr3
  obtain ⟨w0, w1, w2, w3, w4, rfl⟩ : ∃ w0 w1 w2 w3 w4 : Value, args = #[w0, w1, w2, w3, w4] := by
    have hs : args.size = 5 := by simpa [Cond.value, given_1] using hcount
    obtain ⟨L⟩ := args
    match L, hs with
    | [w0, w1, w2, w3, w4], _ => exact ⟨w0, w1, w2, w3, w4, rfl⟩
  have hw := fun d (hd : d ∈ tables_1) => atoms_spec (ws := Jvm.Cond.code x code maxLocals ret :: tables_1) hat d (List.mem_cons_of_mem _ hd)
  obtain ⟨i0, ev0⟩ := isL_v ha0
  obtain rfl : w0 = (.long i0) := Option.some.inj ev0
  obtain ⟨i1, ev1⟩ := is_v ha1
  obtain rfl : w1 = (.int i1) := Option.some.inj ev1
  obtain ⟨i2, ev2⟩ := is_v ha2
  obtain rfl : w2 = (.int i2) := Option.some.inj ev2
  obtain ⟨i3, ev3⟩ := is_v ha3
  obtain rfl : w3 = (.int i3) := Option.some.inj ev3
  obtain ⟨i4, ev4⟩ := is_v hr4
  obtain rfl : w4 = (.int i4) := Option.some.inj ev4
  obtain ⟨n, o, h1, h2, h3, _, L, rfl, ⟨rfl, N⟩, hq⟩ := rm0 l s _ hw tables_1 i0 i1 i2 i3 i4 s.heap s.heap.size (Nat.le_refl _) p e ha hc hk s m _ below hf ((Spec.applies_iff_loose hf).mp happ).1 ⟨rfl, State.Warmed39.refl s, rfl⟩ trivial
  refine ⟨n, _, h1, h2, h3, hpost _ _ _ _ _ _ ⟨Cond.after_iff.mpr rfl, Cond.after_iff.mpr (eq_i res_at (Term.int_eval (1)) rfl), trivial⟩ ⟨hq.1, hq.2.1, (hq.2.2.sift fun y hy => Or.inr (N y hy)).mono (by decide) (by decide)⟩⟩
theorem main_1_1 : Claimed_1_1 := comes_1 fun _ _ _ _ _ _ h hF => ⟨h.1, hF⟩
theorem main_1_2 : Claimed_1_2 := comes_1 fun _ _ _ _ _ _ h hF => ⟨h.2.1, hF⟩
end Jvm.Pilot.@@N@@
namespace Jvm.Pilot.@@N@@
open Jvm Jvm.ClassFile Sem Op Lib Jvm.Free Jvm.Stand Jvm.Pilot.@@N@@.Jvm.D
/-! MADE BY PROGRAM (witnessworld.py) out of the Statement's table words and the real class files: 9 classes; the members and pool entries that the words name. The judged class is class 1, her method 1. -/
namespace start1
open Jvm.ClassFile
def u (s : String) : CpInfo := .utf8 (stringToUtf16 s)
/-- a pool by its gaps: so many unusable entries, then the entry; so many at the end -/
def gap : Nat → List CpInfo → List CpInfo
  | 0, r => r
  | n + 1, r => .unusable :: gap n r
def poolList (es : List (Nat × CpInfo)) (last : Nat) : List CpInfo := es.foldr (fun e r => gap e.1 (e.2 :: r)) (gap last [])
def pool (es : List (Nat × CpInfo)) (last : Nat) : Array CpInfo := ⟨poolList es last⟩
def fileOf (pool : Array CpInfo) (this : Nat) (attrs : Array Attribute := #[]) (ms : Array MethodInfo := #[]) (fl : Nat := 33) (sup : Nat := 0) (ifs : Array Nat := #[]) (fds : Array FieldInfo := #[]) : ClassFile where
  minorVersion := 0
  majorVersion := 65
  constantPool := pool
  accessFlags := fl
  thisClass := this
  superClass := sup
  interfaces := ifs
  fields := fds
  methods := ms
  attributes := attrs
def plain (name : String) (sup : Option ClassId) : Class where
  name := name
  kind := .ordinary
  loader := none
  accessFlags := 33
  super := sup
  interfaces := #[]
  cf := none
  fields := #[]
  methods := #[]
  instanceTypes := #[]
  staticTypes := #[]
  resolved := #[]
  callSites := []
  init := .initialized
  statics := none
  mirror := none

def pool0 : Array CpInfo := pool [(5, u "<init>"), (0, u "()V"), (1, .class_ 10), (1, u "java/lang/Object")] 113

def k0c0 : Code := { maxStack := 0, maxLocals := 1, code := object_method_1_code, exceptionTable := #[], attributes := #[] }
def k0m0 : Method := { name := "<init>", desc := "()V", sig := { parameters := [], returnType := none }, accessFlags := 1, code := some k0c0 }
/-- java/lang/Object -/
def k0 : Class := { plain "java/lang/Object" none with
  accessFlags := 33
  interfaces := #[]
  cf := some (fileOf pool0 8 #[] #[{ accessFlags := 1, nameIndex := 5, descriptorIndex := 6, attributes := #[] }] 33 0 #[] #[])
  fields := #[]
  methods := #[k0m0]
  instanceTypes := #[]
  staticTypes := #[]
  resolved := Array.replicate 124 none
  statics := none }

def pool1 : Array CpInfo := pool [(2, .class_ 4), (0, .nameAndType 5 6), (0, u "java/lang/Object"), (0, u "<init>"), (0, u "()V"), (0, .class_ 8), (0, u "com/example/proofhound/proofhound/symbolic/Progress"), (0, .methodref 7 3), (0, .methodref 7 11), (0, .nameAndType 12 13), (0, u "enter"), (0, u "(II)V"), (0, .methodref 7 15), (0, .nameAndType 16 6), (0, u "leave"), (0, .methodref 7 18), (0, .nameAndType 19 20), (0, u "expectedWork"), (0, u "(J)D"), (2, .double 9218868437227405312), (1, .class_ 26), (0, u "com/example/proofhound/proofhound/symbolic/ProgressExpectedWorkPinLaw"), (2, u "law"), (0, u "(JIIII)Z")] 3

def k1m0 : Method := { name := "<init>", desc := "()V", sig := { parameters := [], returnType := none }, accessFlags := 1, code := none }
def k1c1 : Code := { maxStack := 4, maxLocals := 24, code := code, exceptionTable := #[], attributes := #[] }
def k1m1 : Method := { name := "law", desc := "(JIIII)Z", sig := { parameters := [.long, .int, .int, .int, .int], returnType := some .boolean }, accessFlags := 9, code := some k1c1 }
/-- com/example/proofhound/proofhound/symbolic/ProgressExpectedWorkPinLaw -/
def k1 : Class := { plain "com/example/proofhound/proofhound/symbolic/ProgressExpectedWorkPinLaw" (some 0) with
  accessFlags := 49
  interfaces := #[]
  cf := some (fileOf pool1 25 #[] #[{ accessFlags := 1, nameIndex := 5, descriptorIndex := 6, attributes := #[] }, { accessFlags := 9, nameIndex := 29, descriptorIndex := 30, attributes := #[] }] 49 2 #[] #[])
  fields := #[]
  methods := #[k1m0, k1m1]
  instanceTypes := #[]
  staticTypes := #[]
  resolved := Array.replicate 34 none
  statics := none }

def pool2 : Array CpInfo := pool [(1, .methodref 2 3), (0, .class_ 4), (0, .nameAndType 5 6), (0, u "java/lang/Object"), (0, u "<init>"), (0, u "()V"), (0, .fieldref 8 9), (0, .class_ 10), (0, .nameAndType 11 12), (0, u "com/example/proofhound/proofhound/symbolic/Progress"), (0, u "taken"), (0, u "[I"), (0, .fieldref 8 14), (0, .nameAndType 15 12), (0, u "ways"), (0, .fieldref 8 17), (0, .nameAndType 18 19), (0, u "depth"), (0, u "I"), (8, .double 9218868437227405312), (3, u "enter"), (0, u "(II)V"), (1, u "leave"), (0, u "expectedWork"), (0, u "(J)D")] 2

def k2c0 : Code := { maxStack := 2, maxLocals := 1, code := prog_230_method_1_code, exceptionTable := #[], attributes := #[] }
def k2m0 : Method := { name := "<init>", desc := "()V", sig := { parameters := [], returnType := none }, accessFlags := 0, code := some k2c0 }
def k2c1 : Code := { maxStack := 4, maxLocals := 3, code := prog_230_method_2_code, exceptionTable := #[], attributes := #[] }
def k2m1 : Method := { name := "enter", desc := "(II)V", sig := { parameters := [.int, .int], returnType := none }, accessFlags := 0, code := some k2c1 }
def k2c2 : Code := { maxStack := 3, maxLocals := 1, code := prog_230_method_3_code, exceptionTable := #[], attributes := #[] }
def k2m2 : Method := { name := "leave", desc := "()V", sig := { parameters := [], returnType := none }, accessFlags := 0, code := some k2c2 }
def k2c3 : Code := { maxStack := 6, maxLocals := 8, code := prog_230_method_4_code, exceptionTable := #[], attributes := #[] }
def k2m3 : Method := { name := "expectedWork", desc := "(J)D", sig := { parameters := [.long], returnType := some .double }, accessFlags := 0, code := some k2c3 }
/-- com/example/proofhound/proofhound/symbolic/Progress -/
def k2 : Class := { plain "com/example/proofhound/proofhound/symbolic/Progress" (some 0) with
  accessFlags := 48
  interfaces := #[]
  cf := some (fileOf pool2 8 #[] #[{ accessFlags := 0, nameIndex := 5, descriptorIndex := 6, attributes := #[] }, { accessFlags := 0, nameIndex := 32, descriptorIndex := 33, attributes := #[] }, { accessFlags := 0, nameIndex := 35, descriptorIndex := 6, attributes := #[] }, { accessFlags := 0, nameIndex := 36, descriptorIndex := 37, attributes := #[] }] 48 2 #[] #[{ accessFlags := 2, nameIndex := 11, descriptorIndex := 12, attributes := #[] }, { accessFlags := 2, nameIndex := 15, descriptorIndex := 12, attributes := #[] }, { accessFlags := 2, nameIndex := 18, descriptorIndex := 19, attributes := #[] }])
  fields := #[{ name := "taken", type := (.array .int), accessFlags := 2, slot := 0, constantValue := 0 }, { name := "ways", type := (.array .int), accessFlags := 2, slot := 1, constantValue := 0 }, { name := "depth", type := .int, accessFlags := 2, slot := 2, constantValue := 0 }]
  methods := #[k2m0, k2m1, k2m2, k2m3]
  instanceTypes := #[(.array .int), (.array .int), .int]
  staticTypes := #[]
  resolved := Array.replicate 40 none
  statics := none }

def pool3 : Array CpInfo := pool [(1, u "java/lang/Cloneable"), (0, .class_ 1), (0, u "java/lang/Object"), (0, .class_ 3)] 3

/-- java/lang/Cloneable -/
def k3 : Class := { plain "java/lang/Cloneable" (some 0) with
  accessFlags := 1537
  interfaces := #[]
  cf := some (fileOf pool3 2 #[] #[] 1537 4 #[] #[])
  fields := #[]
  methods := #[]
  instanceTypes := #[]
  staticTypes := #[]
  resolved := Array.replicate 8 none
  statics := none }

def pool4 : Array CpInfo := pool [(1, u "java/io/Serializable"), (0, .class_ 1), (0, u "java/lang/Object"), (0, .class_ 3)] 3

/-- java/io/Serializable -/
def k4 : Class := { plain "java/io/Serializable" (some 0) with
  accessFlags := 1537
  interfaces := #[]
  cf := some (fileOf pool4 2 #[] #[] 1537 4 #[] #[])
  fields := #[]
  methods := #[]
  instanceTypes := #[]
  staticTypes := #[]
  resolved := Array.replicate 8 none
  statics := none }

/-- the primitive byte -/
def k5 : Class := { plain "byte" none with kind := .primitive 'B', accessFlags := 0x411 }
/-- [B -/
def k6 : Class := { plain "[B" (some 0) with kind := .array 5 .byte, interfaces := #[3, 4], accessFlags := 1041 }

/-- the primitive int -/
def k7 : Class := { plain "int" none with kind := .primitive 'I', accessFlags := 0x411 }
/-- [I -/
def k8 : Class := { plain "[I" (some 0) with kind := .array 7 .int, interfaces := #[3, 4], accessFlags := 1041 }

def heap : Heap := #[]
def classes : Array Class := #[k0, k1, k2, k3, k4, k5, k6, k7, k8]
def interned : List (Array UInt16 × Addr) := []
def slotsUsed : Nat := 0
def theMethod : MethodId := ⟨1, 1⟩
def args0 : Array Value := #[.long 5, .int 1, .int 2, .int 3, .int 1]
def aboutOver (below : List Frame) : State where
  vm := { classes := classes, interned := interned.toArray }
  heap := heap
  slotsUsed := slotsUsed
  threads := #[{ frames := .invoking theMethod args0 :: below }]
def below0 : List Frame := [.native { method := ⟨0, 0⟩, args := #[] }]
def about1 : State := aboutOver below0
def p0 : Program := .bare "" "" ""
def e0 : Env := launch0.env 0 0 0
theorem w_frames : about1.frames = Frame.invoking theMethod args0 :: below0 := rfl
set_option maxRecDepth 65536 in
theorem w_args : argsFit about1.vm theMethod args0 = true := by decide +kernel
set_option maxRecDepth 65536 in
theorem w_heap : heapFits about1 = true := by decide +kernel
set_option maxRecDepth 65536 in
theorem w_runnable : about1.curStatus? = some .runnable := by decide +kernel
set_option maxRecDepth 65536 in
theorem w_alone : about1.alone = true := by decide +kernel
set_option maxRecDepth 65536 in
theorem w_named : about1.methodNamed? x = some theMethod := by decide +kernel
set_option maxRecDepth 65536 in
theorem w_hears : about1.hears theMethod below0 = true := by decide +kernel
set_option maxRecDepth 65536 in
theorem w_ripe : about1.ripe theMethod args0 below0 = true := by decide +kernel
theorem w_running : about1.status = .running := rfl
set_option maxRecDepth 65536 in
theorem w_room : about1.hasRoom e0.platform room_1 = true :=
  launch0.hasRoom_least _ room_1 (by decide +kernel) (by decide +kernel) (by decide +kernel) (by decide +kernel) (by decide +kernel) (by decide +kernel)
theorem allAtoms_all (ts : List Jvm.Cond) (a : Array Jvm.Value) (st : Jvm.State) : (allAtoms ts).before a st = ts.all (fun c => c.before a st) := by
  induction ts with
  | nil => rfl
  | cons c t ih =>
    show (Jvm.Cond.and c (allAtoms t)).before a st = _
    rw [Jvm.Cond.before_and, ih, List.all_cons]
def words1 : List Jvm.Cond := Jvm.Cond.code x code maxLocals ret :: tables_1
/-- a 'code' word, met by the world's own term for the bytes: nothing is compared byte by byte -/
theorem code_word {y : MethodName} {bytes : ByteArray} {mx : Nat} {rt : Option FieldType} {a : Array Value} {s : State} {m : MethodId} {meth : Method} {c : Code} (h1 : s.methodNamed? y = some m) (h2 : s.vm.method? m = some meth) (h3 : meth.code = some c) (h4 : c.code = bytes)
    (h5 : (c.maxLocals == mx && c.exceptionTable.isEmpty && decide (c.maxStack ≤ mostOperands) && decide (meth.sig.returnType = rt) && !meth.locks && decide (parseMethodDescriptor y.desc = some meth.sig)) = true) : (Jvm.Cond.code y bytes mx rt).before a s = true := by
  simp only [Bool.and_eq_true, beq_iff_eq, Bool.not_eq_true', decide_eq_true_eq] at h5
  obtain ⟨⟨⟨⟨⟨g1, g2⟩, g3⟩, g4⟩, g5⟩, g6⟩ := h5
  simp [Cond.before, Cond.holds, Cond.value, h1, h2, h3, h4, g1, g2, g3, g4, g5, g6]
def isCode : Jvm.Cond → Bool
  | .code _ _ _ _ => true
  | _ => false
theorem all_split {L : List Jvm.Cond} {P : Jvm.Cond → Bool} (h1 : L.all (fun c => isCode c || P c) = true) (h2 : ∀ c ∈ L.filter isCode, P c = true) : L.all P = true := by
  refine List.all_eq_true.mpr fun c hc => ?_
  have h := List.all_eq_true.mp h1 c hc
  rcases Bool.eq_false_or_eq_true (isCode c) with hi | hi
  · exact h2 c (List.mem_filter.mpr ⟨hc, hi⟩)
  · simpa [hi] using h
set_option maxRecDepth 65536 in
theorem w_c0 : (Jvm.Cond.code x code maxLocals ret).before args0 about1 = true := code_word (m := ⟨1, 1⟩) (meth := k1m1) (c := k1c1) (by decide +kernel) rfl rfl rfl (by decide +kernel)
set_option maxRecDepth 65536 in
theorem w_c1 : (Jvm.Cond.code ({ cls := "com/example/proofhound/proofhound/symbolic/Progress", name := "<init>", desc := "()V" } : Jvm.MethodName) prog_230_method_1_code (1 : Nat) (Option.none : Option Jvm.ClassFile.FieldType)).before args0 about1 = true := code_word (m := ⟨2, 0⟩) (meth := k2m0) (c := k2c0) (by decide +kernel) rfl rfl rfl (by decide +kernel)
set_option maxRecDepth 65536 in
theorem w_c2 : (Jvm.Cond.code ({ cls := "java/lang/Object", name := "<init>", desc := "()V" } : Jvm.MethodName) object_method_1_code (1 : Nat) (Option.none : Option Jvm.ClassFile.FieldType)).before args0 about1 = true := code_word (m := ⟨0, 0⟩) (meth := k0m0) (c := k0c0) (by decide +kernel) rfl rfl rfl (by decide +kernel)
set_option maxRecDepth 65536 in
theorem w_c3 : (Jvm.Cond.code ({ cls := "com/example/proofhound/proofhound/symbolic/Progress", name := "enter", desc := "(II)V" } : Jvm.MethodName) prog_230_method_2_code (3 : Nat) (Option.none : Option Jvm.ClassFile.FieldType)).before args0 about1 = true := code_word (m := ⟨2, 1⟩) (meth := k2m1) (c := k2c1) (by decide +kernel) rfl rfl rfl (by decide +kernel)
set_option maxRecDepth 65536 in
theorem w_c4 : (Jvm.Cond.code ({ cls := "com/example/proofhound/proofhound/symbolic/Progress", name := "expectedWork", desc := "(J)D" } : Jvm.MethodName) prog_230_method_4_code (8 : Nat) (Option.some Jvm.ClassFile.FieldType.double)).before args0 about1 = true := code_word (m := ⟨2, 3⟩) (meth := k2m3) (c := k2c3) (by decide +kernel) rfl rfl rfl (by decide +kernel)
set_option maxRecDepth 65536 in
theorem w_c5 : (Jvm.Cond.code ({ cls := "com/example/proofhound/proofhound/symbolic/Progress", name := "leave", desc := "()V" } : Jvm.MethodName) prog_230_method_3_code (1 : Nat) (Option.none : Option Jvm.ClassFile.FieldType)).before args0 about1 = true := code_word (m := ⟨2, 2⟩) (meth := k2m2) (c := k2c2) (by decide +kernel) rfl rfl rfl (by decide +kernel)
def codes1 : List Jvm.Cond := [Jvm.Cond.code x code maxLocals ret, Jvm.Cond.code ({ cls := "com/example/proofhound/proofhound/symbolic/Progress", name := "<init>", desc := "()V" } : Jvm.MethodName) prog_230_method_1_code (1 : Nat) (Option.none : Option Jvm.ClassFile.FieldType), Jvm.Cond.code ({ cls := "java/lang/Object", name := "<init>", desc := "()V" } : Jvm.MethodName) object_method_1_code (1 : Nat) (Option.none : Option Jvm.ClassFile.FieldType), Jvm.Cond.code ({ cls := "com/example/proofhound/proofhound/symbolic/Progress", name := "enter", desc := "(II)V" } : Jvm.MethodName) prog_230_method_2_code (3 : Nat) (Option.none : Option Jvm.ClassFile.FieldType), Jvm.Cond.code ({ cls := "com/example/proofhound/proofhound/symbolic/Progress", name := "expectedWork", desc := "(J)D" } : Jvm.MethodName) prog_230_method_4_code (8 : Nat) (Option.some Jvm.ClassFile.FieldType.double), Jvm.Cond.code ({ cls := "com/example/proofhound/proofhound/symbolic/Progress", name := "leave", desc := "()V" } : Jvm.MethodName) prog_230_method_3_code (1 : Nat) (Option.none : Option Jvm.ClassFile.FieldType)]
set_option maxRecDepth 65536 in
theorem codes_eq : words1.filter isCode = codes1 := rfl
theorem w_codes : ∀ c ∈ words1.filter isCode, c.before args0 about1 = true := by
  rw [codes_eq]
  intro c hc
  simp only [codes1, List.mem_cons, List.not_mem_nil, or_false] at hc
  rcases hc with rfl | rfl | rfl | rfl | rfl | rfl
  · exact w_c0
  · exact w_c1
  · exact w_c2
  · exact w_c3
  · exact w_c4
  · exact w_c5
set_option maxRecDepth 65536 in
theorem w_t1 : (words1.take 24).all (fun c => isCode c || c.before args0 about1) = true := by decide +kernel
set_option maxRecDepth 65536 in
theorem w_t2 : (words1.drop 24).all (fun c => isCode c || c.before args0 about1) = true := by decide +kernel
theorem w_tables : (allAtoms (Jvm.Cond.code x code maxLocals ret :: tables_1)).before args0 about1 = true := by
  rw [allAtoms_all]
  show words1.all (fun c => c.before args0 about1) = true
  refine all_split ?_ w_codes
  rw [← List.take_append_drop 24 words1, List.all_append, w_t1, w_t2]
  rfl
set_option maxRecDepth 65536 in
theorem w_case : (Jvm.Cond.and given_1 narrow_1).before args0 about1 = true := by decide +kernel
theorem w_applies : (headSpec (Jvm.Cond.code x code maxLocals ret :: tables_1) room_1).applies x e0.platform about1 = true :=
  (Spec.applies_iff w_frames).mpr ⟨w_running, w_runnable, w_alone, w_named, w_hears, w_ripe, w_room, w_tables⟩
theorem atStart : AtStart classFile x code maxLocals ret World_1 tables_1 room_1 Calls_1 rest_1 Pre_1 launch0 p0 e0 about1 theMethod args0 below0 :=
  ⟨lists_1, trivial, launch0.admits_env _ _ _, launch0.least_env, fairChoices_fair.cas, fairChoices_fair.clock, w_frames, w_args, w_heap, w_applies, trivial, trivial, w_case⟩
end start1
theorem witness_1 : WitnessClaimed_1 := ⟨start1.p0, start1.e0, start1.about1, start1.theMethod, start1.args0, start1.below0, start1.atStart⟩
end Jvm.Pilot.@@N@@
