import JvmDerived
import JvmDerived.Pilot.@@N@@Statement
import JvmDerived.Pilot.@@N@@Code
set_option linter.unusedVariables false
set_option linter.unusedSimpArgs false
namespace Jvm.Pilot.@@N@@
open Jvm Jvm.ClassFile Sem Op Lib Jvm.Free Jvm.Stand Jvm.LawKit Jvm.RoadKit Bundle Jvm.Pilot.@@N@@.Jvm.D
/-- Java's >>> on longs and on ints -/
def own_sr (x : Int64) (k : Int32) : Int64 := ((x.toUInt64 >>> (k &&& 0x3f).toInt64.toUInt64).toInt64)
def own_sri (x : Int32) (k : Int32) : Int32 := ((x.toUInt32 >>> (k &&& 31).toUInt32).toInt32)
section Own
variable {p : Program} {l : Launch} {e : Env} {R : Room} {s : State} {m : MethodId} {args : Array Value} {below : List Frame} {meth : Method} {c : Code} {T : State} {locs : List Loc} {cells slots : Nat} {Z : State} {a0 : Array Value} {h : Heap} {Q : Option Value → Heap → List Loc → Prop} {kc kn : Nat}
/-- from the state A the body comes to an end that answers Q -/
def own_Go (tb : Tables) (e : Env) (below : List Frame) (s : State) (Q : Option Value → Heap → List Loc → Prop) (kc kn : Nat) (A : State) : Prop :=
  ∃ s₂ o, Steps tb e below A s₂ ∧ s₂.status = .running ∧ Ended s₂ below o ∧ ∃ v L, o = .returned v ∧ Q v s₂.heap L ∧ FrameEnd s o s₂ L kc kn
theorem own_by {tb : Tables} {A B : State} (g : ∀ t, Steps tb e below B t → Steps tb e below A t) (k : own_Go tb e below s Q kc kn B) : own_Go tb e below s Q kc kn A := by
  obtain ⟨s₂, o, h1, r⟩ := k
  exact ⟨s₂, o, g s₂ h1, r⟩
theorem own_end (X : Stand p l e R s m args below meth c T locs cells slots) {v : Option Value} (hv : meth.sig.returnType = none → v = none) (hlocks : meth.locks = false) {A : State}
    (hA : ∀ fs : List Frame, (∀ (f : JFrame) (acts : List Action), f.method = m → f.locked = none → f.entered = [] → (doReturn e (T.setTop f) acts v).1 = T.setFrames fs) → Steps p.tables e below A (T.setFrames fs)) (hk : cells ≤ kc) (hn : slots ≤ kn) (hQ : Q v T.heap locs) : own_Go p.tables e below s Q kc kn A := by
  obtain ⟨fs, hr, hrun, hended, hW, hsame⟩ := X.leave hv hlocks
  exact ⟨_, _, hA fs hr, hrun, hended, _, _, rfl, hQ, ⟨_, rfl⟩, hW, hsame.mono hk hn⟩
theorem own_retZ (X : Stand p l e R s m args below meth c T locs cells slots) (hx : p.tables.exec = Jvm.exec) (hlocks : meth.locks = false) (hret : meth.sig.returnType = some .boolean) {pc : Nat} {Ls : Array Slot} {z : Int32} {rest : List Value} (hd : decode c.code pc = .ok (.ireturn, 1)) (hk : cells ≤ kc) (hn : slots ≤ kn) (hQ : Q (some (.int (z &&& 1))) T.heap locs) : own_Go p.tables e below s Q kc kn (T.setTop (mkF m pc Ls (.int z :: rest))) :=
  own_end X (v := some (.int (z &&& 1))) (fun q => by rw [hret] at q; cases q) hlocks (fun fs hr => retN X hx (t := .boolean) hret (by simp) hd hr) hk hn hQ
theorem own_retI (X : Stand p l e R s m args below meth c T locs cells slots) (hx : p.tables.exec = Jvm.exec) (hlocks : meth.locks = false) (hret : meth.sig.returnType = some .int) {pc : Nat} {Ls : Array Slot} {z : Int32} {rest : List Value} (hd : decode c.code pc = .ok (.ireturn, 1)) (hk : cells ≤ kc) (hn : slots ≤ kn) (hQ : Q (some (.int z)) T.heap locs) : own_Go p.tables e below s Q kc kn (T.setTop (mkF m pc Ls (.int z :: rest))) :=
  own_end X (v := some (.int z)) (fun q => by rw [hret] at q; cases q) hlocks (fun fs hr => retOut X hx hret rfl (Or.inl ⟨rfl, Or.inl rfl, z, rfl⟩) hd hr) hk hn hQ
theorem own_retJ (X : Stand p l e R s m args below meth c T locs cells slots) (hx : p.tables.exec = Jvm.exec) (hlocks : meth.locks = false) (hret : meth.sig.returnType = some .long) {pc : Nat} {Ls : Array Slot} {z : Int64} {rest : List Value} (hd : decode c.code pc = .ok (.lreturn, 1)) (hk : cells ≤ kc) (hn : slots ≤ kn) (hQ : Q (some (.long z)) T.heap locs) : own_Go p.tables e below s Q kc kn (T.setTop (mkF m pc Ls (.long z :: rest))) :=
  own_end X (v := some (.long z)) (fun q => by rw [hret] at q; cases q) hlocks (fun fs hr => retOut X hx hret rfl (Or.inr (Or.inl ⟨rfl, rfl, z, rfl⟩)) hd hr) hk hn hQ
theorem own_retA (X : Stand p l e R s m args below meth c T locs cells slots) (hx : p.tables.exec = Jvm.exec) (hlocks : meth.locks = false) {t : FieldType} (hret : meth.sig.returnType = some t) (ht : t.isReference = true) {pc : Nat} {Ls : Array Slot} {a : Addr} {rest : List Value} (hd : decode c.code pc = .ok (.areturn, 1)) (hk : cells ≤ kc) (hn : slots ≤ kn) (hQ : Q (some (.ref a)) T.heap locs) : own_Go p.tables e below s Q kc kn (T.setTop (mkF m pc Ls (.ref a :: rest))) :=
  own_end X (v := some (.ref a)) (fun q => by rw [hret] at q; cases q) hlocks (fun fs hr => retOut X hx hret (by cases t <;> first | rfl | cases ht) (Or.inr (Or.inr (Or.inr (Or.inr ⟨rfl, ht, rfl⟩)))) hd hr) hk hn hQ
theorem own_retV (X : Stand p l e R s m args below meth c T locs cells slots) (hx : p.tables.exec = Jvm.exec) (hlocks : meth.locks = false) (hret : meth.sig.returnType = none) {pc : Nat} {Ls : Array Slot} (hd : decode c.code pc = .ok (.return_, 1)) (hk : cells ≤ kc) (hn : slots ≤ kn) (hQ : Q none T.heap locs) : own_Go p.tables e below s Q kc kn (T.setTop (mkF m pc Ls [])) :=
  own_end X (v := none) (fun _ => rfl) hlocks (fun fs hr => X.returnOut hx hret hd hr) hk hn hQ
/-- what a body of this text answers: from these arguments, at this heap -/
abbrev own_Met (l : Launch) (Z : State) (y : MethodName) (bytes : ByteArray) (maxL : Nat) (ret : Option FieldType) (ws : List Jvm.Cond) (rm : Room) (as' : Array Value) (h0 : Heap) (Q : Option Value → Heap → List Loc → Prop) : Prop :=
  MetFree l y (head1 (Jvm.Cond.code y bytes maxL ret :: ws) rm) (fun a U => a = as' ∧ Z.Warmed39 U.vm ∧ U.heap = h0) (fun _ _ _ _ _ => True) (fun _ U o U' => ∃ v L, o = .returned v ∧ Q v U'.heap L ∧ FrameEnd U o U' L rm.cells rm.slots)
theorem own_callS (X : Stand p l e R s m args below meth c T locs cells slots) (hx : p.tables.exec = Jvm.exec) (hZ : Z.Warmed39 s.vm) {own : String} {index : Nat} {y : MethodName} {bytes : ByteArray} {maxL : Nat} {ret : Option FieldType} {rm : Room} {as' : Array Value}
    (hown : s.vm.findClass own = some m.cls) (w1 : (Jvm.Cond.methodLink own index y).before a0 Z = true) (w2 : (Jvm.Cond.static y).before a0 Z = true) (w3 : (Jvm.Cond.initialized y.cls).before a0 Z = true) (w4 : (Jvm.Cond.code y bytes maxL ret).before a0 Z = true)
    (hy : y.cls ≠ "java/lang/invoke/MethodHandle" ∧ y.cls ≠ "java/lang/invoke/VarHandle") (hM : own_Met l Z y bytes maxL ret [] rm as' h Q) {W : Nat} (hf : rm.frames + 1 ≤ R.frames) (hl : W + (maxL + 11) + rm.locals ≤ R.locals) (eT : T.heap = h)
    {g : JFrame} (hg : g.method = m) (hsize : g.locals.size = c.maxLocals) {argsL rest : List Value} (hlen : ∀ sig, parseMethodDescriptor y.desc = some sig → argsL.length = sig.parameters.length) (hstack : g.stack = argsL.reverse ++ rest) (has : argsL.toArray = as')
    (hW : 2 * g.monitorRoom + (rest.map fun v => v.category).sum ≤ W) (hdg : decode c.code g.pc = .ok (.invokestatic index, 3)) (hc : cells + rm.cells ≤ R.cells) (hn : slots + rm.slots ≤ R.slots) :
    ∃ (v : Option Value) (T' : State) (L : List Loc), Stand p l e R s m args below meth c T' (locs ++ L) (cells + rm.cells) (slots + rm.slots) ∧ Q v T'.heap L ∧ ∀ t, Steps p.tables e below (T'.setTop { g with pc := g.pc + 3, stack := v.toList ++ rest }) t → Steps p.tables e below (T.setTop g) t := by
  subst eT
  obtain ⟨v, vm₁, ⟨T', L', k', n'⟩, -, X', ⟨Lc, hQ, l1, y1, z1⟩, st⟩ := Jvm.LawKit.callS X hx (y := y) hown (mvT hZ w1) (mvT hZ w2) (mvT hZ w3) (mvT hZ w4) hy (backOf (W := W) hM hZ w4 w3 hf hl) hg hsize (argsL := argsL) (rest := rest) hlen hstack hW hdg (fun _ _ => ⟨has, rfl, hc, hn⟩)
  dsimp only [Pt.U, Pt.locs, Pt.cells, Pt.slots] at X' l1 y1 z1 st hQ
  subst l1 y1 z1
  exact ⟨v, T', Lc, X', hQ, st⟩
theorem own_callI (X : Stand p l e R s m args below meth c T locs cells slots) (hx : p.tables.exec = Jvm.exec) (hZ : Z.Warmed39 s.vm) {own : String} {index : Nat} {y : MethodName} {bytes : ByteArray} {maxL : Nat} {rm : Room} {as' : Array Value} (hy1 : y.name = "<init>")
    (hown : s.vm.findClass own = some m.cls) (w1 : (Jvm.Cond.methodLink own index y).before a0 Z = true) (w2 : (Jvm.Cond.instanceMethod y).before a0 Z = true) (w3 : (Jvm.Cond.initialized y.cls).before a0 Z = true) (w4 : (Jvm.Cond.code y bytes maxL none).before a0 Z = true)
    (hy : y.cls ≠ "java/lang/invoke/MethodHandle" ∧ y.cls ≠ "java/lang/invoke/VarHandle") (hM : own_Met l Z y bytes maxL none [] rm as' h Q) {W : Nat} (hf : rm.frames + 1 ≤ R.frames) (hl : W + (maxL + 11) + rm.locals ≤ R.locals) (eT : T.heap = h)
    {g : JFrame} (hg : g.method = m) (hsize : g.locals.size = c.maxLocals) {a : Addr} {argsL rest : List Value} (hlen : ∀ sig, parseMethodDescriptor y.desc = some sig → argsL.length = sig.parameters.length) (hstack : g.stack = argsL.reverse ++ .ref a :: rest) (has : (Value.ref a :: argsL).toArray = as')
    (hW : 2 * g.monitorRoom + (rest.map fun v => v.category).sum ≤ W) (hdg : decode c.code g.pc = .ok (.invokespecial index, 3)) (hc : cells + rm.cells ≤ R.cells) (hn : slots + rm.slots ≤ R.slots) :
    ∃ (v : Option Value) (T' : State) (L : List Loc), Stand p l e R s m args below meth c T' (locs ++ L) (cells + rm.cells) (slots + rm.slots) ∧ Q v T'.heap L ∧ ∀ t, Steps p.tables e below (T'.setTop { g with pc := g.pc + 3, stack := v.toList ++ rest }) t → Steps p.tables e below (T.setTop g) t := by
  subst eT
  obtain ⟨v, vm₁, ⟨T', L', k', n'⟩, -, X', ⟨Lc, hQ, l1, y1, z1⟩, st⟩ := X.specialBack hx (y := y) hy1 hown (mvT hZ w1) (mvT hZ w2) (mvT hZ w4) hy (backOf (W := W) hM hZ w4 w3 hf hl) hg hsize (Steps.refl _) (a := a) (argsL := argsL) (rest := rest) hlen hstack hW hdg (fun _ _ => ⟨has, rfl, hc, hn⟩)
  dsimp only [Pt.U, Pt.locs, Pt.cells, Pt.slots] at X' l1 y1 z1 st hQ
  subst l1 y1 z1
  exact ⟨v, T', Lc, X', hQ, fun t k => st.trans k⟩
theorem own_callV (X : Stand p l e R s m args below meth c T locs cells slots) (hx : p.tables.exec = Jvm.exec) (hZ : Z.Warmed39 s.vm) {own : String} {index : Nat} {y : MethodName} {bytes : ByteArray} {maxL : Nat} {ret : Option FieldType} {rm : Room} {as' : Array Value}
    (hown : s.vm.findClass own = some m.cls) (w1 : (Jvm.Cond.methodLink own index y).before a0 Z = true) (w5 : (Jvm.Cond.declares y).before a0 Z = true) (w6 : (Jvm.Cond.selects y.cls y y).before a0 Z = true) (w2 : (Jvm.Cond.instanceMethod y).before a0 Z = true) (w3 : (Jvm.Cond.initialized y.cls).before a0 Z = true) (w4 : (Jvm.Cond.code y bytes maxL ret).before a0 Z = true)
    (hy : y.cls ≠ "java/lang/invoke/MethodHandle" ∧ y.cls ≠ "java/lang/invoke/VarHandle") (hM : own_Met l Z y bytes maxL ret [] rm as' h Q) {W : Nat} (hf : rm.frames + 1 ≤ R.frames) (hl : W + (maxL + 11) + rm.locals ≤ R.locals) (eT : T.heap = h) {a : Addr} (E : Exa Z h a y.cls)
    {g : JFrame} (hg : g.method = m) (hsize : g.locals.size = c.maxLocals) {argsL rest : List Value} (hlen : ∀ sig, parseMethodDescriptor y.desc = some sig → argsL.length = sig.parameters.length) (hstack : g.stack = argsL.reverse ++ .ref a :: rest) (has : (Value.ref a :: argsL).toArray = as')
    (hW : 2 * g.monitorRoom + (rest.map fun v => v.category).sum ≤ W) (hdg : decode c.code g.pc = .ok (.invokevirtual index, 3)) (hc : cells + rm.cells ≤ R.cells) (hn : slots + rm.slots ≤ R.slots) :
    ∃ (v : Option Value) (T' : State) (L : List Loc), Stand p l e R s m args below meth c T' (locs ++ L) (cells + rm.cells) (slots + rm.slots) ∧ Q v T'.heap L ∧ ∀ t, Steps p.tables e below (T'.setTop { g with pc := g.pc + 3, stack := v.toList ++ rest }) t → Steps p.tables e below (T.setTop g) t := by
  subst eT
  obtain ⟨cq, kq, qa, qb, qc⟩ := isOf hZ rfl E
  obtain ⟨v, vm₁, ⟨T', L', k', n'⟩, -, X', ⟨Lc, hQ, l1, y1, z1⟩, st⟩ := X.virtualBack hx (y := y) (z := y) hown (mvT hZ w1) (mvT hZ w5) (notFace_of_selects (args := #[]) (mvT hZ w6)) (mvT hZ w6) (mvT hZ w2) hy (backOf (W := W) hM hZ w4 w3 hf hl) qa qc hg hsize (Steps.refl _) (argsL := argsL) (rest := rest) hlen hstack hW hdg (fun _ _ => ⟨has, rfl, hc, hn⟩)
  dsimp only [Pt.U, Pt.locs, Pt.cells, Pt.slots] at X' l1 y1 z1 st hQ
  subst l1 y1 z1
  exact ⟨v, T', Lc, X', hQ, fun t k => st.trans k⟩
end Own

/-! ## the table of references: what stands in the heap -/
def own_i (k : Nat) : Int32 := Int32.ofNat k
theorem own_i_clamp : ∀ k, k < 6 → (own_i k).toNatClampNeg = k := by decide
theorem own_i_nn : ∀ k, k < 6 → ¬ own_i k < 0 := by decide
theorem own_i_lt : ∀ j, j < 6 → ∀ k, k < 6 → (own_i j < own_i k ↔ j < k) := by decide
theorem own_i_eq : ∀ j, j < 6 → ∀ k, k < 6 → (own_i j = own_i k ↔ j = k) := by decide
theorem own_i_succ : ∀ k, k < 6 → own_i k + 1 = own_i (k + 1) := by decide
theorem own_i_pred : ∀ k, k < 6 → own_i (k + 1) - 1 = own_i k := by decide
def own_iv (vs : List Int32) : List Value := vs.map Value.int
theorem own_iv_set (vs : List Int32) (i : Nat) (x : Int32) : (own_iv vs).set i (.int x) = own_iv (vs.set i x) := by simp [own_iv, List.map_set]
theorem own_iv_get (vs : List Int32) (i : Nat) : (own_iv vs).getD i (.int (0 : Int32)) = .int (vs.getD i 0) := by
  simp only [own_iv, List.getD_eq_getElem?_getD, List.getElem?_map]
  cases vs[i]? <;> rfl
theorem own_iv_len (vs : List Int32) : (own_iv vs).length = vs.length := by simp [own_iv]
def own_pr (i : Int32) (x y : Value) : List Value := if i = 0 then [x, y] else [y, x]
theorem own_pr_get {i : Int32} (hi : i = 0 ∨ i = 1) (x y d : Value) : (own_pr i x y).getD i.toNatClampNeg d = x := by rcases hi with rfl | rfl <;> rfl
theorem own_pr_set {i : Int32} (hi : i = 0 ∨ i = 1) (x y z : Value) : (own_pr i x y).set i.toNatClampNeg z = own_pr i z y := by rcases hi with rfl | rfl <;> rfl
theorem own_pr_len {i : Int32} (hi : i = 0 ∨ i = 1) (x y : Value) : i.toNatClampNeg < (own_pr i x y).length := by
  rcases hi with rfl | rfl
  · exact (by decide : (0 : Int32).toNatClampNeg < 2)
  · exact (by decide : (1 : Int32).toNatClampNeg < 2)
theorem own_pr_swap (x y : Value) : own_pr 0 x y = own_pr 1 y x := rfl
theorem own_i01 {i : Int32} (hi : i = 0 ∨ i = 1) : ¬ i < 0 ∧ i < (2 : Int32) := by rcases hi with rfl | rfl <;> decide
section OwnTab
variable {p : Program} {l : Launch} {e : Env} {R : Room} {s : State} {m : MethodId} {args : Array Value} {below : List Frame} {meth : Method} {c : Code} {T : State} {locs : List Loc} {cells slots : Nat} {Z : State} {a0 : Array Value} {h h' : Heap} {a : Addr} {k : ClassId} {ty : FieldType} {z : Int32} {vs : List Value} {dv : Value}
theorem own_ld (X : Stand p l e R s m args below meth c T locs cells slots) (hx : p.tables.exec = Jvm.exec) (hZ : Z.Warmed39 s.vm) (eT : T.heap = h) (A : Arv Z h a k .int z vs dv) {j : Int32} (hj : ¬ j < 0 ∧ j < z) {v : Value} (hv : vs.getD j.toNatClampNeg dv = v)
    {g : JFrame} (hg : g.method = m) {rest : List Value} (hs : g.stack = .int j :: .ref a :: rest) (hd : decode c.code g.pc = .ok (.iaload, 1)) : ∀ t, Steps p.tables e below (T.setTop { g with pc := g.pc + 1, stack := v :: rest }) t → Steps p.tables e below (T.setTop g) t := by
  obtain ⟨cl, Ar, -, Sz, Nn, Hs, -⟩ := A
  have hin := inb_of Sz hj
  exact fun t k => X.iaload hx (j := j) (v := v) (by rw [eT]; exact Ar.1) (State.isArrayOf_alike hZ.alike Ar.2.1) Ar.2.2 hin (Hs.at hin hv) hg hs hd t k
theorem own_ldA (X : Stand p l e R s m args below meth c T locs cells slots) (hx : p.tables.exec = Jvm.exec) (hZ : Z.Warmed39 s.vm) (eT : T.heap = h) (A : Arv Z h a k ty z vs dv) (hty : ty.isReference = true) {j : Int32} (hj : ¬ j < 0 ∧ j < z) {v : Value} (hv : vs.getD j.toNatClampNeg dv = v)
    {g : JFrame} (hg : g.method = m) {rest : List Value} (hs : g.stack = .int j :: .ref a :: rest) (hd : decode c.code g.pc = .ok (.aaload, 1)) : ∀ t, Steps p.tables e below (T.setTop { g with pc := g.pc + 1, stack := v :: rest }) t → Steps p.tables e below (T.setTop g) t := by
  obtain ⟨cl, Ar, -, Sz, Nn, Hs, -⟩ := A
  have hin := inb_of Sz hj
  exact fun t k => X.aaload hx (j := j) (v := v) (by rw [eT]; exact Ar.1) (State.isArrayOf_alike hZ.alike Ar.2.1) hty Ar.2.2 hin (Hs.at hin hv) hg hs hd t k
theorem own_len (X : Stand p l e R s m args below meth c T locs cells slots) (hx : p.tables.exec = Jvm.exec) (hZ : Z.Warmed39 s.vm) (eT : T.heap = h) (A : Arv Z h a k ty z vs dv)
    {g : JFrame} (hg : g.method = m) {rest : List Value} (hs : g.stack = .ref a :: rest) (hd : decode c.code g.pc = .ok (.arraylength, 1)) : ∀ t, Steps p.tables e below (T.setTop { g with pc := g.pc + 1, stack := .int z :: rest }) t → Steps p.tables e below (T.setTop g) t := by
  obtain ⟨cl, Ar, -, Sz, Nn, -, -⟩ := A
  intro t k
  refine X.arraylength hx (by rw [eT]; exact Ar.1) (State.isArrayOf_alike hZ.alike Ar.2.1) hg hs hd t ?_
  rw [len_of Sz Nn]
  exact k
theorem own_st (X : Stand p l e R s m args below meth c T locs cells slots) (hx : p.tables.exec = Jvm.exec) (hZ : Z.Warmed39 s.vm) (eT : T.heap = h) (A : Arv Z h a k .int z vs dv) {j x : Int32} (hj : ¬ j < 0 ∧ j < z)
    {g : JFrame} (hg : g.method = m) {rest : List Value} (hs : g.stack = .int x :: .int j :: .ref a :: rest) (hd : decode c.code g.pc = .ok (.iastore, 1)) :
    ∃ T' h', Stand p l e R s m args below meth c T' (locs ++ [⟨a, j.toNatClampNeg⟩]) cells slots ∧ T'.heap = h' ∧ Wr h h' a j.toNatClampNeg (.int x) ∧ ∀ t, Steps p.tables e below (T'.setTop { g with pc := g.pc + 1, stack := rest }) t → Steps p.tables e below (T.setTop g) t := by
  obtain ⟨cl, Ar, -, Sz, Nn, Hs, -⟩ := A
  exact stI X hx hZ eT Ar (inb_of Sz hj) hg hs hd
theorem own_stA (X : Stand p l e R s m args below meth c T locs cells slots) (hx : p.tables.exec = Jvm.exec) (hZ : Z.Warmed39 s.vm) (eT : T.heap = h) (A : Arv Z h a k (.array ty) z vs dv) {C : String} (O : OvrA Z k ty C) {y : Addr} (I : Ins Z h y C true) {j : Int32} (hj : ¬ j < 0 ∧ j < z)
    {g : JFrame} (hg : g.method = m) {rest : List Value} (hs : g.stack = .ref y :: .int j :: .ref a :: rest) (hd : decode c.code g.pc = .ok (.aastore, 1)) :
    ∃ T' h', Stand p l e R s m args below meth c T' (locs ++ [⟨a, j.toNatClampNeg⟩]) cells slots ∧ T'.heap = h' ∧ Wr h h' a j.toNatClampNeg (.ref y) ∧ ∀ t, Steps p.tables e below (T'.setTop { g with pc := g.pc + 1, stack := rest }) t → Steps p.tables e below (T.setTop g) t := by
  obtain ⟨cl, Ar, qk, Sz, Nn, Hs, -⟩ := A
  exact stR X hx hZ eT Ar (inb_of Sz hj) rfl (Sto.ofVA Ar qk O I) hg hs hd
theorem own_set (A : Arv Z h a k ty z vs dv) {j : Int32} {v : Value} (hv : fits ty v = true) (W : Wr h h' a j.toNatClampNeg v) {i : Nat} (hj : j.toNatClampNeg = i) (hi : i < vs.length) : Arv Z h' a k ty z (vs.set i v) dv := by
  obtain ⟨cl, Ar, qk, Sz, Nn, Hs, Gt⟩ := A
  exact Arv.set Ar qk Sz Nn Hs Gt hv W i hj hi
end OwnTab
def own_RT : String := "cyclebreak/collector/ReferenceTable"
/-- the table's object, its fields, and the empty array -/
def own_Base (Z : State) (n0 : Nat) (N a t c f : Addr) (h : Heap) : Prop :=
  (n0 ≤ a ∧ n0 ≤ t ∧ n0 ≤ c ∧ n0 ≤ f ∧ N < n0) ∧ (a ≠ t ∧ a ≠ c ∧ a ≠ f ∧ t ≠ c ∧ t ≠ f ∧ c ≠ f) ∧
  Exa Z h a "cyclebreak/collector/ReferenceTable" ∧ Fld Z h a "cyclebreak/collector/ReferenceTable" "targets" "[[I" (.ref t) ∧ Fld Z h a "cyclebreak/collector/ReferenceTable" "counts" "[I" (.ref c) ∧ Fld Z h a "cyclebreak/collector/ReferenceTable" "fixed" "[I" (.ref f) ∧ ∃ kN, Arv Z h N kN .int 0 [] (.int (0 : Int32))
def own_Full (Z : State) (n0 : Nat) (a t c f : Addr) (h : Heap) (r : Addr) (vs : List Int32) : Prop :=
  n0 ≤ r ∧ (r ≠ a ∧ r ≠ t ∧ r ≠ c ∧ r ≠ f) ∧ vs.length = 4 ∧ ∃ kr, Arv Z h r kr .int 4 (own_iv vs) (.int (0 : Int32))
def own_Row (Z : State) (n0 : Nat) (N a t c f : Addr) (h : Heap) (r : Addr) (k : Nat) (vs : List Int32) : Prop :=
  (r = N ∧ k = 0 ∧ vs = [0, 0, 0, 0]) ∨ own_Full Z n0 a t c f h r vs
def own_Tab (Z : State) (n0 : Nat) (N a t c f : Addr) (i : Int32) (h : Heap) (r r' : Addr) (k k' x x' : Nat) (vs vs' : List Int32) : Prop :=
  own_Base Z n0 N a t c f h ∧ (∃ kt, OvrA Z kt .int "[I" ∧ Arv Z h t kt (.array .int) 2 (own_pr i (.ref r) (.ref r')) .null) ∧ (∃ kc, Arv Z h c kc .int 2 (own_pr i (.int (own_i k)) (.int (own_i k'))) (.int (0 : Int32))) ∧ (∃ kf, Arv Z h f kf .int 2 (own_pr i (.int (own_i x)) (.int (own_i x'))) (.int (0 : Int32))) ∧
  own_Row Z n0 N a t c f h r k vs ∧ own_Row Z n0 N a t c f h r' k' vs' ∧ (n0 ≤ r → r ≠ r')
section OwnTab2
variable {Z : State} {n0 : Nat} {N a t c f : Addr} {i : Int32} {h h' : Heap} {r r' : Addr} {k k' x x' : Nat} {vs vs' : List Int32} {b : Addr} {sl : Nat} {v : Value}
theorem own_Base.ext (B : own_Base Z n0 N a t c f h) (E : Ext h h') : own_Base Z n0 N a t c f h' := by
  obtain ⟨h1, h2, h3, h4, h5, h6, kN, h7⟩ := B
  exact ⟨h1, h2, h3.ext E, h4.ext E, h5.ext E, h6.ext E, kN, h7.ext E⟩
theorem own_Base.wr (B : own_Base Z n0 N a t c f h) (W : Wr h h' b sl v) (ha : a ≠ b) (hN : N ≠ b) : own_Base Z n0 N a t c f h' := by
  obtain ⟨h1, h2, h3, h4, h5, h6, kN, h7⟩ := B
  exact ⟨h1, h2, h3.wr W, h4.other W (Or.inl ha), h5.other W (Or.inl ha), h6.other W (Or.inl ha), kN, h7.other W hN⟩
theorem own_Full.ext (F : own_Full Z n0 a t c f h r vs) (E : Ext h h') : own_Full Z n0 a t c f h' r vs := by
  obtain ⟨h1, h2, h3, kr, h4⟩ := F
  exact ⟨h1, h2, h3, kr, h4.ext E⟩
theorem own_Full.wr (F : own_Full Z n0 a t c f h r vs) (W : Wr h h' b sl v) (hb : r ≠ b) : own_Full Z n0 a t c f h' r vs := by
  obtain ⟨h1, h2, h3, kr, h4⟩ := F
  exact ⟨h1, h2, h3, kr, h4.other W hb⟩
theorem own_Row.ext (F : own_Row Z n0 N a t c f h r k vs) (E : Ext h h') : own_Row Z n0 N a t c f h' r k vs := F.imp id fun q => q.ext E
theorem own_Row.wr (F : own_Row Z n0 N a t c f h r k vs) (W : Wr h h' b sl v) (hb : n0 ≤ r → r ≠ b) : own_Row Z n0 N a t c f h' r k vs := F.imp id fun q => q.wr W (hb q.1)
theorem own_Tab.ext (B : own_Tab Z n0 N a t c f i h r r' k k' x x' vs vs') (E : Ext h h') : own_Tab Z n0 N a t c f i h' r r' k k' x x' vs vs' := by
  obtain ⟨h1, ⟨kt, O, h2⟩, ⟨kc, h3⟩, ⟨kf, h4⟩, h5, h6, h7⟩ := B
  exact ⟨h1.ext E, ⟨kt, O, h2.ext E⟩, ⟨kc, h3.ext E⟩, ⟨kf, h4.ext E⟩, h5.ext E, h6.ext E, h7⟩
theorem own_Tab.swap (B : own_Tab Z n0 N a t c f 0 h r r' k k' x x' vs vs') : own_Tab Z n0 N a t c f 1 h r' r k' k x' x vs' vs := by
  obtain ⟨h1, h2, h3, h4, h5, h6, h7⟩ := B
  exact ⟨h1, h2, h3, h4, h6, h5, fun q e => h7 (e ▸ q) e.symm⟩
theorem own_Tab.swap' (B : own_Tab Z n0 N a t c f 1 h r r' k k' x x' vs vs') : own_Tab Z n0 N a t c f 0 h r' r k' k x' x vs' vs := by
  obtain ⟨h1, h2, h3, h4, h5, h6, h7⟩ := B
  exact ⟨h1, h2, h3, h4, h6, h5, fun q e => h7 (e ▸ q) e.symm⟩
theorem own_Base.neN (B : own_Base Z n0 N a t c f h) (q : n0 ≤ b) : N ≠ b := fun e => absurd (e ▸ B.1.2.2.2.2 : b < n0) (Nat.not_lt.mpr q)
theorem own_fit_int (x : Int32) : fits .int (.int x) = true := rfl
theorem own_Tab.setRow (B : own_Tab Z n0 N a t c f i h r r' k k' x x' vs vs') (F : own_Full Z n0 a t c f h r vs) {q : Nat} (hq : q < 4) {y : Int32} (W : Wr h h' r (own_i q).toNatClampNeg (.int y)) :
    own_Tab Z n0 N a t c f i h' r r' k k' x x' (vs.set q y) vs' ∧ own_Full Z n0 a t c f h' r (vs.set q y) := by
  obtain ⟨h1, ⟨kt, O, h2⟩, ⟨kc, h3⟩, ⟨kf, h4⟩, h5, h6, h7⟩ := B
  obtain ⟨g1, g2, g3, kr, g4⟩ := F
  have F' : own_Full Z n0 a t c f h' r (vs.set q y) := ⟨g1, g2, by rw [List.length_set]; exact g3, kr, by rw [← own_iv_set]; exact own_set g4 (own_fit_int y) W (own_i_clamp q (by omega)) (by rw [own_iv_len]; omega)⟩
  exact ⟨⟨h1.wr W g2.1.symm (h1.neN g1), ⟨kt, O, h2.other W g2.2.1.symm⟩, ⟨kc, h3.other W g2.2.2.1.symm⟩, ⟨kf, h4.other W g2.2.2.2.symm⟩, Or.inr F', h6.wr W fun u e => h7 g1 e.symm, h7⟩, F'⟩
theorem own_Tab.setCnt (B : own_Tab Z n0 N a t c f i h r r' k k' x x' vs vs') (hi : i = 0 ∨ i = 1) (F : own_Full Z n0 a t c f h r vs) {q : Nat} (W : Wr h h' c i.toNatClampNeg (.int (own_i q))) :
    own_Tab Z n0 N a t c f i h' r r' q k' x x' vs vs' ∧ own_Full Z n0 a t c f h' r vs := by
  obtain ⟨h1, ⟨kt, O, h2⟩, ⟨kc, h3⟩, ⟨kf, h4⟩, h5, h6, h7⟩ := B
  have F' := F.wr W F.2.1.2.2.1
  obtain ⟨b1, b2, -⟩ := id h1
  refine ⟨⟨h1.wr W b2.2.1 (h1.neN b1.2.2.1), ⟨kt, O, h2.other W b2.2.2.2.1⟩, ⟨kc, by rw [← own_pr_set hi]; exact own_set h3 (own_fit_int _) W rfl (own_pr_len hi _ _)⟩, ⟨kf, h4.other W b2.2.2.2.2.2.symm⟩, Or.inr F', ?_, h7⟩, F'⟩
  rcases h6 with u | u
  · exact Or.inl u
  · exact Or.inr (u.wr W u.2.1.2.2.1)
theorem own_Tab.setFix (B : own_Tab Z n0 N a t c f i h r r' k k' x x' vs vs') (hi : i = 0 ∨ i = 1) (F : own_Full Z n0 a t c f h r vs) {q : Nat} (W : Wr h h' f i.toNatClampNeg (.int (own_i q))) :
    own_Tab Z n0 N a t c f i h' r r' k k' q x' vs vs' ∧ own_Full Z n0 a t c f h' r vs := by
  obtain ⟨h1, ⟨kt, O, h2⟩, ⟨kc, h3⟩, ⟨kf, h4⟩, h5, h6, h7⟩ := B
  have F' := F.wr W F.2.1.2.2.2
  obtain ⟨b1, b2, -⟩ := id h1
  refine ⟨⟨h1.wr W b2.2.2.1 (h1.neN b1.2.2.2.1), ⟨kt, O, h2.other W b2.2.2.2.2.1⟩, ⟨kc, h3.other W b2.2.2.2.2.2⟩, ⟨kf, by rw [← own_pr_set hi]; exact own_set h4 (own_fit_int _) W rfl (own_pr_len hi _ _)⟩, Or.inr F', ?_, h7⟩, F'⟩
  rcases h6 with u | u
  · exact Or.inl u
  · exact Or.inr (u.wr W u.2.1.2.2.2)
theorem own_Tab.setTgt (B : own_Tab Z n0 N a t c f i h r r' k k' x x' vs vs') (hi : i = 0 ∨ i = 1) {r2 : Addr} (F : own_Full Z n0 a t c f h r2 vs) (hr : r2 ≠ r') (W : Wr h h' t i.toNatClampNeg (.ref r2)) :
    own_Tab Z n0 N a t c f i h' r2 r' k k' x x' vs vs' ∧ own_Full Z n0 a t c f h' r2 vs := by
  obtain ⟨h1, ⟨kt, O, h2⟩, ⟨kc, h3⟩, ⟨kf, h4⟩, h5, h6, h7⟩ := B
  have F' := F.wr W F.2.1.2.1
  obtain ⟨b1, b2, -⟩ := id h1
  refine ⟨⟨h1.wr W b2.1 (h1.neN b1.2.1), ⟨kt, O, by rw [← own_pr_set hi]; exact own_set h2 rfl W rfl (own_pr_len hi _ _)⟩, ⟨kc, h3.other W b2.2.2.2.1.symm⟩, ⟨kf, h4.other W b2.2.2.2.2.1.symm⟩, Or.inr F', ?_, fun _ => hr⟩, F'⟩
  rcases h6 with u | u
  · exact Or.inl u
  · exact Or.inr (u.wr W u.2.1.2.1)
/-- a write elsewhere -/
theorem own_Tab.wr (B : own_Tab Z n0 N a t c f i h r r' k k' x x' vs vs') (W : Wr h h' b sl v) (hb : ∀ y ∈ [N, a, t, c, f, r, r'], y ≠ b) : own_Tab Z n0 N a t c f i h' r r' k k' x x' vs vs' := by
  obtain ⟨h1, ⟨kt, O, h2⟩, ⟨kc, h3⟩, ⟨kf, h4⟩, h5, h6, h7⟩ := B
  simp only [List.mem_cons, List.not_mem_nil, or_false, forall_eq_or_imp, forall_eq] at hb
  obtain ⟨q1, q2, q3, q4, q5, q6, q7⟩ := hb
  exact ⟨h1.wr W q2 q1, ⟨kt, O, h2.other W q3⟩, ⟨kc, h3.other W q4⟩, ⟨kf, h4.other W q5⟩, h5.wr W fun _ => q6, h6.wr W fun _ => q7, h7⟩
theorem own_Full.lt (F : own_Full Z n0 a t c f h r vs) : r < h.size := by obtain ⟨-, -, -, kr, q⟩ := F; exact q.lt
theorem own_Base.lts (B : own_Base Z n0 N a t c f h) (hn : n0 ≤ h.size) : N < h.size := Nat.lt_of_lt_of_le B.1.2.2.2.2 hn
theorem own_Row.lt (F : own_Row Z n0 N a t c f h r k vs) (q : N < h.size) : r < h.size := by
  rcases F with ⟨rfl, -⟩ | u
  · exact q
  · exact u.lt
/-- whatever is made behind it is another -/
theorem own_Tab.fresh (B : own_Tab Z n0 N a t c f i h r r' k k' x x' vs vs') (hb : h.size ≤ b) : ∀ y ∈ [N, a, t, c, f, r, r'], y ≠ b := by
  obtain ⟨h1, ⟨kt, O, h2⟩, ⟨kc, h3⟩, ⟨kf, h4⟩, h5, h6, h7⟩ := B
  obtain ⟨-, -, g3, -, -, -, kN, g4⟩ := h1
  have l1 := g3.lt
  have l2 := h2.lt
  have l3 := h3.lt
  have l4 := h4.lt
  have l5 := g4.lt
  have l6 := h5.lt l5
  have l7 := h6.lt l5
  intro y hy
  simp only [List.mem_cons, List.not_mem_nil, or_false] at hy
  rcases hy with rfl | rfl | rfl | rfl | rfl | rfl | rfl
  · exact Nat.ne_of_lt (Nat.lt_of_lt_of_le l5 hb)
  · exact Nat.ne_of_lt (Nat.lt_of_lt_of_le l1 hb)
  · exact Nat.ne_of_lt (Nat.lt_of_lt_of_le l2 hb)
  · exact Nat.ne_of_lt (Nat.lt_of_lt_of_le l3 hb)
  · exact Nat.ne_of_lt (Nat.lt_of_lt_of_le l4 hb)
  · exact Nat.ne_of_lt (Nat.lt_of_lt_of_le l6 hb)
  · exact Nat.ne_of_lt (Nat.lt_of_lt_of_le l7 hb)
end OwnTab2
section OwnTab3
variable {Z : State} {n0 : Nat} {N a t c f : Addr} {i : Int32} {h h' : Heap} {r r' : Addr} {k k' x x' : Nat} {vs vs' : List Int32}
theorem own_Tab.exa (B : own_Tab Z n0 N a t c f i h r r' k k' x x' vs vs') : Exa Z h a "cyclebreak/collector/ReferenceTable" := B.1.2.2.1
theorem own_Tab.fT (B : own_Tab Z n0 N a t c f i h r r' k k' x x' vs vs') : Fld Z h a "cyclebreak/collector/ReferenceTable" "targets" "[[I" (.ref t) := B.1.2.2.2.1
theorem own_Tab.fC (B : own_Tab Z n0 N a t c f i h r r' k k' x x' vs vs') : Fld Z h a "cyclebreak/collector/ReferenceTable" "counts" "[I" (.ref c) := B.1.2.2.2.2.1
theorem own_Tab.fF (B : own_Tab Z n0 N a t c f i h r r' k k' x x' vs vs') : Fld Z h a "cyclebreak/collector/ReferenceTable" "fixed" "[I" (.ref f) := B.1.2.2.2.2.2.1
theorem own_Tab.full (B : own_Tab Z n0 N a t c f i h r r' k k' x x' vs vs') (hk : 0 < k) : own_Full Z n0 a t c f h r vs := by
  rcases B.2.2.2.2.1 with ⟨-, q, -⟩ | u
  · omega
  · exact u
theorem own_i_lt4 {q : Nat} (hq : q < 4) : ¬ own_i q < 0 ∧ own_i q < (4 : Int32) := ⟨own_i_nn q (by omega), (own_i_lt q (by omega) 4 (by omega)).mpr hq⟩
theorem own_at {q : Nat} (hq : q < 4) (vs : List Int32) : (own_iv vs).getD (own_i q).toNatClampNeg (.int (0 : Int32)) = .int (vs.getD q 0) := by rw [own_i_clamp q (by omega)]; exact own_iv_get vs q
theorem own_keep_ext (K : Keep h h' []) : Ext h h' := ⟨K.1, fun b d q => K.2.1 b d q nin0⟩
end OwnTab3
section OwnP
variable {p : Program} {l : Launch} {e : Env} {R : Room} {s : State} {m : MethodId} {args : Array Value} {below : List Frame} {meth : Method} {c : Code} {T : State} {locs : List Loc} {cells slots : Nat} {Z : State} {a0 : Array Value} {h : Heap} {Q : Option Value → Heap → List Loc → Prop}
/-- a private method by invokevirtual; w6: any method that the class selects (so it is no interface) -/
theorem own_callP (X : Stand p l e R s m args below meth c T locs cells slots) (hx : p.tables.exec = Jvm.exec) (hZ : Z.Warmed39 s.vm) {own : String} {index : Nat} {y y' : MethodName} {bytes : ByteArray} {maxL : Nat} {ret : Option FieldType} {rm : Room} {as' : Array Value}
    (hown : s.vm.findClass own = some m.cls) (w1 : (Jvm.Cond.methodLink own index y).before a0 Z = true) (w2 : (Jvm.Cond.instanceMethod y).before a0 Z = true) (w5 : (Jvm.Cond.privateMethod y).before a0 Z = true) (w6 : (Jvm.Cond.selects y.cls y' y').before a0 Z = true) (hyy : y'.cls = y.cls) (w3 : (Jvm.Cond.initialized y.cls).before a0 Z = true) (w4 : (Jvm.Cond.code y bytes maxL ret).before a0 Z = true)
    (hy : y.cls ≠ "java/lang/invoke/MethodHandle" ∧ y.cls ≠ "java/lang/invoke/VarHandle") (hM : own_Met l Z y bytes maxL ret [] rm as' h Q) {W : Nat} (hf : rm.frames + 1 ≤ R.frames) (hl : W + (maxL + 11) + rm.locals ≤ R.locals) (eT : T.heap = h) {a : Addr} (E : Exa Z h a y.cls)
    {g : JFrame} (hg : g.method = m) (hsize : g.locals.size = c.maxLocals) {argsL rest : List Value} (hlen : ∀ sig, parseMethodDescriptor y.desc = some sig → argsL.length = sig.parameters.length) (hstack : g.stack = argsL.reverse ++ .ref a :: rest) (has : (Value.ref a :: argsL).toArray = as')
    (hW : 2 * g.monitorRoom + (rest.map fun v => v.category).sum ≤ W) (hdg : decode c.code g.pc = .ok (.invokevirtual index, 3)) (hc : cells + rm.cells ≤ R.cells) (hn : slots + rm.slots ≤ R.slots) :
    ∃ (v : Option Value) (T' : State) (L : List Loc), Stand p l e R s m args below meth c T' (locs ++ L) (cells + rm.cells) (slots + rm.slots) ∧ Q v T'.heap L ∧ ∀ t, Steps p.tables e below (T'.setTop { g with pc := g.pc + 3, stack := v.toList ++ rest }) t → Steps p.tables e below (T.setTop g) t := by
  subst eT
  obtain ⟨cell, kc, q1, q2, q3, q4, -⟩ := id E
  have hpriv : s.PrivateAt y := Cond.privateMethod_at (mvP hZ w5 (args := #[]))
  have hinst : (Jvm.Cond.instanceMethod y).before args s = true := mvT hZ w2
  obtain ⟨cc, rr, mm, s1, s2, s3, s4, kP, s5, s6⟩ := Cond.selects_spec (mvT (args := args) hZ w6)
  have hsel : (Jvm.Cond.selects y.cls y y).before args s = true := by
    have hcl := findClass_of_methodNamed s3
    rw [hyy] at hcl
    exact selects_self_of_private hcl s5 s6 hpriv hinst hy
  obtain ⟨v, vm₁, ⟨T', L', k', n'⟩, -, X', ⟨Lc, hQ, l1, y1, z1⟩, st⟩ := X.privateBack hx (y := y) hown (mvT hZ w1) hinst hsel hpriv (mvT hZ w4) hy (backOf (W := W) hM hZ w4 w3 hf hl) hg hsize (Steps.refl _) (a := a) q1 (fun q r => by rw [r] at q4; cases q4) (argsL := argsL) (rest := rest) hlen hstack hW hdg (fun _ _ => ⟨has, rfl, hc, hn⟩)
  dsimp only [Pt.U, Pt.locs, Pt.cells, Pt.slots] at X' l1 y1 z1 st hQ
  subst l1 y1 z1
  exact ⟨v, T', Lc, X', hQ, fun t k => st.trans k⟩
end OwnP

/-! ## the plain law: lists of ints -/
def own_fl (z f : Int32) : List Int32 := if z = 0 then [] else [f]
def own_rl (n : Nat) (a b : Int32) : List Int32 := if n = 0 then [] else if n = 1 then [a] else [b, a]
def own_rl1 (n : Nat) (a : Int32) : List Int32 := if n = 0 then [] else [a]
def own_e1 (n : Nat) (a t : Int32) : List Int32 := if 1 ≤ n ∧ ¬ a = t then [a] else []
def own_e2 (n : Nat) (b t : Int32) : List Int32 := if 2 ≤ n ∧ ¬ b = t then [b] else []
def own_bt (t : Int32) (l : List Int32) : Int32 := if t ∈ l then 1 else 0
def own_pad (l : List Int32) : List Int32 := (l ++ [0, 0, 0]).take 3
theorem own_lperm (z f : Int32) {n : Nat} (hn : n ≤ 2) (a b t : Int32) : (own_fl z f ++ own_e1 n a t ++ own_e2 n b t).Perm (own_fl z f ++ ((own_rl n a b).erase t).erase t) := by
  rw [List.append_assoc]
  refine List.Perm.append_left _ ?_
  have h3 : n = 0 ∨ n = 1 ∨ n = 2 := by omega
  rcases h3 with rfl | rfl | rfl
  · exact List.Perm.refl _
  · by_cases ha : a = t
    · subst ha; simp [own_e1, own_e2, own_rl]
    · simp [own_e1, own_e2, own_rl, ha, List.erase_cons]
  · by_cases ha : a = t
    · by_cases hb : b = t
      · subst ha; subst hb; simp [own_e1, own_e2, own_rl]
      · subst ha; simp [own_e1, own_e2, own_rl, hb, List.erase_cons]
    · by_cases hb : b = t
      · subst hb; simp [own_e1, own_e2, own_rl, ha, List.erase_cons]
      · simp [own_e1, own_e2, own_rl, ha, hb, List.erase_cons]
        exact List.Perm.swap _ _ _
theorem own_fl_len (z f : Int32) : (own_fl z f).length ≤ 1 := by unfold own_fl; split <;> simp
theorem own_e1_len (n : Nat) (a t : Int32) : (own_e1 n a t).length ≤ 1 := by unfold own_e1; split <;> simp
theorem own_e2_len (n : Nat) (b t : Int32) : (own_e2 n b t).length ≤ 1 := by unfold own_e2; split <;> simp
theorem own_rl_len (n : Nat) (a b : Int32) : (own_rl n a b).length ≤ 2 := by unfold own_rl; split <;> (try split) <;> simp
theorem own_pad_eq (l : List Int32) (h : l.length ≤ 3) : own_pad l = l ++ [0, 0, 0].take (3 - l.length) := by
  unfold own_pad
  rw [List.take_append, List.take_of_length_le h]
theorem own_pad_perm {l l' : List Int32} (P : l.Perm l') (h : l.length ≤ 3) : (own_pad l).Perm (own_pad l') := by
  have e := P.length_eq
  rw [own_pad_eq l h, own_pad_eq l' (by omega), e]
  exact P.append_right _
theorem own_pad_len (l : List Int32) : (own_pad l).length = 3 := by unfold own_pad; simp
theorem own_pad_set (l : List Int32) (z : Int32) (h : l.length < 3) : (own_pad l).set l.length z = own_pad (l ++ [z]) := by
  have h3 : l.length = 0 ∨ l.length = 1 ∨ l.length = 2 := by omega
  match l, h3 with
  | [], _ => rfl
  | [a], _ => rfl
  | [a, b], _ => rfl
  | _ :: _ :: _ :: _, h3 => simp at h3
theorem own_three (l : List Int32) (h : l.length = 3) : ∃ a b c, l = [a, b, c] := by
  match l, h with
  | [a, b, c], _ => exact ⟨a, b, c, rfl⟩
def own_s3 (p q r : Int32) : Int32 × Int32 × Int32 :=
  if q < p then (if r < p then (if r < q then (r, q, p) else (q, r, p)) else (if p < q then (p, q, r) else (q, p, r)))
  else (if r < q then (if r < p then (r, p, q) else (p, r, q)) else (p, q, r))
theorem own_s3_int (p q r : Int32) : (own_s3 p q r).1.toInt = min (min p.toInt q.toInt) r.toInt ∧ (own_s3 p q r).2.2.toInt = max (max p.toInt q.toInt) r.toInt ∧ (own_s3 p q r).1.toInt + (own_s3 p q r).2.1.toInt + (own_s3 p q r).2.2.toInt = p.toInt + q.toInt + r.toInt := by
  unfold own_s3
  simp only [Int32.lt_iff_toInt_lt]
  repeat' split
  all_goals (refine ⟨?_, ?_, ?_⟩ <;> simp only <;> omega)
theorem own_s3_eq {p q r p' q' r' : Int32} (h1 : min (min p.toInt q.toInt) r.toInt = min (min p'.toInt q'.toInt) r'.toInt) (h2 : max (max p.toInt q.toInt) r.toInt = max (max p'.toInt q'.toInt) r'.toInt) (h3 : p.toInt + q.toInt + r.toInt = p'.toInt + q'.toInt + r'.toInt) : own_s3 p q r = own_s3 p' q' r' := by
  have a := own_s3_int p q r
  have b := own_s3_int p' q' r'
  have e1 : (own_s3 p q r).1 = (own_s3 p' q' r').1 := Int32.toInt_inj.mp (by omega)
  have e2 : (own_s3 p q r).2.1 = (own_s3 p' q' r').2.1 := Int32.toInt_inj.mp (by omega)
  have e3 : (own_s3 p q r).2.2 = (own_s3 p' q' r').2.2 := Int32.toInt_inj.mp (by omega)
  exact Prod.ext e1 (Prod.ext e2 e3)
theorem own_perm2 {q r q' r' : Int32} (P : [q, r].Perm [q', r']) : (q = q' ∧ r = r') ∨ (q = r' ∧ r = q') := by
  have m : q ∈ [q', r'] := P.mem_iff.mp (List.mem_cons_self ..)
  simp only [List.mem_cons, List.not_mem_nil, or_false] at m
  rcases m with rfl | rfl
  · have := (List.perm_cons q).mp P
    exact Or.inl ⟨rfl, by simpa using this⟩
  · have := (List.perm_cons q).mp (P.trans (List.Perm.swap _ _ _))
    exact Or.inr ⟨rfl, by simpa using this⟩
theorem own_s3_perm {p q r p' q' r' : Int32} (P : [p, q, r].Perm [p', q', r']) : own_s3 p q r = own_s3 p' q' r' := by
  have m : p ∈ [p', q', r'] := P.mem_iff.mp (List.mem_cons_self ..)
  simp only [List.mem_cons, List.not_mem_nil, or_false] at m
  rcases m with rfl | rfl | rfl
  · rcases own_perm2 ((List.perm_cons p).mp P) with ⟨rfl, rfl⟩ | ⟨rfl, rfl⟩ <;> apply own_s3_eq <;> omega
  · rcases own_perm2 ((List.perm_cons p).mp (P.trans (List.Perm.swap _ _ _))) with ⟨rfl, rfl⟩ | ⟨rfl, rfl⟩ <;> apply own_s3_eq <;> omega
  · rcases own_perm2 ((List.perm_cons p).mp (P.trans ((List.Perm.cons p' (List.Perm.swap _ _ _)).trans (List.Perm.swap _ _ _)))) with ⟨rfl, rfl⟩ | ⟨rfl, rfl⟩ <;> apply own_s3_eq <;> omega
theorem own_four (l : List Int32) (h : l.length = 4) : ∃ a b c d, l = [a, b, c, d] := by
  match l, h with
  | [a, b, c, d], _ => exact ⟨a, b, c, d, rfl⟩
theorem own_row_add {vs : List Int32} (hl : vs.length = 4) {x k : Nat} (hx : x ≤ k) (hk : k < 4) (z : Int32) : (vs.set k z).take x = vs.take x ∧ ((vs.set k z).take (k + 1)).drop x = (vs.take k).drop x ++ [z] := by
  obtain ⟨a, b, c, d, rfl⟩ := own_four vs hl
  have hk4 : k = 0 ∨ k = 1 ∨ k = 2 ∨ k = 3 := by omega
  have hx4 : x = 0 ∨ x = 1 ∨ x = 2 ∨ x = 3 := by omega
  rcases hk4 with rfl | rfl | rfl | rfl <;> rcases hx4 with rfl | rfl | rfl | rfl <;> first | exact ⟨rfl, rfl⟩ | omega
theorem own_row_fix {vs : List Int32} (hl : vs.length = 4) {k : Nat} (hk : k < 4) (z : Int32) : ((vs.set k (vs.getD 0 0)).set 0 z).take 1 = [z] ∧ ((((vs.set k (vs.getD 0 0)).set 0 z).take (k + 1)).drop 1).Perm ((vs.take k).drop 0) := by
  obtain ⟨a, b, c, d, rfl⟩ := own_four vs hl
  have hk4 : k = 0 ∨ k = 1 ∨ k = 2 ∨ k = 3 := by omega
  rcases hk4 with rfl | rfl | rfl | rfl
  · exact ⟨rfl, List.Perm.refl _⟩
  · exact ⟨rfl, List.Perm.refl _⟩
  · exact ⟨rfl, List.perm_append_singleton a [b]⟩
  · exact ⟨rfl, List.perm_append_singleton a [b, c]⟩
theorem own_row_rem {vs : List Int32} (hl : vs.length = 4) {x k q : Nat} (hx : x ≤ q) (hq : q < k) (hk : k ≤ 3) (hx1 : x ≤ 1) {t : Int32} (ht : vs.getD q 0 = t) : (vs.set q (vs.getD (k - 1) 0)).take x = vs.take x ∧ ((vs.take k).drop x).Perm (t :: ((vs.set q (vs.getD (k - 1) 0)).take (k - 1)).drop x) := by
  obtain ⟨a, b, c, d, rfl⟩ := own_four vs hl
  subst ht
  have hk4 : k = 1 ∨ k = 2 ∨ k = 3 := by omega
  have hq4 : q = 0 ∨ q = 1 ∨ q = 2 := by omega
  have hx4 : x = 0 ∨ x = 1 := by omega
  rcases hk4 with rfl | rfl | rfl <;> rcases hq4 with rfl | rfl | rfl <;> rcases hx4 with rfl | rfl <;> first
    | omega
    | exact ⟨rfl, List.Perm.refl _⟩
    | exact ⟨rfl, List.Perm.swap _ _ _⟩
    | exact ⟨rfl, (List.Perm.cons a (List.Perm.swap _ _ _))⟩
    | exact ⟨rfl, (List.Perm.cons a (List.Perm.swap c b [])).trans (List.Perm.swap _ _ _)⟩
    | exact ⟨rfl, (List.Perm.swap b a [c])⟩
    | exact ⟨rfl, (List.perm_iff_count.mpr (fun y => by simp [List.count_cons]; omega))⟩
theorem own_row_mem {vs : List Int32} {x k : Nat} {y : Int32} (h : y ∈ (vs.take k).drop x) : ∃ q, x ≤ q ∧ q < k ∧ vs.getD q 0 = y := by
  obtain ⟨n, hn⟩ := List.mem_iff_getElem?.mp h
  rw [List.getElem?_drop, List.getElem?_take] at hn
  split at hn
  · rename_i q
    exact ⟨x + n, by omega, q, by rw [List.getD_eq_getElem?_getD, hn]; rfl⟩
  · cases hn
theorem own_row_split (vs : List Int32) {x k : Nat} (h : x ≤ k) : vs.take x ++ (vs.take k).drop x = vs.take k := by
  have : vs.take x = (vs.take k).take x := by rw [List.take_take, Nat.min_eq_left h]
  rw [this, List.take_append_drop]
theorem own_pad_take {vs : List Int32} (hl : vs.length = 4) {k : Nat} (hk : k ≤ 3) : own_pad (vs.take k) = [if 0 < k then vs.getD 0 0 else 0, if 1 < k then vs.getD 1 0 else 0, if 2 < k then vs.getD 2 0 else 0] := by
  obtain ⟨a, b, c, d, rfl⟩ := own_four vs hl
  have hk4 : k = 0 ∨ k = 1 ∨ k = 2 ∨ k = 3 := by omega
  rcases hk4 with rfl | rfl | rfl | rfl <;> rfl
theorem own_erase_perm {R R' rl : List Int32} {t : Int32} (h : R.Perm rl) (h2 : R.Perm (t :: R')) : R'.Perm (rl.erase t) ∧ t ∈ rl := by
  have q := (h.symm.trans h2).erase t
  rw [List.erase_cons_head] at q
  exact ⟨q.symm, h.mem_iff.mp (h2.mem_iff.mpr (List.mem_cons_self ..))⟩
theorem own_bt_iff (t : Int32) (l : List Int32) : (1 ≤ l.count t → own_bt t l = 1) ∧ (l.count t < 1 → own_bt t l = 0) := by
  unfold own_bt
  constructor
  · intro h; exact if_pos (List.count_pos_iff.mp h)
  · intro h; exact if_neg fun q => by have := List.count_pos_iff.mpr q; omega
theorem own_bt2_iff (t : Int32) (l : List Int32) : (2 ≤ l.count t → own_bt t (l.erase t) = 1) ∧ (l.count t < 2 → own_bt t (l.erase t) = 0) := by
  have e : (l.erase t).count t = l.count t - 1 := List.count_erase_self
  exact ⟨fun h => (own_bt_iff t _).1 (by omega), fun h => (own_bt_iff t _).2 (by omega)⟩

/-! ## the table, by the lists of its row: the fixed ones, the others -/
def own_A (Z : State) (n0 : Nat) (N a t c f : Addr) (i : Int32) (h : Heap) (fl rl : List Int32) : Prop :=
  ∃ (r r2 : Addr) (k k2 x x2 : Nat) (vs us : List Int32), own_Tab Z n0 N a t c f i h r r2 k k2 x x2 vs us ∧ (vs.length = 4 ∧ x ≤ k ∧ k ≤ 3 ∧ x ≤ 1) ∧ vs.take x = fl ∧ ((vs.take k).drop x).Perm rl
def own_Rem (Z : State) (n0 : Nat) (N a t c f : Addr) (i : Int32) (h : Heap) (r r2 : Addr) (k k2 x x2 : Nat) (vs us : List Int32) (y b : Int32) : Prop :=
  (b = 1 ∧ ∃ q, x ≤ q ∧ q < k ∧ vs.getD q 0 = y ∧ own_Tab Z n0 N a t c f i h r r2 (k - 1) k2 x x2 (vs.set q (vs.getD (k - 1) 0)) us) ∨ (b = 0 ∧ (∀ q, x ≤ q → q < k → ¬ vs.getD q 0 = y) ∧ own_Tab Z n0 N a t c f i h r r2 k k2 x x2 vs us)
section OwnA
variable {Z : State} {n0 : Nat} {N a t c f : Addr} {i : Int32} {h : Heap} {r r2 : Addr} {k k2 x x2 : Nat} {vs us fl rl : List Int32} {y b : Int32}
theorem own_A_rem (H : vs.length = 4 ∧ x ≤ k ∧ k ≤ 3 ∧ x ≤ 1) (hf : vs.take x = fl) (hr : ((vs.take k).drop x).Perm rl) (Rm : own_Rem Z n0 N a t c f i h r r2 k k2 x x2 vs us y b) : own_A Z n0 N a t c f i h fl (rl.erase y) ∧ b = own_bt y rl := by
  obtain ⟨h1, h2, h3, h4⟩ := H
  rcases Rm with ⟨rfl, q, g1, g2, g3, T⟩ | ⟨rfl, g1, T⟩
  · obtain ⟨e1, e2⟩ := own_row_rem h1 g1 g2 h3 h4 g3
    obtain ⟨e3, e4⟩ := own_erase_perm hr e2
    refine ⟨⟨_, _, _, _, _, _, _, _, T, ⟨by rw [List.length_set]; exact h1, by omega, by omega, h4⟩, by rw [e1]; exact hf, e3⟩, ?_⟩
    exact (if_pos e4).symm
  · have hn : y ∉ rl := fun m => by
      obtain ⟨q, g2, g3, g4⟩ := own_row_mem (hr.mem_iff.mpr m)
      exact g1 q g2 g3 g4
    exact ⟨⟨_, _, _, _, _, _, _, _, T, ⟨h1, h2, h3, h4⟩, hf, by rw [List.erase_of_not_mem hn]; exact hr⟩, (if_neg hn).symm⟩
theorem own_A_add (H : vs.length = 4 ∧ x ≤ k ∧ k ≤ 3 ∧ x ≤ 1) (hf : vs.take x = fl) (hr : ((vs.take k).drop x).Perm rl) (hk : k < 3) (T : own_Tab Z n0 N a t c f i h r r2 (k + 1) k2 x x2 (vs.set k y) us) : own_A Z n0 N a t c f i h fl (y :: rl) := by
  obtain ⟨h1, h2, h3, h4⟩ := H
  obtain ⟨e1, e2⟩ := own_row_add h1 h2 (by omega) y
  exact ⟨_, _, _, _, _, _, _, _, T, ⟨by rw [List.length_set]; exact h1, by omega, by omega, h4⟩, by rw [e1]; exact hf, by rw [e2]; exact (List.perm_append_singleton y _).trans (hr.cons y)⟩
theorem own_A_fix (H : vs.length = 4 ∧ x ≤ k ∧ k ≤ 3 ∧ x ≤ 1) (hf : vs.take x = []) (hr : ((vs.take k).drop x).Perm rl) (hk : k < 3) (T : own_Tab Z n0 N a t c f i h r r2 (k + 1) k2 (x + 1) x2 ((vs.set k (vs.getD x 0)).set x y) us) : own_A Z n0 N a t c f i h [y] rl := by
  obtain ⟨h1, h2, h3, h4⟩ := H
  have hx : x = 0 := by
    have := congrArg List.length hf
    rw [List.length_take, h1] at this
    have q : min x 4 = 0 := this
    omega
  subst hx
  obtain ⟨e1, e2⟩ := own_row_fix h1 (by omega : k < 4) y
  exact ⟨_, _, _, _, _, _, _, _, T, ⟨by rw [List.length_set, List.length_set]; exact h1, by omega, by omega, by omega⟩, e1, e2.trans hr⟩
/-- how many there are -/
theorem own_A_len (H : vs.length = 4 ∧ x ≤ k ∧ k ≤ 3 ∧ x ≤ 1) (hf : vs.take x = fl) (hr : ((vs.take k).drop x).Perm rl) : k = fl.length + rl.length := by
  obtain ⟨h1, h2, h3, h4⟩ := H
  have e1 := congrArg List.length hf
  have e2 := hr.length_eq
  rw [List.length_take] at e1
  rw [List.length_drop, List.length_take] at e2
  omega
end OwnA
theorem own_i_lt3 {q : Nat} (hq : q < 3) : ¬ own_i q < 0 ∧ own_i q < (3 : Int32) := ⟨own_i_nn q (by omega), (own_i_lt q (by omega) 3 (by omega)).mpr hq⟩
theorem own_i_pred' : ∀ k, k < 6 → 0 < k → own_i k - 1 = own_i (k - 1) := by decide
theorem own_nadd (e : Int32) : ∃ n : Nat, own_i n = (if (e &&& 3) < (2 : Int32) then (e &&& 3) else (2 : Int32)) ∧ n ≤ 2 := by
  have h := c_mask e 3 2 (by decide) (by decide)
  have r := rng32 (e &&& 3)
  by_cases q : (e &&& 3) < (2 : Int32)
  · rw [if_pos q]
    rw [Int32.lt_iff_toInt_lt] at q
    have e2 : (2 : Int32).toInt = 2 := by decide
    have : (e &&& 3).toInt = 0 ∨ (e &&& 3).toInt = 1 := by omega
    rcases this with u | u
    · exact ⟨0, Int32.toInt_inj.mp (by rw [u]; decide), by omega⟩
    · exact ⟨1, Int32.toInt_inj.mp (by rw [u]; decide), by omega⟩
  · exact ⟨2, by rw [if_neg q]; rfl, by omega⟩

theorem d10_0 : decode jdk_29_method_65_code 0 = .ok (.iload_n 0, 1) := by decide +kernel
theorem d10_1 : decode jdk_29_method_65_code 1 = .ok (.iload_n 1, 1) := by decide +kernel
theorem d10_2 : decode jdk_29_method_65_code 2 = .ok (.if_icmp .lt 7, 3) := by decide +kernel
theorem d10_5 : decode jdk_29_method_65_code 5 = .ok (.iload_n 0, 1) := by decide +kernel
theorem d10_6 : decode jdk_29_method_65_code 6 = .ok (.goto 4, 3) := by decide +kernel
theorem d10_9 : decode jdk_29_method_65_code 9 = .ok (.iload_n 1, 1) := by decide +kernel
theorem d10_10 : decode jdk_29_method_65_code 10 = .ok (.ireturn, 1) := by decide +kernel
theorem pf_10 : plainFor (⟨"java/lang/Math", "max", "(II)I"⟩ : MethodName) = true := by first | exact plainFor_of_name (by first | (simp [plainName, overriddenIn]; done) | decide +kernel) | decide +kernel
theorem pd_10 : parseMethodDescriptor "(II)I" = some ⟨[.int, .int], some .int⟩ := by decide +kernel
theorem ef_10 (m : MethodId) (p1 : Int32) (p2 : Int32) : entryFrame m #[(.int p1), (.int p2)] 2 = mkF m 0 #[.val (.int p1), .val (.int p2)] [] := by first | (simp [entryFrame, mkF, argsToLocals, Value.category]; done) | rfl
def Q10 (p1 : Int32) (p2 : Int32) (h0 : Heap) (n0 : Nat) (v : Option Value) (h : Heap) (L : List Loc) : Prop := v = some (.int (if p1 < p2 then p2 else p1)) ∧ Fr n0 L ∧ h = h0
set_option maxRecDepth 65536 in
set_option maxHeartbeats 40000000 in
theorem rm10 (l : Launch) (Z : State) (a0 : Array Value) (hw : ∀ d ∈ tables_1, d.before a0 Z = true) (ws : List Jvm.Cond) (p1 : Int32) (p2 : Int32) (h0 : Heap) (n0 : Nat) (Z0 : n0 ≤ h0.size)  :
    own_Met l Z (⟨"java/lang/Math", "max", "(II)I"⟩ : MethodName) jdk_29_method_65_code 2 (some .int) ws ({ frames := 0, cells := 0, slots := 0, locals := 0 } : Room) #[(.int p1), (.int p2)] h0 (Q10 p1 p2 h0 n0) := by
  refine MetFree.of_bodySF pf_10 hisR ?_
  intro p e s m args below meth c s₁ Bd hml0 hP hK
  obtain ⟨rfl, hZ, hh⟩ := hP
  have hx := Bd.exec
  have hby := Bd.bytes
  have hlk : meth.locks = false := BodyLoose.notSynchronized Bd
  have hml : c.maxLocals = 2 := hml0
  have hown : s.vm.findClass "java/lang/Math" = some m.cls := findClass_of_methodNamed Bd.named
  have hnm := (name_of_methodNamed Bd.named Bd.method).1
  have X0 : Stand p l e ({ frames := 0, cells := 0, slots := 0, locals := 0 } : Room) s m #[(.int p1), (.int p2)] below meth c s₁ [] 0 0 := Stand.of_body Bd
  have e0 : s₁.heap = h0 := by rw [← hh, Bd.state]; rfl
  have N0 := Fr.nil n0
  show own_Go p.tables e below s (Q10 p1 p2 h0 n0) ({ frames := 0, cells := 0, slots := 0, locals := 0 } : Room).cells ({ frames := 0, cells := 0, slots := 0, locals := 0 } : Room).slots _
  refine own_by (fun _ k => castTop (ef_10 m p1 p2) k) ?_
  show own_Go p.tables e below s _ _ _ (s₁.setTop (mkF m 0 #[.val (.int p1), .val (.int p2)] []))
  refine own_by (fun _ kz => XS.iloadN X0.here hx rfl (hb hby d10_0) rfl kz) ?_
  show own_Go p.tables e below s _ _ _ (s₁.setTop (mkF m 1 #[.val (.int p1), .val (.int p2)] [(.int p1)]))
  refine own_by (fun _ kz => XS.iloadN X0.here hx rfl (hb hby d10_1) rfl kz) ?_
  show own_Go p.tables e below s _ _ _ (s₁.setTop (mkF m 2 #[.val (.int p1), .val (.int p2)] [(.int p2), (.int p1)]))
  by_cases hc2_1 : p1 < p2
  · refine own_by (fun _ kz => XS.icmpYes X0.here hx rfl (pc0 := 2) (pc' := 9) rfl (hb hby d10_2) rfl (tlt hc2_1).1 (by decide) (by decide) kz) ?_
    show own_Go p.tables e below s _ _ _ (s₁.setTop (mkF m 9 #[.val (.int p1), .val (.int p2)] []))
    refine own_by (fun _ kz => XS.iloadN X0.here hx rfl (hb hby d10_9) rfl kz) ?_
    show own_Go p.tables e below s _ _ _ (s₁.setTop (mkF m 10 #[.val (.int p1), .val (.int p2)] [(.int p2)]))
    exact own_retI X0 hx hlk Bd.returns (hb hby d10_10) (by decide) (by decide) ⟨by rw [if_pos hc2_1], N0, e0⟩
  · refine own_by (fun _ kz => XS.icmpNo X0.here hx rfl (hb hby d10_2) rfl (flt hc2_1).1 kz) ?_
    show own_Go p.tables e below s _ _ _ (s₁.setTop (mkF m 5 #[.val (.int p1), .val (.int p2)] []))
    refine own_by (fun _ kz => XS.iloadN X0.here hx rfl (hb hby d10_5) rfl kz) ?_
    show own_Go p.tables e below s _ _ _ (s₁.setTop (mkF m 6 #[.val (.int p1), .val (.int p2)] [(.int p1)]))
    refine own_by (fun _ kz => XS.goto X0.here hx rfl (pc0 := 6) (pc' := 10) rfl (hb hby d10_6) (by decide) (by decide) kz) ?_
    show own_Go p.tables e below s _ _ _ (s₁.setTop (mkF m 10 #[.val (.int p1), .val (.int p2)] [(.int p1)]))
    exact own_retI X0 hx hlk Bd.returns (hb hby d10_10) (by decide) (by decide) ⟨by rw [if_neg hc2_1], N0, e0⟩
theorem d1_0 : decode jdk_29_method_69_code 0 = .ok (.iload_n 0, 1) := by decide +kernel
theorem d1_1 : decode jdk_29_method_69_code 1 = .ok (.iload_n 1, 1) := by decide +kernel
theorem d1_2 : decode jdk_29_method_69_code 2 = .ok (.if_icmp .gt 7, 3) := by decide +kernel
theorem d1_5 : decode jdk_29_method_69_code 5 = .ok (.iload_n 0, 1) := by decide +kernel
theorem d1_6 : decode jdk_29_method_69_code 6 = .ok (.goto 4, 3) := by decide +kernel
theorem d1_9 : decode jdk_29_method_69_code 9 = .ok (.iload_n 1, 1) := by decide +kernel
theorem d1_10 : decode jdk_29_method_69_code 10 = .ok (.ireturn, 1) := by decide +kernel
theorem pf_1 : plainFor (⟨"java/lang/Math", "min", "(II)I"⟩ : MethodName) = true := by first | exact plainFor_of_name (by first | (simp [plainName, overriddenIn]; done) | decide +kernel) | decide +kernel
theorem pd_1 : parseMethodDescriptor "(II)I" = some ⟨[.int, .int], some .int⟩ := by decide +kernel
theorem ef_1 (m : MethodId) (p1 : Int32) (p2 : Int32) : entryFrame m #[(.int p1), (.int p2)] 2 = mkF m 0 #[.val (.int p1), .val (.int p2)] [] := by first | (simp [entryFrame, mkF, argsToLocals, Value.category]; done) | rfl
def Q1 (p1 : Int32) (p2 : Int32) (h0 : Heap) (n0 : Nat) (v : Option Value) (h : Heap) (L : List Loc) : Prop := v = some (.int (if p2 < p1 then p2 else p1)) ∧ Fr n0 L ∧ h = h0
set_option maxRecDepth 65536 in
set_option maxHeartbeats 40000000 in
theorem rm1 (l : Launch) (Z : State) (a0 : Array Value) (hw : ∀ d ∈ tables_1, d.before a0 Z = true) (ws : List Jvm.Cond) (p1 : Int32) (p2 : Int32) (h0 : Heap) (n0 : Nat) (Z0 : n0 ≤ h0.size)  :
    own_Met l Z (⟨"java/lang/Math", "min", "(II)I"⟩ : MethodName) jdk_29_method_69_code 2 (some .int) ws ({ frames := 0, cells := 0, slots := 0, locals := 0 } : Room) #[(.int p1), (.int p2)] h0 (Q1 p1 p2 h0 n0) := by
  refine MetFree.of_bodySF pf_1 hisR ?_
  intro p e s m args below meth c s₁ Bd hml0 hP hK
  obtain ⟨rfl, hZ, hh⟩ := hP
  have hx := Bd.exec
  have hby := Bd.bytes
  have hlk : meth.locks = false := BodyLoose.notSynchronized Bd
  have hml : c.maxLocals = 2 := hml0
  have hown : s.vm.findClass "java/lang/Math" = some m.cls := findClass_of_methodNamed Bd.named
  have hnm := (name_of_methodNamed Bd.named Bd.method).1
  have X0 : Stand p l e ({ frames := 0, cells := 0, slots := 0, locals := 0 } : Room) s m #[(.int p1), (.int p2)] below meth c s₁ [] 0 0 := Stand.of_body Bd
  have e0 : s₁.heap = h0 := by rw [← hh, Bd.state]; rfl
  have N0 := Fr.nil n0
  show own_Go p.tables e below s (Q1 p1 p2 h0 n0) ({ frames := 0, cells := 0, slots := 0, locals := 0 } : Room).cells ({ frames := 0, cells := 0, slots := 0, locals := 0 } : Room).slots _
  refine own_by (fun _ k => castTop (ef_1 m p1 p2) k) ?_
  show own_Go p.tables e below s _ _ _ (s₁.setTop (mkF m 0 #[.val (.int p1), .val (.int p2)] []))
  refine own_by (fun _ kz => XS.iloadN X0.here hx rfl (hb hby d1_0) rfl kz) ?_
  show own_Go p.tables e below s _ _ _ (s₁.setTop (mkF m 1 #[.val (.int p1), .val (.int p2)] [(.int p1)]))
  refine own_by (fun _ kz => XS.iloadN X0.here hx rfl (hb hby d1_1) rfl kz) ?_
  show own_Go p.tables e below s _ _ _ (s₁.setTop (mkF m 2 #[.val (.int p1), .val (.int p2)] [(.int p2), (.int p1)]))
  by_cases hc2_1 : p2 < p1
  · refine own_by (fun _ kz => XS.icmpYes X0.here hx rfl (pc0 := 2) (pc' := 9) rfl (hb hby d1_2) rfl (tlt hc2_1).2.2.1 (by decide) (by decide) kz) ?_
    show own_Go p.tables e below s _ _ _ (s₁.setTop (mkF m 9 #[.val (.int p1), .val (.int p2)] []))
    refine own_by (fun _ kz => XS.iloadN X0.here hx rfl (hb hby d1_9) rfl kz) ?_
    show own_Go p.tables e below s _ _ _ (s₁.setTop (mkF m 10 #[.val (.int p1), .val (.int p2)] [(.int p2)]))
    exact own_retI X0 hx hlk Bd.returns (hb hby d1_10) (by decide) (by decide) ⟨by rw [if_pos hc2_1], N0, e0⟩
  · refine own_by (fun _ kz => XS.icmpNo X0.here hx rfl (hb hby d1_2) rfl (flt hc2_1).2.2.1 kz) ?_
    show own_Go p.tables e below s _ _ _ (s₁.setTop (mkF m 5 #[.val (.int p1), .val (.int p2)] []))
    refine own_by (fun _ kz => XS.iloadN X0.here hx rfl (hb hby d1_5) rfl kz) ?_
    show own_Go p.tables e below s _ _ _ (s₁.setTop (mkF m 6 #[.val (.int p1), .val (.int p2)] [(.int p1)]))
    refine own_by (fun _ kz => XS.goto X0.here hx rfl (pc0 := 6) (pc' := 10) rfl (hb hby d1_6) (by decide) (by decide) kz) ?_
    show own_Go p.tables e below s _ _ _ (s₁.setTop (mkF m 10 #[.val (.int p1), .val (.int p2)] [(.int p1)]))
    exact own_retI X0 hx hlk Bd.returns (hb hby d1_10) (by decide) (by decide) ⟨by rw [if_neg hc2_1], N0, e0⟩
theorem d11_0 : decode jdk_65_method_123_code 0 = .ok (.iload_n 1, 1) := by decide +kernel
theorem d11_1 : decode jdk_65_method_123_code 1 = .ok (.aload_n 0, 1) := by decide +kernel
theorem d11_2 : decode jdk_65_method_123_code 2 = .ok (.arraylength, 1) := by decide +kernel
theorem d11_3 : decode jdk_65_method_123_code 3 = .ok (.if_icmp .ne 11, 3) := by decide +kernel
theorem d11_6 : decode jdk_65_method_123_code 6 = .ok (.aload_n 0, 1) := by decide +kernel
theorem d11_7 : decode jdk_65_method_123_code 7 = .ok (.invokevirtual 316, 3) := by decide +kernel
theorem d11_10 : decode jdk_65_method_123_code 10 = .ok (.checkcast 317, 3) := by decide +kernel
theorem d11_13 : decode jdk_65_method_123_code 13 = .ok (.areturn, 1) := by decide +kernel
theorem d11_14 : decode jdk_65_method_123_code 14 = .ok (.iload_n 1, 1) := by decide +kernel
theorem d11_15 : decode jdk_65_method_123_code 15 = .ok (.newarray .int, 2) := by decide +kernel
theorem d11_17 : decode jdk_65_method_123_code 17 = .ok (.astore_n 2, 1) := by decide +kernel
theorem d11_18 : decode jdk_65_method_123_code 18 = .ok (.aload_n 0, 1) := by decide +kernel
theorem d11_19 : decode jdk_65_method_123_code 19 = .ok (.iconst 0, 1) := by decide +kernel
theorem d11_20 : decode jdk_65_method_123_code 20 = .ok (.aload_n 2, 1) := by decide +kernel
theorem d11_21 : decode jdk_65_method_123_code 21 = .ok (.iconst 0, 1) := by decide +kernel
theorem d11_22 : decode jdk_65_method_123_code 22 = .ok (.aload_n 0, 1) := by decide +kernel
theorem d11_23 : decode jdk_65_method_123_code 23 = .ok (.arraylength, 1) := by decide +kernel
theorem d11_24 : decode jdk_65_method_123_code 24 = .ok (.iload_n 1, 1) := by decide +kernel
theorem d11_25 : decode jdk_65_method_123_code 25 = .ok (.invokestatic 304, 3) := by decide +kernel
theorem d11_28 : decode jdk_65_method_123_code 28 = .ok (.invokestatic 150, 3) := by decide +kernel
theorem d11_31 : decode jdk_65_method_123_code 31 = .ok (.aload_n 2, 1) := by decide +kernel
theorem d11_32 : decode jdk_65_method_123_code 32 = .ok (.areturn, 1) := by decide +kernel
theorem pf_11 : plainFor (⟨"java/util/Arrays", "copyOf", "([II)[I"⟩ : MethodName) = true := by first | exact plainFor_of_name (by first | (simp [plainName, overriddenIn]; done) | decide +kernel) | decide +kernel
theorem pd_11 : parseMethodDescriptor "([II)[I" = some ⟨[(.array .int), .int], some (.array .int)⟩ := by decide +kernel
theorem ef_11 (m : MethodId) (p0 : Addr) : entryFrame m #[(.ref p0), (.int (4 : Int32))] 3 = mkF m 0 #[.val (.ref p0), .val (.int (4 : Int32)), .unset] [] := by first | (simp [entryFrame, mkF, argsToLocals, Value.category]; done) | rfl
def Q11 (Z : State) (h0 : Heap) (n0 : Nat) (v : Option Value) (h : Heap) (L : List Loc) : Prop := ∃ (b : Addr) (kb : ClassId), v = some (.ref b) ∧ Fr n0 L ∧ Keep h0 h [] ∧ h0.size ≤ b ∧ Exa Z h b "[I" ∧ Arv Z h b kb .int (4 : Int32) [.int (0 : Int32), .int (0 : Int32), .int (0 : Int32), .int (0 : Int32)] (.int (0 : Int32))
set_option maxRecDepth 65536 in
set_option maxHeartbeats 40000000 in
theorem rm11 (l : Launch) (Z : State) (a0 : Array Value) (hw : ∀ d ∈ tables_1, d.before a0 Z = true) (ws : List Jvm.Cond) (p0 : Addr) (h0 : Heap) (n0 : Nat) (Z0 : n0 ≤ h0.size) (k0 : ClassId) (V0 : Arv Z h0 p0 k0 .int (0 : Int32) [] (.int (0 : Int32))) :
    own_Met l Z (⟨"java/util/Arrays", "copyOf", "([II)[I"⟩ : MethodName) jdk_65_method_123_code 3 (some (.array .int)) ws ({ frames := 1, cells := 1, slots := 4, locals := 40 } : Room) #[(.ref p0), (.int (4 : Int32))] h0 (Q11 Z h0 n0) := by
  refine MetFree.of_bodySF pf_11 hisR ?_
  intro p e s m args below meth c s₁ Bd hml0 hP hK
  obtain ⟨rfl, hZ, hh⟩ := hP
  have hx := Bd.exec
  have hby := Bd.bytes
  have hlk : meth.locks = false := BodyLoose.notSynchronized Bd
  have hml : c.maxLocals = 3 := hml0
  have hown : s.vm.findClass "java/util/Arrays" = some m.cls := findClass_of_methodNamed Bd.named
  have hnm := (name_of_methodNamed Bd.named Bd.method).1
  have X0 : Stand p l e ({ frames := 1, cells := 1, slots := 4, locals := 40 } : Room) s m #[(.ref p0), (.int (4 : Int32))] below meth c s₁ [] 0 0 := Stand.of_body Bd
  have e0 : s₁.heap = h0 := by rw [← hh, Bd.state]; rfl
  have N0 := Fr.nil n0
  have K0 := Keep.refl h0 []
  show own_Go p.tables e below s (Q11 Z h0 n0) ({ frames := 1, cells := 1, slots := 4, locals := 40 } : Room).cells ({ frames := 1, cells := 1, slots := 4, locals := 40 } : Room).slots _
  refine own_by (fun _ k => castTop (ef_11 m p0) k) ?_
  show own_Go p.tables e below s _ _ _ (s₁.setTop (mkF m 0 #[.val (.ref p0), .val (.int (4 : Int32)), .unset] []))
  refine own_by (fun _ kz => XS.iloadN X0.here hx rfl (hb hby d11_0) rfl kz) ?_
  show own_Go p.tables e below s _ _ _ (s₁.setTop (mkF m 1 #[.val (.ref p0), .val (.int (4 : Int32)), .unset] [(.int (4 : Int32))]))
  refine own_by (fun _ kz => XS.aloadN X0.here hx rfl (hb hby d11_1) rfl rfl kz) ?_
  show own_Go p.tables e below s _ _ _ (s₁.setTop (mkF m 2 #[.val (.ref p0), .val (.int (4 : Int32)), .unset] [(.ref p0), (.int (4 : Int32))]))
  obtain ⟨cl1, Ar1, qk1, Sz1, Nn1, Hs1, Gt1⟩ := id V0
  refine own_by (fun _ kz => X0.arraylength hx (by rw [e0]; exact Ar1.1) (State.isArrayOf_alike hZ.alike Ar1.2.1) (g := (mkF m 2 #[.val (.ref p0), .val (.int (4 : Int32)), .unset] [(.ref p0), (.int (4 : Int32))])) rfl rfl (hb hby d11_2) _ kz) ?_
  rw [len_of Sz1 Nn1]
  show own_Go p.tables e below s _ _ _ (s₁.setTop (mkF m 3 #[.val (.ref p0), .val (.int (4 : Int32)), .unset] [(.int (0 : Int32)), (.int (4 : Int32))]))
  refine own_by (fun _ kz => XS.icmpYes X0.here hx rfl (pc0 := 3) (pc' := 14) rfl (hb hby d11_3) rfl (feq (by decide : ¬ ((4 : Int32) = (0 : Int32)))).2 (by decide) (by decide) kz) ?_
  show own_Go p.tables e below s _ _ _ (s₁.setTop (mkF m 14 #[.val (.ref p0), .val (.int (4 : Int32)), .unset] []))
  refine own_by (fun _ kz => XS.iloadN X0.here hx rfl (hb hby d11_14) rfl kz) ?_
  show own_Go p.tables e below s _ _ _ (s₁.setTop (mkF m 15 #[.val (.ref p0), .val (.int (4 : Int32)), .unset] [(.int (4 : Int32))]))
  obtain ⟨T2, h2, k2, X2, e2, E2, A2, Ex2, st2⟩ := newPE X0 hx hZ (hw _ (List.mem_of_getElem? (i := 24) rfl)) e0 (g := (mkF m 15 #[.val (.ref p0), .val (.int (4 : Int32)), .unset] [(.int (4 : Int32))])) rfl (hb hby d11_15) rfl (by decide) (cap := 4) (by decide) (by decide) (by decide) (by decide) (ad := "[I") rfl
  obtain ⟨b2, g2⟩ : ∃ z, z = h0.size := ⟨_, rfl⟩
  rw [← g2] at A2 Ex2 st2
  have ge_b2 : n0 ≤ b2 := Nat.le_trans Z0 (Nat.le_of_eq g2.symm)
  have sz_b2 : h0.size ≤ b2 := Nat.le_trans K0.1 (Nat.le_of_eq g2.symm)
  have ne_p0_b2 : p0 ≠ b2 := by rw [g2]; exact Nat.ne_of_lt V0.lt
  have Z2 : n0 ≤ h2.size := Nat.le_trans Z0 E2.1
  have K2 := K0.ext E2
  have V0_h2 := V0.ext E2
  have V2 : Arv Z h2 b2 k2 .int (4 : Int32) [.int (0 : Int32), .int (0 : Int32), .int (0 : Int32), .int (0 : Int32)] (.int (0 : Int32)) := (Arv.new A2 (by decide)).pad (fun i => pad_rep [] _ 4 i)
  refine own_by st2 ?_
  show own_Go p.tables e below s _ _ _ (T2.setTop (mkF m 17 #[.val (.ref p0), .val (.int (4 : Int32)), .unset] [(.ref b2)]))
  refine own_by (fun _ kz => XS.astoreN X2.here hx rfl (hb hby d11_17) rfl rfl (l' := #[.val (.ref p0), .val (.int (4 : Int32)), .val (.ref b2)]) rfl kz) ?_
  show own_Go p.tables e below s _ _ _ (T2.setTop (mkF m 18 #[.val (.ref p0), .val (.int (4 : Int32)), .val (.ref b2)] []))
  refine own_by (fun _ kz => XS.aloadN X2.here hx rfl (hb hby d11_18) rfl rfl kz) ?_
  show own_Go p.tables e below s _ _ _ (T2.setTop (mkF m 19 #[.val (.ref p0), .val (.int (4 : Int32)), .val (.ref b2)] [(.ref p0)]))
  refine own_by (fun _ kz => XS.iconst X2.here hx rfl (hb hby d11_19) kz) ?_
  show own_Go p.tables e below s _ _ _ (T2.setTop (mkF m 20 #[.val (.ref p0), .val (.int (4 : Int32)), .val (.ref b2)] [(.int (0 : Int32)), (.ref p0)]))
  refine own_by (fun _ kz => XS.aloadN X2.here hx rfl (hb hby d11_20) rfl rfl kz) ?_
  show own_Go p.tables e below s _ _ _ (T2.setTop (mkF m 21 #[.val (.ref p0), .val (.int (4 : Int32)), .val (.ref b2)] [(.ref b2), (.int (0 : Int32)), (.ref p0)]))
  refine own_by (fun _ kz => XS.iconst X2.here hx rfl (hb hby d11_21) kz) ?_
  show own_Go p.tables e below s _ _ _ (T2.setTop (mkF m 22 #[.val (.ref p0), .val (.int (4 : Int32)), .val (.ref b2)] [(.int (0 : Int32)), (.ref b2), (.int (0 : Int32)), (.ref p0)]))
  refine own_by (fun _ kz => XS.aloadN X2.here hx rfl (hb hby d11_22) rfl rfl kz) ?_
  show own_Go p.tables e below s _ _ _ (T2.setTop (mkF m 23 #[.val (.ref p0), .val (.int (4 : Int32)), .val (.ref b2)] [(.ref p0), (.int (0 : Int32)), (.ref b2), (.int (0 : Int32)), (.ref p0)]))
  obtain ⟨cl3, Ar3, qk3, Sz3, Nn3, Hs3, Gt3⟩ := id V0_h2
  refine own_by (fun _ kz => X2.arraylength hx (by rw [e2]; exact Ar3.1) (State.isArrayOf_alike hZ.alike Ar3.2.1) (g := (mkF m 23 #[.val (.ref p0), .val (.int (4 : Int32)), .val (.ref b2)] [(.ref p0), (.int (0 : Int32)), (.ref b2), (.int (0 : Int32)), (.ref p0)])) rfl rfl (hb hby d11_23) _ kz) ?_
  rw [len_of Sz3 Nn3]
  show own_Go p.tables e below s _ _ _ (T2.setTop (mkF m 24 #[.val (.ref p0), .val (.int (4 : Int32)), .val (.ref b2)] [(.int (0 : Int32)), (.int (0 : Int32)), (.ref b2), (.int (0 : Int32)), (.ref p0)]))
  refine own_by (fun _ kz => XS.iloadN X2.here hx rfl (hb hby d11_24) rfl kz) ?_
  show own_Go p.tables e below s _ _ _ (T2.setTop (mkF m 25 #[.val (.ref p0), .val (.int (4 : Int32)), .val (.ref b2)] [(.int (4 : Int32)), (.int (0 : Int32)), (.int (0 : Int32)), (.ref b2), (.int (0 : Int32)), (.ref p0)]))
  obtain ⟨v4, T4, L4, X4, q4, st4⟩ := own_callS X2 hx hZ hown (hw _ (List.mem_of_getElem? (i := 58) rfl)) (hw _ (List.mem_of_getElem? (i := 1) rfl)) (hw _ (List.mem_of_getElem? (i := 2) rfl)) (hw _ (List.mem_of_getElem? (i := 3) rfl)) (by decide) (rm1 l Z a0 hw [] (0 : Int32) (4 : Int32) h2 n0 Z2) (W := 4) (by decide) (by decide) e2 (g := (mkF m 25 #[.val (.ref p0), .val (.int (4 : Int32)), .val (.ref b2)] [(.int (4 : Int32)), (.int (0 : Int32)), (.int (0 : Int32)), (.ref b2), (.int (0 : Int32)), (.ref p0)])) rfl (by rw [hml]; rfl) (argsL := [(.int (0 : Int32)), (.int (4 : Int32))]) (rest := [(.int (0 : Int32)), (.ref b2), (.int (0 : Int32)), (.ref p0)]) (lenOf pd_1 rfl) rfl rfl (by show 2 * 0 + _ ≤ _; exact Nat.le_of_eq rfl) (hb hby d11_25) (by decide) (by decide)
  obtain ⟨rfl, Nq4, hh4⟩ := q4
  have N4 := Fr.app N0 Nq4
  refine own_by st4 ?_
  show own_Go p.tables e below s _ _ _ (T4.setTop (mkF m 28 #[.val (.ref p0), .val (.int (4 : Int32)), .val (.ref b2)] [(.int (if (4 : Int32) < (0 : Int32) then (4 : Int32) else (0 : Int32))), (.int (0 : Int32)), (.ref b2), (.int (0 : Int32)), (.ref p0)]))
  rw [if_neg (by decide : ¬ (4 : Int32) < (0 : Int32))]
  show own_Go p.tables e below s _ _ _ (T4.setTop (mkF m 28 #[.val (.ref p0), .val (.int (4 : Int32)), .val (.ref b2)] [(.int (0 : Int32)), (.int (0 : Int32)), (.ref b2), (.int (0 : Int32)), (.ref p0)]))
  obtain ⟨T5, h5, L5, X5, e5, N5, Kc5, V5, st5⟩ := cpA X4 hx hZ hown (hw _ (List.mem_of_getElem? (i := 59) rfl)) (hw _ (List.mem_of_getElem? (i := 62) rfl)) (hw _ (List.mem_of_getElem? (i := 60) rfl)) (hw _ (List.mem_of_getElem? (i := 61) rfl)) hh4 V0_h2 V2 (us := []) (Or.inl ⟨rfl, rfl⟩) (sp := (0 : Int32)) (dp := (0 : Int32)) (nn := (0 : Int32)) (by decide) (by decide) (by decide) (by decide) (by decide) rfl (by decide) N4 ge_b2 (g := (mkF m 28 #[.val (.ref p0), .val (.int (4 : Int32)), .val (.ref b2)] [(.int (0 : Int32)), (.int (0 : Int32)), (.ref b2), (.int (0 : Int32)), (.ref p0)])) rfl (by rw [hml]; rfl) rfl (hb hby d11_28) (by decide) (W := 0) (by show 2 * 0 + _ ≤ _; exact Nat.le_of_eq rfl) (by decide)
  have K5 := K2.trans Kc5 (allS (Or.inr sz_b2) all0)
  have Ey5 := Ex2.keep Kc5
  refine own_by st5 ?_
  show own_Go p.tables e below s _ _ _ (T5.setTop (mkF m 31 #[.val (.ref p0), .val (.int (4 : Int32)), .val (.ref b2)] []))
  refine own_by (fun _ kz => XS.aloadN X5.here hx rfl (hb hby d11_31) rfl rfl kz) ?_
  show own_Go p.tables e below s _ _ _ (T5.setTop (mkF m 32 #[.val (.ref p0), .val (.int (4 : Int32)), .val (.ref b2)] [(.ref b2)]))
  exact own_retA X5 hx hlk Bd.returns rfl (hb hby d11_32) (by decide) (by decide) ⟨_, _, rfl, N5, by rw [e5]; exact K5, sz_b2, by rw [e5]; exact Ey5, by rw [e5]; exact V5⟩
theorem d4_0 : decode jdk_65_method_117_code 0 = .ok (.iconst 0, 1) := by decide +kernel
theorem d4_1 : decode jdk_65_method_117_code 1 = .ok (.istore_n 2, 1) := by decide +kernel
theorem d4_2 : decode jdk_65_method_117_code 2 = .ok (.aload_n 0, 1) := by decide +kernel
theorem d4_3 : decode jdk_65_method_117_code 3 = .ok (.arraylength, 1) := by decide +kernel
theorem d4_4 : decode jdk_65_method_117_code 4 = .ok (.istore_n 3, 1) := by decide +kernel
theorem d4_5 : decode jdk_65_method_117_code 5 = .ok (.iload_n 2, 1) := by decide +kernel
theorem d4_6 : decode jdk_65_method_117_code 6 = .ok (.iload_n 3, 1) := by decide +kernel
theorem d4_7 : decode jdk_65_method_117_code 7 = .ok (.if_icmp .ge 13, 3) := by decide +kernel
theorem d4_10 : decode jdk_65_method_117_code 10 = .ok (.aload_n 0, 1) := by decide +kernel
theorem d4_11 : decode jdk_65_method_117_code 11 = .ok (.iload_n 2, 1) := by decide +kernel
theorem d4_12 : decode jdk_65_method_117_code 12 = .ok (.aload_n 1, 1) := by decide +kernel
theorem d4_13 : decode jdk_65_method_117_code 13 = .ok (.aastore, 1) := by decide +kernel
theorem d4_14 : decode jdk_65_method_117_code 14 = .ok (.iinc 2 1, 3) := by decide +kernel
theorem d4_17 : decode jdk_65_method_117_code 17 = .ok (.goto (-12), 3) := by decide +kernel
theorem d4_20 : decode jdk_65_method_117_code 20 = .ok (.return_, 1) := by decide +kernel
theorem pf_4 : plainFor (⟨"java/util/Arrays", "fill", "([Ljava/lang/Object;Ljava/lang/Object;)V"⟩ : MethodName) = true := by first | exact plainFor_of_name (by first | (simp [plainName, overriddenIn]; done) | decide +kernel) | decide +kernel
theorem pd_4 : parseMethodDescriptor "([Ljava/lang/Object;Ljava/lang/Object;)V" = some ⟨[(.array (.object "java/lang/Object")), (.object "java/lang/Object")], none⟩ := by decide +kernel
theorem ef_4 (m : MethodId) (p0 : Addr) (p1 : Addr) : entryFrame m #[(.ref p0), (.ref p1)] 4 = mkF m 0 #[.val (.ref p0), .val (.ref p1), .unset, .unset] [] := by first | (simp [entryFrame, mkF, argsToLocals, Value.category]; done) | rfl
def Q4 (Z : State) (p0 : Addr) (p1 : Addr) (kt : ClassId) (h0 : Heap) (n0 : Nat) (v : Option Value) (h : Heap) (L : List Loc) : Prop := v = none ∧ Fr n0 L ∧ Keep h0 h [p0] ∧ Arv Z h p0 kt (.array .int) (2 : Int32) [.ref p1, .ref p1] .null
set_option maxRecDepth 65536 in
set_option maxHeartbeats 40000000 in
theorem rm4 (l : Launch) (Z : State) (a0 : Array Value) (hw : ∀ d ∈ tables_1, d.before a0 Z = true) (ws : List Jvm.Cond) (p0 : Addr) (p1 : Addr) (h0 : Heap) (n0 : Nat) (Z0 : n0 ≤ h0.size) (kt : ClassId) (Ov0 : OvrA Z kt .int "[I") (V0 : Arv Z h0 p0 kt (.array .int) (2 : Int32) [.null, .null] .null) (E0 : Exa Z h0 p1 "[I") (ge0 : n0 ≤ p0) :
    own_Met l Z (⟨"java/util/Arrays", "fill", "([Ljava/lang/Object;Ljava/lang/Object;)V"⟩ : MethodName) jdk_65_method_117_code 4 none ws ({ frames := 0, cells := 0, slots := 0, locals := 0 } : Room) #[(.ref p0), (.ref p1)] h0 (Q4 Z p0 p1 kt h0 n0) := by
  refine MetFree.of_bodySF pf_4 hisR ?_
  intro p e s m args below meth c s₁ Bd hml0 hP hK
  obtain ⟨rfl, hZ, hh⟩ := hP
  have hx := Bd.exec
  have hby := Bd.bytes
  have hlk : meth.locks = false := BodyLoose.notSynchronized Bd
  have hml : c.maxLocals = 4 := hml0
  have hown : s.vm.findClass "java/util/Arrays" = some m.cls := findClass_of_methodNamed Bd.named
  have hnm := (name_of_methodNamed Bd.named Bd.method).1
  have X0 : Stand p l e ({ frames := 0, cells := 0, slots := 0, locals := 0 } : Room) s m #[(.ref p0), (.ref p1)] below meth c s₁ [] 0 0 := Stand.of_body Bd
  have e0 : s₁.heap = h0 := by rw [← hh, Bd.state]; rfl
  have N0 := Fr.nil n0
  have K0 := Keep.refl h0 [p0]
  show own_Go p.tables e below s (Q4 Z p0 p1 kt h0 n0) ({ frames := 0, cells := 0, slots := 0, locals := 0 } : Room).cells ({ frames := 0, cells := 0, slots := 0, locals := 0 } : Room).slots _
  refine own_by (fun _ k => castTop (ef_4 m p0 p1) k) ?_
  show own_Go p.tables e below s _ _ _ (s₁.setTop (mkF m 0 #[.val (.ref p0), .val (.ref p1), .unset, .unset] []))
  refine own_by (fun _ kz => XS.iconst X0.here hx rfl (hb hby d4_0) kz) ?_
  show own_Go p.tables e below s _ _ _ (s₁.setTop (mkF m 1 #[.val (.ref p0), .val (.ref p1), .unset, .unset] [(.int (0 : Int32))]))
  refine own_by (fun _ kz => XS.istoreN X0.here hx rfl (hb hby d4_1) rfl (l' := #[.val (.ref p0), .val (.ref p1), .val (.int (0 : Int32)), .unset]) rfl kz) ?_
  show own_Go p.tables e below s _ _ _ (s₁.setTop (mkF m 2 #[.val (.ref p0), .val (.ref p1), .val (.int (0 : Int32)), .unset] []))
  refine own_by (fun _ kz => XS.aloadN X0.here hx rfl (hb hby d4_2) rfl rfl kz) ?_
  show own_Go p.tables e below s _ _ _ (s₁.setTop (mkF m 3 #[.val (.ref p0), .val (.ref p1), .val (.int (0 : Int32)), .unset] [(.ref p0)]))
  obtain ⟨cl1, Ar1, qk1, Sz1, Nn1, Hs1, Gt1⟩ := id V0
  refine own_by (fun _ kz => X0.arraylength hx (by rw [e0]; exact Ar1.1) (State.isArrayOf_alike hZ.alike Ar1.2.1) (g := (mkF m 3 #[.val (.ref p0), .val (.ref p1), .val (.int (0 : Int32)), .unset] [(.ref p0)])) rfl rfl (hb hby d4_3) _ kz) ?_
  rw [len_of Sz1 Nn1]
  show own_Go p.tables e below s _ _ _ (s₁.setTop (mkF m 4 #[.val (.ref p0), .val (.ref p1), .val (.int (0 : Int32)), .unset] [(.int (2 : Int32))]))
  refine own_by (fun _ kz => XS.istoreN X0.here hx rfl (hb hby d4_4) rfl (l' := #[.val (.ref p0), .val (.ref p1), .val (.int (0 : Int32)), .val (.int (2 : Int32))]) rfl kz) ?_
  show own_Go p.tables e below s _ _ _ (s₁.setTop (mkF m 5 #[.val (.ref p0), .val (.ref p1), .val (.int (0 : Int32)), .val (.int (2 : Int32))] []))
  refine own_by (fun _ kz => XS.iloadN X0.here hx rfl (hb hby d4_5) rfl kz) ?_
  show own_Go p.tables e below s _ _ _ (s₁.setTop (mkF m 6 #[.val (.ref p0), .val (.ref p1), .val (.int (0 : Int32)), .val (.int (2 : Int32))] [(.int (0 : Int32))]))
  refine own_by (fun _ kz => XS.iloadN X0.here hx rfl (hb hby d4_6) rfl kz) ?_
  show own_Go p.tables e below s _ _ _ (s₁.setTop (mkF m 7 #[.val (.ref p0), .val (.ref p1), .val (.int (0 : Int32)), .val (.int (2 : Int32))] [(.int (2 : Int32)), (.int (0 : Int32))]))
  refine own_by (fun _ kz => XS.icmpNo X0.here hx rfl (hb hby d4_7) rfl (tlt (by decide : ((0 : Int32) < (2 : Int32)))).2.1 kz) ?_
  show own_Go p.tables e below s _ _ _ (s₁.setTop (mkF m 10 #[.val (.ref p0), .val (.ref p1), .val (.int (0 : Int32)), .val (.int (2 : Int32))] []))
  refine own_by (fun _ kz => XS.aloadN X0.here hx rfl (hb hby d4_10) rfl rfl kz) ?_
  show own_Go p.tables e below s _ _ _ (s₁.setTop (mkF m 11 #[.val (.ref p0), .val (.ref p1), .val (.int (0 : Int32)), .val (.int (2 : Int32))] [(.ref p0)]))
  refine own_by (fun _ kz => XS.iloadN X0.here hx rfl (hb hby d4_11) rfl kz) ?_
  show own_Go p.tables e below s _ _ _ (s₁.setTop (mkF m 12 #[.val (.ref p0), .val (.ref p1), .val (.int (0 : Int32)), .val (.int (2 : Int32))] [(.int (0 : Int32)), (.ref p0)]))
  refine own_by (fun _ kz => XS.aloadN X0.here hx rfl (hb hby d4_12) rfl rfl kz) ?_
  show own_Go p.tables e below s _ _ _ (s₁.setTop (mkF m 13 #[.val (.ref p0), .val (.ref p1), .val (.int (0 : Int32)), .val (.int (2 : Int32))] [(.ref p1), (.int (0 : Int32)), (.ref p0)]))
  obtain ⟨T2, h2, X2, e2, W2, st2⟩ := own_stA X0 hx hZ e0 V0 Ov0 (Ins.self E0) (j := (0 : Int32)) (by decide) (g := (mkF m 13 #[.val (.ref p0), .val (.ref p1), .val (.int (0 : Int32)), .val (.int (2 : Int32))] [(.ref p1), (.int (0 : Int32)), (.ref p0)])) rfl rfl (hb hby d4_13)
  have N2 := Fr.snoc X2 N0 ge0
  have K2 := K0.wr W2 (Or.inl (List.mem_of_getElem? (i := 0) rfl))
  have V2 : Arv Z h2 p0 kt (.array .int) (2 : Int32) [(.ref p1), .null] .null := own_set V0 rfl W2 (i := 0) rfl (Nat.le_of_ble_eq_true rfl)
  have Ez2 := E0.wr W2
  refine own_by st2 ?_
  show own_Go p.tables e below s _ _ _ (T2.setTop (mkF m 14 #[.val (.ref p0), .val (.ref p1), .val (.int (0 : Int32)), .val (.int (2 : Int32))] []))
  refine own_by (fun _ kz => XS.iinc X2.here hx rfl (hb hby d4_14) rfl (l' := #[.val (.ref p0), .val (.ref p1), .val (.int (1 : Int32)), .val (.int (2 : Int32))]) rfl kz) ?_
  show own_Go p.tables e below s _ _ _ (T2.setTop (mkF m 17 #[.val (.ref p0), .val (.ref p1), .val (.int (1 : Int32)), .val (.int (2 : Int32))] []))
  refine own_by (fun _ kz => XS.goto X2.here hx rfl (pc0 := 17) (pc' := 5) rfl (hb hby d4_17) (by decide) (by decide) kz) ?_
  show own_Go p.tables e below s _ _ _ (T2.setTop (mkF m 5 #[.val (.ref p0), .val (.ref p1), .val (.int (1 : Int32)), .val (.int (2 : Int32))] []))
  refine own_by (fun _ kz => XS.iloadN X2.here hx rfl (hb hby d4_5) rfl kz) ?_
  show own_Go p.tables e below s _ _ _ (T2.setTop (mkF m 6 #[.val (.ref p0), .val (.ref p1), .val (.int (1 : Int32)), .val (.int (2 : Int32))] [(.int (1 : Int32))]))
  refine own_by (fun _ kz => XS.iloadN X2.here hx rfl (hb hby d4_6) rfl kz) ?_
  show own_Go p.tables e below s _ _ _ (T2.setTop (mkF m 7 #[.val (.ref p0), .val (.ref p1), .val (.int (1 : Int32)), .val (.int (2 : Int32))] [(.int (2 : Int32)), (.int (1 : Int32))]))
  refine own_by (fun _ kz => XS.icmpNo X2.here hx rfl (hb hby d4_7) rfl (tlt (by decide : ((1 : Int32) < (2 : Int32)))).2.1 kz) ?_
  show own_Go p.tables e below s _ _ _ (T2.setTop (mkF m 10 #[.val (.ref p0), .val (.ref p1), .val (.int (1 : Int32)), .val (.int (2 : Int32))] []))
  refine own_by (fun _ kz => XS.aloadN X2.here hx rfl (hb hby d4_10) rfl rfl kz) ?_
  show own_Go p.tables e below s _ _ _ (T2.setTop (mkF m 11 #[.val (.ref p0), .val (.ref p1), .val (.int (1 : Int32)), .val (.int (2 : Int32))] [(.ref p0)]))
  refine own_by (fun _ kz => XS.iloadN X2.here hx rfl (hb hby d4_11) rfl kz) ?_
  show own_Go p.tables e below s _ _ _ (T2.setTop (mkF m 12 #[.val (.ref p0), .val (.ref p1), .val (.int (1 : Int32)), .val (.int (2 : Int32))] [(.int (1 : Int32)), (.ref p0)]))
  refine own_by (fun _ kz => XS.aloadN X2.here hx rfl (hb hby d4_12) rfl rfl kz) ?_
  show own_Go p.tables e below s _ _ _ (T2.setTop (mkF m 13 #[.val (.ref p0), .val (.ref p1), .val (.int (1 : Int32)), .val (.int (2 : Int32))] [(.ref p1), (.int (1 : Int32)), (.ref p0)]))
  obtain ⟨T3, h3, X3, e3, W3, st3⟩ := own_stA X2 hx hZ e2 V2 Ov0 (Ins.self Ez2) (j := (1 : Int32)) (by decide) (g := (mkF m 13 #[.val (.ref p0), .val (.ref p1), .val (.int (1 : Int32)), .val (.int (2 : Int32))] [(.ref p1), (.int (1 : Int32)), (.ref p0)])) rfl rfl (hb hby d4_13)
  have N3 := Fr.snoc X3 N2 ge0
  have K3 := K2.wr W3 (Or.inl (List.mem_of_getElem? (i := 0) rfl))
  have V3 : Arv Z h3 p0 kt (.array .int) (2 : Int32) [(.ref p1), (.ref p1)] .null := own_set V2 rfl W3 (i := 1) rfl (Nat.le_of_ble_eq_true rfl)
  have Ez3 := Ez2.wr W3
  refine own_by st3 ?_
  show own_Go p.tables e below s _ _ _ (T3.setTop (mkF m 14 #[.val (.ref p0), .val (.ref p1), .val (.int (1 : Int32)), .val (.int (2 : Int32))] []))
  refine own_by (fun _ kz => XS.iinc X3.here hx rfl (hb hby d4_14) rfl (l' := #[.val (.ref p0), .val (.ref p1), .val (.int (2 : Int32)), .val (.int (2 : Int32))]) rfl kz) ?_
  show own_Go p.tables e below s _ _ _ (T3.setTop (mkF m 17 #[.val (.ref p0), .val (.ref p1), .val (.int (2 : Int32)), .val (.int (2 : Int32))] []))
  refine own_by (fun _ kz => XS.goto X3.here hx rfl (pc0 := 17) (pc' := 5) rfl (hb hby d4_17) (by decide) (by decide) kz) ?_
  show own_Go p.tables e below s _ _ _ (T3.setTop (mkF m 5 #[.val (.ref p0), .val (.ref p1), .val (.int (2 : Int32)), .val (.int (2 : Int32))] []))
  refine own_by (fun _ kz => XS.iloadN X3.here hx rfl (hb hby d4_5) rfl kz) ?_
  show own_Go p.tables e below s _ _ _ (T3.setTop (mkF m 6 #[.val (.ref p0), .val (.ref p1), .val (.int (2 : Int32)), .val (.int (2 : Int32))] [(.int (2 : Int32))]))
  refine own_by (fun _ kz => XS.iloadN X3.here hx rfl (hb hby d4_6) rfl kz) ?_
  show own_Go p.tables e below s _ _ _ (T3.setTop (mkF m 7 #[.val (.ref p0), .val (.ref p1), .val (.int (2 : Int32)), .val (.int (2 : Int32))] [(.int (2 : Int32)), (.int (2 : Int32))]))
  refine own_by (fun _ kz => XS.icmpYes X3.here hx rfl (pc0 := 7) (pc' := 20) rfl (hb hby d4_7) rfl (flt (by decide : ¬ ((2 : Int32) < (2 : Int32)))).2.1 (by decide) (by decide) kz) ?_
  show own_Go p.tables e below s _ _ _ (T3.setTop (mkF m 20 #[.val (.ref p0), .val (.ref p1), .val (.int (2 : Int32)), .val (.int (2 : Int32))] []))
  exact own_retV X3 hx hlk Bd.returns (hb hby d4_20) (by decide) (by decide) ⟨rfl, N3, by rw [e3]; exact K3, by rw [e3]; exact V3⟩
theorem d2_0 : decode prog_50_method_1_code 0 = .ok (.aload_n 0, 1) := by decide +kernel
theorem d2_1 : decode prog_50_method_1_code 1 = .ok (.invokespecial 1, 3) := by decide +kernel
theorem d2_4 : decode prog_50_method_1_code 4 = .ok (.aload_n 0, 1) := by decide +kernel
theorem d2_5 : decode prog_50_method_1_code 5 = .ok (.iload_n 1, 1) := by decide +kernel
theorem d2_6 : decode prog_50_method_1_code 6 = .ok (.anewarray 7, 3) := by decide +kernel
theorem d2_9 : decode prog_50_method_1_code 9 = .ok (.putfield 9, 3) := by decide +kernel
theorem d2_12 : decode prog_50_method_1_code 12 = .ok (.aload_n 0, 1) := by decide +kernel
theorem d2_13 : decode prog_50_method_1_code 13 = .ok (.getfield 9, 3) := by decide +kernel
theorem d2_16 : decode prog_50_method_1_code 16 = .ok (.getstatic 15, 3) := by decide +kernel
theorem d2_19 : decode prog_50_method_1_code 19 = .ok (.invokestatic 18, 3) := by decide +kernel
theorem d2_22 : decode prog_50_method_1_code 22 = .ok (.aload_n 0, 1) := by decide +kernel
theorem d2_23 : decode prog_50_method_1_code 23 = .ok (.iload_n 1, 1) := by decide +kernel
theorem d2_24 : decode prog_50_method_1_code 24 = .ok (.newarray .int, 2) := by decide +kernel
theorem d2_26 : decode prog_50_method_1_code 26 = .ok (.putfield 24, 3) := by decide +kernel
theorem d2_29 : decode prog_50_method_1_code 29 = .ok (.aload_n 0, 1) := by decide +kernel
theorem d2_30 : decode prog_50_method_1_code 30 = .ok (.iload_n 1, 1) := by decide +kernel
theorem d2_31 : decode prog_50_method_1_code 31 = .ok (.newarray .int, 2) := by decide +kernel
theorem d2_33 : decode prog_50_method_1_code 33 = .ok (.putfield 27, 3) := by decide +kernel
theorem d2_36 : decode prog_50_method_1_code 36 = .ok (.return_, 1) := by decide +kernel
theorem pf_2 : plainFor (⟨"cyclebreak/collector/ReferenceTable", "<init>", "(I)V"⟩ : MethodName) = true := by first | exact plainFor_of_name (by first | (simp [plainName, overriddenIn]; done) | decide +kernel) | decide +kernel
theorem pd_2 : parseMethodDescriptor "(I)V" = some ⟨[.int], none⟩ := by decide +kernel
theorem ef_2 (m : MethodId) (p0 : Addr) : entryFrame m #[(.ref p0), (.int (2 : Int32))] 2 = mkF m 0 #[.val (.ref p0), .val (.int (2 : Int32))] [] := by first | (simp [entryFrame, mkF, argsToLocals, Value.category]; done) | rfl
def Q2 (Z : State) (p0 : Addr) (N : Addr) (h0 : Heap) (n0 : Nat) (v : Option Value) (h : Heap) (L : List Loc) : Prop := ∃ t c f : Addr, v = none ∧ Fr n0 L ∧ n0 ≤ h.size ∧ own_Tab Z n0 N p0 t c f 0 h N N 0 0 0 0 [0, 0, 0, 0] [0, 0, 0, 0]
set_option maxRecDepth 65536 in
set_option maxHeartbeats 40000000 in
theorem rm2 (l : Launch) (Z : State) (a0 : Array Value) (hw : ∀ d ∈ tables_1, d.before a0 Z = true) (ws : List Jvm.Cond) (p0 : Addr) (h0 : Heap) (n0 : Nat) (Z0 : n0 ≤ h0.size) (N : Addr) (kN : ClassId) (O0 : Old Z n0 h0) (SN : Sta Z Z.heap "cyclebreak/collector/ReferenceTable" "NONE" "[I" (.ref N)) (EN : Exa Z Z.heap N "[I") (VN : Arv Z Z.heap N kN .int 0 [] (.int (0 : Int32))) (hN : N < n0) (Ex0 : Exa Z h0 p0 "cyclebreak/collector/ReferenceTable") (Fatargets : Fld Z h0 p0 "cyclebreak/collector/ReferenceTable" "targets" "[[I" .null) (Facounts : Fld Z h0 p0 "cyclebreak/collector/ReferenceTable" "counts" "[I" .null) (Fafixed : Fld Z h0 p0 "cyclebreak/collector/ReferenceTable" "fixed" "[I" .null) (ge0 : n0 ≤ p0) :
    own_Met l Z (⟨"cyclebreak/collector/ReferenceTable", "<init>", "(I)V"⟩ : MethodName) prog_50_method_1_code 2 none ws ({ frames := 1, cells := 3, slots := 6, locals := 24 } : Room) #[(.ref p0), (.int (2 : Int32))] h0 (Q2 Z p0 N h0 n0) := by
  refine MetFree.of_bodySF pf_2 hisR ?_
  intro p e s m args below meth c s₁ Bd hml0 hP hK
  obtain ⟨rfl, hZ, hh⟩ := hP
  have hx := Bd.exec
  have hby := Bd.bytes
  have hlk : meth.locks = false := BodyLoose.notSynchronized Bd
  have hml : c.maxLocals = 2 := hml0
  have hown : s.vm.findClass "cyclebreak/collector/ReferenceTable" = some m.cls := findClass_of_methodNamed Bd.named
  have hnm := (name_of_methodNamed Bd.named Bd.method).1
  have X0 : Stand p l e ({ frames := 1, cells := 3, slots := 6, locals := 24 } : Room) s m #[(.ref p0), (.int (2 : Int32))] below meth c s₁ [] 0 0 := Stand.of_body Bd
  have e0 : s₁.heap = h0 := by rw [← hh, Bd.state]; rfl
  have N0 := Fr.nil n0
  show own_Go p.tables e below s (Q2 Z p0 N h0 n0) ({ frames := 1, cells := 3, slots := 6, locals := 24 } : Room).cells ({ frames := 1, cells := 3, slots := 6, locals := 24 } : Room).slots _
  refine own_by (fun _ k => castTop (ef_2 m p0) k) ?_
  show own_Go p.tables e below s _ _ _ (s₁.setTop (mkF m 0 #[.val (.ref p0), .val (.int (2 : Int32))] []))
  refine own_by (fun _ kz => XS.aloadN X0.here hx rfl (hb hby d2_0) rfl rfl kz) ?_
  show own_Go p.tables e below s _ _ _ (s₁.setTop (mkF m 1 #[.val (.ref p0), .val (.int (2 : Int32))] [(.ref p0)]))
  obtain ⟨T1, X1, e1, st1⟩ := initO X0 hx hZ hown (hw _ (List.mem_of_getElem? (i := 10) rfl)) (hw _ (List.mem_of_getElem? (i := 11) rfl)) (hw _ (List.mem_of_getElem? (i := 12) rfl)) e0 (g := (mkF m 1 #[.val (.ref p0), .val (.int (2 : Int32))] [(.ref p0)])) rfl (by rw [hml]; rfl) rfl (hb hby d2_1) (by decide) (W := 0) (by show 2 * 0 + _ ≤ _; exact Nat.le_of_eq rfl) (by decide)
  refine own_by st1 ?_
  show own_Go p.tables e below s _ _ _ (T1.setTop (mkF m 4 #[.val (.ref p0), .val (.int (2 : Int32))] []))
  refine own_by (fun _ kz => XS.aloadN X1.here hx rfl (hb hby d2_4) rfl rfl kz) ?_
  show own_Go p.tables e below s _ _ _ (T1.setTop (mkF m 5 #[.val (.ref p0), .val (.int (2 : Int32))] [(.ref p0)]))
  refine own_by (fun _ kz => XS.iloadN X1.here hx rfl (hb hby d2_5) rfl kz) ?_
  show own_Go p.tables e below s _ _ _ (T1.setTop (mkF m 6 #[.val (.ref p0), .val (.int (2 : Int32))] [(.int (2 : Int32)), (.ref p0)]))
  obtain ⟨T2, h2, k2, X2, e2, E2, A2, Ex2, Ov2, st2⟩ := newRA X1 hx hZ hown (ty := .int) rfl (hw _ (List.mem_of_getElem? (i := 13) rfl)) (hw _ (List.mem_of_getElem? (i := 14) rfl)) e1 (g := (mkF m 6 #[.val (.ref p0), .val (.int (2 : Int32))] [(.int (2 : Int32)), (.ref p0)])) rfl (hb hby d2_6) rfl (by decide) (cap := 2) (by decide) (by decide) (by decide) (by decide) rfl
  obtain ⟨b2, g2⟩ : ∃ z, z = h0.size := ⟨_, rfl⟩
  rw [← g2] at A2 st2
  have ge_b2 : n0 ≤ b2 := Nat.le_trans Z0 (Nat.le_of_eq g2.symm)
  have ne_p0_b2 : p0 ≠ b2 := by rw [g2]; exact Nat.ne_of_lt Ex0.lt
  have Z2 : n0 ≤ h2.size := Nat.le_trans Z0 E2.1
  have O2 := O0.ext E2
  have Ex0_h2 := Ex0.ext E2
  have Fatargets_h2 := Fatargets.ext E2
  have Facounts_h2 := Facounts.ext E2
  have Fafixed_h2 := Fafixed.ext E2
  have V2 : Arv Z h2 b2 k2 (.array .int) (2 : Int32) [.null, .null] .null := (Arv.new A2 (by decide)).pad (fun i => pad_rep [] _ 2 i)
  refine own_by st2 ?_
  show own_Go p.tables e below s _ _ _ (T2.setTop (mkF m 9 #[.val (.ref p0), .val (.int (2 : Int32))] [(.ref b2), (.ref p0)]))
  obtain ⟨T3, h3, X3, e3, W3, st3⟩ := putF X2 hx hZ hown (host := "") (Or.inl (hw _ (List.mem_of_getElem? (i := 15) rfl))) Via.refl e2 Fatargets_h2 Ex0_h2 (Or.inr ⟨ (hw _ (List.mem_of_getElem? (i := 16) rfl)), rfl, hnm⟩) (hw _ (List.mem_of_getElem? (i := 5) rfl)) (ty := (.array (.array .int))) (by decide) rfl rfl (g := (mkF m 9 #[.val (.ref p0), .val (.int (2 : Int32))] [(.ref b2), (.ref p0)])) rfl rfl (hb hby d2_9)
  have N3 := Fr.snoc X3 N0 ge0
  have Z3 : n0 ≤ h3.size := by rw [W3.size]; exact Z2
  have O3 := O2.wr W3 ge0
  have Ex0_h3 := Ex0_h2.wr W3
  have Fatargets_h3 := Fatargets_h2.same W3
  have Facounts_h3 := Facounts_h2.other W3 (Or.inr (slot_ne (Or.inr (hw _ (List.mem_of_getElem? (i := 26) rfl))) (Or.inr (hw _ (List.mem_of_getElem? (i := 16) rfl))) (by decide) (by decide : parseFieldDescriptor "[I" = some (.array .int)) (by decide : parseFieldDescriptor "[[I" = some (.array (.array .int)))))
  have Fafixed_h3 := Fafixed_h2.other W3 (Or.inr (slot_ne (Or.inr (hw _ (List.mem_of_getElem? (i := 28) rfl))) (Or.inr (hw _ (List.mem_of_getElem? (i := 16) rfl))) (by decide) (by decide : parseFieldDescriptor "[I" = some (.array .int)) (by decide : parseFieldDescriptor "[[I" = some (.array (.array .int)))))
  have V2_h3 := V2.other W3 (Ne.symm ne_p0_b2)
  refine own_by st3 ?_
  show own_Go p.tables e below s _ _ _ (T3.setTop (mkF m 12 #[.val (.ref p0), .val (.int (2 : Int32))] []))
  refine own_by (fun _ kz => XS.aloadN X3.here hx rfl (hb hby d2_12) rfl rfl kz) ?_
  show own_Go p.tables e below s _ _ _ (T3.setTop (mkF m 13 #[.val (.ref p0), .val (.int (2 : Int32))] [(.ref p0)]))
  obtain ⟨T4, X4, e4, st4⟩ := getF X3 hx hZ hown (host := "") (Or.inl (hw _ (List.mem_of_getElem? (i := 15) rfl))) Via.refl e3 Fatargets_h3 (g := (mkF m 13 #[.val (.ref p0), .val (.int (2 : Int32))] [(.ref p0)])) rfl rfl (hb hby d2_13)
  refine own_by st4 ?_
  show own_Go p.tables e below s _ _ _ (T4.setTop (mkF m 16 #[.val (.ref p0), .val (.int (2 : Int32))] [(.ref b2)]))
  obtain ⟨T5, X5, e5, st5⟩ := getS2 X4 hx hZ hown (host := "") (Or.inl (hw _ (List.mem_of_getElem? (i := 17) rfl))) Via.refl e4 (SN.ext O3.2) (g := (mkF m 16 #[.val (.ref p0), .val (.int (2 : Int32))] [(.ref b2)])) rfl (hb hby d2_16)
  refine own_by st5 ?_
  show own_Go p.tables e below s _ _ _ (T5.setTop (mkF m 19 #[.val (.ref p0), .val (.int (2 : Int32))] [(.ref N), (.ref b2)]))
  obtain ⟨v6, T6, L6, X6, q6, st6⟩ := own_callS X5 hx hZ hown (hw _ (List.mem_of_getElem? (i := 19) rfl)) (hw _ (List.mem_of_getElem? (i := 20) rfl)) (hw _ (List.mem_of_getElem? (i := 21) rfl)) (hw _ (List.mem_of_getElem? (i := 22) rfl)) (by decide) (rm4 l Z a0 hw [] b2 N h3 n0 Z3 k2 Ov2 V2_h3 (EN.ext O3.2) ge_b2) (W := 0) (by decide) (by decide) e5 (g := (mkF m 19 #[.val (.ref p0), .val (.int (2 : Int32))] [(.ref N), (.ref b2)])) rfl (by rw [hml]; rfl) (argsL := [(.ref b2), (.ref N)]) (rest := []) (lenOf pd_4 rfl) rfl rfl (by show 2 * 0 + _ ≤ _; exact Nat.le_of_eq rfl) (hb hby d2_19) (by decide) (by decide)
  obtain ⟨rfl, Nq6, Kq6, Vq6⟩ := q6
  have N6 := Fr.app N3 Nq6
  have Z6 : n0 ≤ T6.heap.size := Nat.le_trans Z3 Kq6.1
  have O6 := O3.keep Kq6 (allS ge_b2 all0)
  have Ex0_h6 := Ex0_h3.keep Kq6
  have Fatargets_h6 := Fatargets_h3.keep Kq6 (ninS ne_p0_b2 nin0)
  have Facounts_h6 := Facounts_h3.keep Kq6 (ninS ne_p0_b2 nin0)
  have Fafixed_h6 := Fafixed_h3.keep Kq6 (ninS ne_p0_b2 nin0)
  refine own_by st6 ?_
  show own_Go p.tables e below s _ _ _ (T6.setTop (mkF m 22 #[.val (.ref p0), .val (.int (2 : Int32))] []))
  refine own_by (fun _ kz => XS.aloadN X6.here hx rfl (hb hby d2_22) rfl rfl kz) ?_
  show own_Go p.tables e below s _ _ _ (T6.setTop (mkF m 23 #[.val (.ref p0), .val (.int (2 : Int32))] [(.ref p0)]))
  refine own_by (fun _ kz => XS.iloadN X6.here hx rfl (hb hby d2_23) rfl kz) ?_
  show own_Go p.tables e below s _ _ _ (T6.setTop (mkF m 24 #[.val (.ref p0), .val (.int (2 : Int32))] [(.int (2 : Int32)), (.ref p0)]))
  obtain ⟨T7, h7, k7, X7, e7, E7, A7, st7⟩ := newP X6 hx hZ (hw _ (List.mem_of_getElem? (i := 24) rfl)) rfl (g := (mkF m 24 #[.val (.ref p0), .val (.int (2 : Int32))] [(.int (2 : Int32)), (.ref p0)])) rfl (hb hby d2_24) rfl (by decide) (cap := 2) (by decide) (by decide) (by decide) (by decide)
  obtain ⟨b7, g7⟩ : ∃ z, z = T6.heap.size := ⟨_, rfl⟩
  rw [← g7] at A7 st7
  have ge_b7 : n0 ≤ b7 := Nat.le_trans Z6 (Nat.le_of_eq g7.symm)
  have ne_p0_b7 : p0 ≠ b7 := by rw [g7]; exact Nat.ne_of_lt Ex0_h6.lt
  have ne_b2_b7 : b2 ≠ b7 := by rw [g7]; exact Nat.ne_of_lt Vq6.lt
  have Z7 : n0 ≤ h7.size := Nat.le_trans Z6 E7.1
  have O7 := O6.ext E7
  have Ex0_h7 := Ex0_h6.ext E7
  have Fatargets_h7 := Fatargets_h6.ext E7
  have Facounts_h7 := Facounts_h6.ext E7
  have Fafixed_h7 := Fafixed_h6.ext E7
  have Vq6_h7 := Vq6.ext E7
  have V7 : Arv Z h7 b7 k7 .int (2 : Int32) [(.int (0 : Int32)), (.int (0 : Int32))] (.int (0 : Int32)) := (Arv.new A7 (by decide)).pad (fun i => pad_rep [] _ 2 i)
  refine own_by st7 ?_
  show own_Go p.tables e below s _ _ _ (T7.setTop (mkF m 26 #[.val (.ref p0), .val (.int (2 : Int32))] [(.ref b7), (.ref p0)]))
  obtain ⟨T8, h8, X8, e8, W8, st8⟩ := putF X7 hx hZ hown (host := "") (Or.inl (hw _ (List.mem_of_getElem? (i := 25) rfl))) Via.refl e7 Facounts_h7 Ex0_h7 (Or.inr ⟨ (hw _ (List.mem_of_getElem? (i := 26) rfl)), rfl, hnm⟩) (hw _ (List.mem_of_getElem? (i := 5) rfl)) (ty := (.array .int)) (by decide) rfl rfl (g := (mkF m 26 #[.val (.ref p0), .val (.int (2 : Int32))] [(.ref b7), (.ref p0)])) rfl rfl (hb hby d2_26)
  have N8 := Fr.snoc X8 N6 ge0
  have Z8 : n0 ≤ h8.size := by rw [W8.size]; exact Z7
  have O8 := O7.wr W8 ge0
  have Ex0_h8 := Ex0_h7.wr W8
  have Fatargets_h8 := Fatargets_h7.other W8 (Or.inr (slot_ne (Or.inr (hw _ (List.mem_of_getElem? (i := 16) rfl))) (Or.inr (hw _ (List.mem_of_getElem? (i := 26) rfl))) (by decide) (by decide : parseFieldDescriptor "[[I" = some (.array (.array .int))) (by decide : parseFieldDescriptor "[I" = some (.array .int))))
  have Facounts_h8 := Facounts_h7.same W8
  have Fafixed_h8 := Fafixed_h7.other W8 (Or.inr (slot_ne (Or.inr (hw _ (List.mem_of_getElem? (i := 28) rfl))) (Or.inr (hw _ (List.mem_of_getElem? (i := 26) rfl))) (by decide) (by decide : parseFieldDescriptor "[I" = some (.array .int)) (by decide : parseFieldDescriptor "[I" = some (.array .int))))
  have Vq6_h8 := Vq6_h7.other W8 (Ne.symm ne_p0_b2)
  have V7_h8 := V7.other W8 (Ne.symm ne_p0_b7)
  refine own_by st8 ?_
  show own_Go p.tables e below s _ _ _ (T8.setTop (mkF m 29 #[.val (.ref p0), .val (.int (2 : Int32))] []))
  refine own_by (fun _ kz => XS.aloadN X8.here hx rfl (hb hby d2_29) rfl rfl kz) ?_
  show own_Go p.tables e below s _ _ _ (T8.setTop (mkF m 30 #[.val (.ref p0), .val (.int (2 : Int32))] [(.ref p0)]))
  refine own_by (fun _ kz => XS.iloadN X8.here hx rfl (hb hby d2_30) rfl kz) ?_
  show own_Go p.tables e below s _ _ _ (T8.setTop (mkF m 31 #[.val (.ref p0), .val (.int (2 : Int32))] [(.int (2 : Int32)), (.ref p0)]))
  obtain ⟨T9, h9, k9, X9, e9, E9, A9, st9⟩ := newP X8 hx hZ (hw _ (List.mem_of_getElem? (i := 24) rfl)) e8 (g := (mkF m 31 #[.val (.ref p0), .val (.int (2 : Int32))] [(.int (2 : Int32)), (.ref p0)])) rfl (hb hby d2_31) rfl (by decide) (cap := 2) (by decide) (by decide) (by decide) (by decide)
  obtain ⟨b9, g9⟩ : ∃ z, z = h8.size := ⟨_, rfl⟩
  rw [← g9] at A9 st9
  have ge_b9 : n0 ≤ b9 := Nat.le_trans Z8 (Nat.le_of_eq g9.symm)
  have ne_p0_b9 : p0 ≠ b9 := by rw [g9]; exact Nat.ne_of_lt Ex0_h8.lt
  have ne_b2_b9 : b2 ≠ b9 := by rw [g9]; exact Nat.ne_of_lt Vq6_h8.lt
  have ne_b7_b9 : b7 ≠ b9 := by rw [g9]; exact Nat.ne_of_lt V7_h8.lt
  have Z9 : n0 ≤ h9.size := Nat.le_trans Z8 E9.1
  have O9 := O8.ext E9
  have Ex0_h9 := Ex0_h8.ext E9
  have Fatargets_h9 := Fatargets_h8.ext E9
  have Facounts_h9 := Facounts_h8.ext E9
  have Fafixed_h9 := Fafixed_h8.ext E9
  have Vq6_h9 := Vq6_h8.ext E9
  have V7_h9 := V7_h8.ext E9
  have V9 : Arv Z h9 b9 k9 .int (2 : Int32) [(.int (0 : Int32)), (.int (0 : Int32))] (.int (0 : Int32)) := (Arv.new A9 (by decide)).pad (fun i => pad_rep [] _ 2 i)
  refine own_by st9 ?_
  show own_Go p.tables e below s _ _ _ (T9.setTop (mkF m 33 #[.val (.ref p0), .val (.int (2 : Int32))] [(.ref b9), (.ref p0)]))
  obtain ⟨T10, h10, X10, e10, W10, st10⟩ := putF X9 hx hZ hown (host := "") (Or.inl (hw _ (List.mem_of_getElem? (i := 27) rfl))) Via.refl e9 Fafixed_h9 Ex0_h9 (Or.inr ⟨ (hw _ (List.mem_of_getElem? (i := 28) rfl)), rfl, hnm⟩) (hw _ (List.mem_of_getElem? (i := 5) rfl)) (ty := (.array .int)) (by decide) rfl rfl (g := (mkF m 33 #[.val (.ref p0), .val (.int (2 : Int32))] [(.ref b9), (.ref p0)])) rfl rfl (hb hby d2_33)
  have N10 := Fr.snoc X10 N8 ge0
  have Z10 : n0 ≤ h10.size := by rw [W10.size]; exact Z9
  have O10 := O9.wr W10 ge0
  have Ex0_h10 := Ex0_h9.wr W10
  have Fatargets_h10 := Fatargets_h9.other W10 (Or.inr (slot_ne (Or.inr (hw _ (List.mem_of_getElem? (i := 16) rfl))) (Or.inr (hw _ (List.mem_of_getElem? (i := 28) rfl))) (by decide) (by decide : parseFieldDescriptor "[[I" = some (.array (.array .int))) (by decide : parseFieldDescriptor "[I" = some (.array .int))))
  have Facounts_h10 := Facounts_h9.other W10 (Or.inr (slot_ne (Or.inr (hw _ (List.mem_of_getElem? (i := 26) rfl))) (Or.inr (hw _ (List.mem_of_getElem? (i := 28) rfl))) (by decide) (by decide : parseFieldDescriptor "[I" = some (.array .int)) (by decide : parseFieldDescriptor "[I" = some (.array .int))))
  have Fafixed_h10 := Fafixed_h9.same W10
  have Vq6_h10 := Vq6_h9.other W10 (Ne.symm ne_p0_b2)
  have V7_h10 := V7_h9.other W10 (Ne.symm ne_p0_b7)
  have V9_h10 := V9.other W10 (Ne.symm ne_p0_b9)
  refine own_by st10 ?_
  show own_Go p.tables e below s _ _ _ (T10.setTop (mkF m 36 #[.val (.ref p0), .val (.int (2 : Int32))] []))
  have Bs : own_Base Z n0 N p0 b2 b7 b9 h10 := ⟨⟨ge0, ge_b2, ge_b7, ge_b9, hN⟩, ⟨ne_p0_b2, ne_p0_b7, ne_p0_b9, ne_b2_b7, ne_b2_b9, ne_b7_b9⟩, Ex0_h10, Fatargets_h10, Facounts_h10, Fafixed_h10, kN, VN.ext O10.2⟩
  have Tb : own_Tab Z n0 N p0 b2 b7 b9 0 h10 N N 0 0 0 0 [0, 0, 0, 0] [0, 0, 0, 0] := ⟨Bs, ⟨_, Ov2, Vq6_h10⟩, ⟨_, V7_h10⟩, ⟨_, V9_h10⟩, Or.inl ⟨rfl, rfl, rfl⟩, Or.inl ⟨rfl, rfl, rfl⟩, fun q => absurd hN (Nat.not_lt.mpr q)⟩
  exact own_retV X10 hx hlk Bd.returns (hb hby d2_36) (by decide) (by decide) ⟨_, _, _, rfl, N10, by rw [e10]; exact Z10, by rw [e10]; exact Tb⟩
theorem d9_0 : decode prog_50_method_4_code 0 = .ok (.aload_n 0, 1) := by decide +kernel
theorem d9_1 : decode prog_50_method_4_code 1 = .ok (.getfield 24, 3) := by decide +kernel
theorem d9_4 : decode prog_50_method_4_code 4 = .ok (.iload_n 1, 1) := by decide +kernel
theorem d9_5 : decode prog_50_method_4_code 5 = .ok (.iaload, 1) := by decide +kernel
theorem d9_6 : decode prog_50_method_4_code 6 = .ok (.istore_n 2, 1) := by decide +kernel
theorem d9_7 : decode prog_50_method_4_code 7 = .ok (.iload_n 2, 1) := by decide +kernel
theorem d9_8 : decode prog_50_method_4_code 8 = .ok (.aload_n 0, 1) := by decide +kernel
theorem d9_9 : decode prog_50_method_4_code 9 = .ok (.getfield 9, 3) := by decide +kernel
theorem d9_12 : decode prog_50_method_4_code 12 = .ok (.iload_n 1, 1) := by decide +kernel
theorem d9_13 : decode prog_50_method_4_code 13 = .ok (.aaload, 1) := by decide +kernel
theorem d9_14 : decode prog_50_method_4_code 14 = .ok (.arraylength, 1) := by decide +kernel
theorem d9_15 : decode prog_50_method_4_code 15 = .ok (.if_icmp .ne 25, 3) := by decide +kernel
theorem d9_18 : decode prog_50_method_4_code 18 = .ok (.aload_n 0, 1) := by decide +kernel
theorem d9_19 : decode prog_50_method_4_code 19 = .ok (.getfield 9, 3) := by decide +kernel
theorem d9_22 : decode prog_50_method_4_code 22 = .ok (.iload_n 1, 1) := by decide +kernel
theorem d9_23 : decode prog_50_method_4_code 23 = .ok (.aload_n 0, 1) := by decide +kernel
theorem d9_24 : decode prog_50_method_4_code 24 = .ok (.getfield 9, 3) := by decide +kernel
theorem d9_27 : decode prog_50_method_4_code 27 = .ok (.iload_n 1, 1) := by decide +kernel
theorem d9_28 : decode prog_50_method_4_code 28 = .ok (.aaload, 1) := by decide +kernel
theorem d9_29 : decode prog_50_method_4_code 29 = .ok (.iconst 4, 1) := by decide +kernel
theorem d9_30 : decode prog_50_method_4_code 30 = .ok (.iconst 2, 1) := by decide +kernel
theorem d9_31 : decode prog_50_method_4_code 31 = .ok (.iload_n 2, 1) := by decide +kernel
theorem d9_32 : decode prog_50_method_4_code 32 = .ok (.imul, 1) := by decide +kernel
theorem d9_33 : decode prog_50_method_4_code 33 = .ok (.invokestatic 34, 3) := by decide +kernel
theorem d9_36 : decode prog_50_method_4_code 36 = .ok (.invokestatic 40, 3) := by decide +kernel
theorem d9_39 : decode prog_50_method_4_code 39 = .ok (.aastore, 1) := by decide +kernel
theorem d9_40 : decode prog_50_method_4_code 40 = .ok (.iload_n 2, 1) := by decide +kernel
theorem d9_41 : decode prog_50_method_4_code 41 = .ok (.ireturn, 1) := by decide +kernel
theorem pf_9 : plainFor (⟨"cyclebreak/collector/ReferenceTable", "grow", "(I)I"⟩ : MethodName) = true := by first | exact plainFor_of_name (by first | (simp [plainName, overriddenIn]; done) | decide +kernel) | decide +kernel
theorem pd_9 : parseMethodDescriptor "(I)I" = some ⟨[.int], some .int⟩ := by decide +kernel
theorem ef_9 (m : MethodId) (p0 : Addr) (i : Int32) : entryFrame m #[(.ref p0), (.int i)] 3 = mkF m 0 #[.val (.ref p0), .val (.int i), .unset] [] := by first | (simp [entryFrame, mkF, argsToLocals, Value.category]; done) | rfl
def Q9 (Z : State) (p0 : Addr) (i : Int32) (N : Addr) (ta : Addr) (ca : Addr) (fa : Addr) (r2 : Addr) (k : Nat) (k2 : Nat) (x : Nat) (x2 : Nat) (vs : List Int32) (us : List Int32) (h0 : Heap) (n0 : Nat) (v : Option Value) (h : Heap) (L : List Loc) : Prop := v = some (.int (own_i k)) ∧ Fr n0 L ∧ n0 ≤ h.size ∧ ∃ r3, own_Full Z n0 p0 ta ca fa h r3 vs ∧ own_Tab Z n0 N p0 ta ca fa i h r3 r2 k k2 x x2 vs us
set_option maxRecDepth 65536 in
set_option maxHeartbeats 40000000 in
theorem rm9 (l : Launch) (Z : State) (a0 : Array Value) (hw : ∀ d ∈ tables_1, d.before a0 Z = true) (ws : List Jvm.Cond) (p0 : Addr) (i : Int32) (h0 : Heap) (n0 : Nat) (Z0 : n0 ≤ h0.size) (N ta ca fa r r2 : Addr) (k k2 x x2 : Nat) (vs us : List Int32) (hi : i = 0 ∨ i = 1) (TB0 : own_Tab Z n0 N p0 ta ca fa i h0 r r2 k k2 x x2 vs us) (hk : k < 4) :
    own_Met l Z (⟨"cyclebreak/collector/ReferenceTable", "grow", "(I)I"⟩ : MethodName) prog_50_method_4_code 3 (some .int) ws ({ frames := 2, cells := 1, slots := 4, locals := 64 } : Room) #[(.ref p0), (.int i)] h0 (Q9 Z p0 i N ta ca fa r2 k k2 x x2 vs us h0 n0) := by
  refine MetFree.of_bodySF pf_9 hisR ?_
  intro p e s m args below meth c s₁ Bd hml0 hP hK
  obtain ⟨rfl, hZ, hh⟩ := hP
  have hx := Bd.exec
  have hby := Bd.bytes
  have hlk : meth.locks = false := BodyLoose.notSynchronized Bd
  have hml : c.maxLocals = 3 := hml0
  have hown : s.vm.findClass "cyclebreak/collector/ReferenceTable" = some m.cls := findClass_of_methodNamed Bd.named
  have hnm := (name_of_methodNamed Bd.named Bd.method).1
  have X0 : Stand p l e ({ frames := 2, cells := 1, slots := 4, locals := 64 } : Room) s m #[(.ref p0), (.int i)] below meth c s₁ [] 0 0 := Stand.of_body Bd
  have e0 : s₁.heap = h0 := by rw [← hh, Bd.state]; rfl
  have N0 := Fr.nil n0
  show own_Go p.tables e below s (Q9 Z p0 i N ta ca fa r2 k k2 x x2 vs us h0 n0) ({ frames := 2, cells := 1, slots := 4, locals := 64 } : Room).cells ({ frames := 2, cells := 1, slots := 4, locals := 64 } : Room).slots _
  refine own_by (fun _ k => castTop (ef_9 m p0 i) k) ?_
  show own_Go p.tables e below s _ _ _ (s₁.setTop (mkF m 0 #[.val (.ref p0), .val (.int i), .unset] []))
  refine own_by (fun _ kz => XS.aloadN X0.here hx rfl (hb hby d9_0) rfl rfl kz) ?_
  show own_Go p.tables e below s _ _ _ (s₁.setTop (mkF m 1 #[.val (.ref p0), .val (.int i), .unset] [(.ref p0)]))
  obtain ⟨T1, X1, e1, st1⟩ := getF X0 hx hZ hown (host := "") (Or.inl (hw _ (List.mem_of_getElem? (i := 25) rfl))) Via.refl e0 TB0.fC (g := (mkF m 1 #[.val (.ref p0), .val (.int i), .unset] [(.ref p0)])) rfl rfl (hb hby d9_1)
  refine own_by st1 ?_
  show own_Go p.tables e below s _ _ _ (T1.setTop (mkF m 4 #[.val (.ref p0), .val (.int i), .unset] [(.ref ca)]))
  refine own_by (fun _ kz => XS.iloadN X1.here hx rfl (hb hby d9_4) rfl kz) ?_
  show own_Go p.tables e below s _ _ _ (T1.setTop (mkF m 5 #[.val (.ref p0), .val (.int i), .unset] [(.int i), (.ref ca)]))
  obtain ⟨kc2, Vc2⟩ := TB0.2.2.1
  refine own_by (fun _ kz => own_ld X1 hx hZ e1 Vc2 (own_i01 hi) (own_pr_get hi _ _ _) (g := (mkF m 5 #[.val (.ref p0), .val (.int i), .unset] [(.int i), (.ref ca)])) rfl rfl (hb hby d9_5) _ kz) ?_
  show own_Go p.tables e below s _ _ _ (T1.setTop (mkF m 6 #[.val (.ref p0), .val (.int i), .unset] [(.int (own_i k))]))
  refine own_by (fun _ kz => XS.istoreN X1.here hx rfl (hb hby d9_6) rfl (l' := #[.val (.ref p0), .val (.int i), .val (.int (own_i k))]) rfl kz) ?_
  show own_Go p.tables e below s _ _ _ (T1.setTop (mkF m 7 #[.val (.ref p0), .val (.int i), .val (.int (own_i k))] []))
  refine own_by (fun _ kz => XS.iloadN X1.here hx rfl (hb hby d9_7) rfl kz) ?_
  show own_Go p.tables e below s _ _ _ (T1.setTop (mkF m 8 #[.val (.ref p0), .val (.int i), .val (.int (own_i k))] [(.int (own_i k))]))
  refine own_by (fun _ kz => XS.aloadN X1.here hx rfl (hb hby d9_8) rfl rfl kz) ?_
  show own_Go p.tables e below s _ _ _ (T1.setTop (mkF m 9 #[.val (.ref p0), .val (.int i), .val (.int (own_i k))] [(.ref p0), (.int (own_i k))]))
  obtain ⟨T3, X3, e3, st3⟩ := getF X1 hx hZ hown (host := "") (Or.inl (hw _ (List.mem_of_getElem? (i := 15) rfl))) Via.refl e1 TB0.fT (g := (mkF m 9 #[.val (.ref p0), .val (.int i), .val (.int (own_i k))] [(.ref p0), (.int (own_i k))])) rfl rfl (hb hby d9_9)
  refine own_by st3 ?_
  show own_Go p.tables e below s _ _ _ (T3.setTop (mkF m 12 #[.val (.ref p0), .val (.int i), .val (.int (own_i k))] [(.ref ta), (.int (own_i k))]))
  refine own_by (fun _ kz => XS.iloadN X3.here hx rfl (hb hby d9_12) rfl kz) ?_
  show own_Go p.tables e below s _ _ _ (T3.setTop (mkF m 13 #[.val (.ref p0), .val (.int i), .val (.int (own_i k))] [(.int i), (.ref ta), (.int (own_i k))]))
  obtain ⟨kt4, Ov4, Vt4⟩ := TB0.2.1
  refine own_by (fun _ kz => own_ldA X3 hx hZ e3 Vt4 rfl (own_i01 hi) (own_pr_get hi _ _ _) (g := (mkF m 13 #[.val (.ref p0), .val (.int i), .val (.int (own_i k))] [(.int i), (.ref ta), (.int (own_i k))])) rfl rfl (hb hby d9_13) _ kz) ?_
  show own_Go p.tables e below s _ _ _ (T3.setTop (mkF m 14 #[.val (.ref p0), .val (.int i), .val (.int (own_i k))] [(.ref r), (.int (own_i k))]))
  rcases TB0.2.2.2.2.1 with ⟨er, ek, ev⟩ | FU0
  · obtain ⟨kN, VN⟩ : ∃ kN, Arv Z h0 r kN .int 0 [] (.int (0 : Int32)) := by rw [er]; exact TB0.1.2.2.2.2.2.2
    refine own_by (fun _ kz => own_len X3 hx hZ e3 VN (g := (mkF m 14 #[.val (.ref p0), .val (.int i), .val (.int (own_i k))] [(.ref r), (.int (own_i k))])) rfl rfl (hb hby d9_14) _ kz) ?_
    show own_Go p.tables e below s _ _ _ (T3.setTop (mkF m 15 #[.val (.ref p0), .val (.int i), .val (.int (own_i k))] [(.int (0 : Int32)), (.int (own_i k))]))
    refine own_by (fun _ kz => XS.icmpNo X3.here hx rfl (hb hby d9_15) rfl (teq (show (own_i k) = (0 : Int32) by rw [ek]; rfl)).2 kz) ?_
    show own_Go p.tables e below s _ _ _ (T3.setTop (mkF m 18 #[.val (.ref p0), .val (.int i), .val (.int (own_i k))] []))
    refine own_by (fun _ kz => XS.aloadN X3.here hx rfl (hb hby d9_18) rfl rfl kz) ?_
    show own_Go p.tables e below s _ _ _ (T3.setTop (mkF m 19 #[.val (.ref p0), .val (.int i), .val (.int (own_i k))] [(.ref p0)]))
    obtain ⟨T5, X5, e5, st5⟩ := getF X3 hx hZ hown (host := "") (Or.inl (hw _ (List.mem_of_getElem? (i := 15) rfl))) Via.refl e3 TB0.fT (g := (mkF m 19 #[.val (.ref p0), .val (.int i), .val (.int (own_i k))] [(.ref p0)])) rfl rfl (hb hby d9_19)
    refine own_by st5 ?_
    show own_Go p.tables e below s _ _ _ (T5.setTop (mkF m 22 #[.val (.ref p0), .val (.int i), .val (.int (own_i k))] [(.ref ta)]))
    refine own_by (fun _ kz => XS.iloadN X5.here hx rfl (hb hby d9_22) rfl kz) ?_
    show own_Go p.tables e below s _ _ _ (T5.setTop (mkF m 23 #[.val (.ref p0), .val (.int i), .val (.int (own_i k))] [(.int i), (.ref ta)]))
    refine own_by (fun _ kz => XS.aloadN X5.here hx rfl (hb hby d9_23) rfl rfl kz) ?_
    show own_Go p.tables e below s _ _ _ (T5.setTop (mkF m 24 #[.val (.ref p0), .val (.int i), .val (.int (own_i k))] [(.ref p0), (.int i), (.ref ta)]))
    obtain ⟨T6, X6, e6, st6⟩ := getF X5 hx hZ hown (host := "") (Or.inl (hw _ (List.mem_of_getElem? (i := 15) rfl))) Via.refl e5 TB0.fT (g := (mkF m 24 #[.val (.ref p0), .val (.int i), .val (.int (own_i k))] [(.ref p0), (.int i), (.ref ta)])) rfl rfl (hb hby d9_24)
    refine own_by st6 ?_
    show own_Go p.tables e below s _ _ _ (T6.setTop (mkF m 27 #[.val (.ref p0), .val (.int i), .val (.int (own_i k))] [(.ref ta), (.int i), (.ref ta)]))
    refine own_by (fun _ kz => XS.iloadN X6.here hx rfl (hb hby d9_27) rfl kz) ?_
    show own_Go p.tables e below s _ _ _ (T6.setTop (mkF m 28 #[.val (.ref p0), .val (.int i), .val (.int (own_i k))] [(.int i), (.ref ta), (.int i), (.ref ta)]))
    obtain ⟨kt7, Ov7, Vt7⟩ := TB0.2.1
    refine own_by (fun _ kz => own_ldA X6 hx hZ e6 Vt7 rfl (own_i01 hi) (own_pr_get hi _ _ _) (g := (mkF m 28 #[.val (.ref p0), .val (.int i), .val (.int (own_i k))] [(.int i), (.ref ta), (.int i), (.ref ta)])) rfl rfl (hb hby d9_28) _ kz) ?_
    show own_Go p.tables e below s _ _ _ (T6.setTop (mkF m 29 #[.val (.ref p0), .val (.int i), .val (.int (own_i k))] [(.ref r), (.int i), (.ref ta)]))
    refine own_by (fun _ kz => XS.iconst X6.here hx rfl (hb hby d9_29) kz) ?_
    show own_Go p.tables e below s _ _ _ (T6.setTop (mkF m 30 #[.val (.ref p0), .val (.int i), .val (.int (own_i k))] [(.int (4 : Int32)), (.ref r), (.int i), (.ref ta)]))
    refine own_by (fun _ kz => XS.iconst X6.here hx rfl (hb hby d9_30) kz) ?_
    show own_Go p.tables e below s _ _ _ (T6.setTop (mkF m 31 #[.val (.ref p0), .val (.int i), .val (.int (own_i k))] [(.int (2 : Int32)), (.int (4 : Int32)), (.ref r), (.int i), (.ref ta)]))
    refine own_by (fun _ kz => XS.iloadN X6.here hx rfl (hb hby d9_31) rfl kz) ?_
    show own_Go p.tables e below s _ _ _ (T6.setTop (mkF m 32 #[.val (.ref p0), .val (.int i), .val (.int (own_i k))] [(.int (own_i k)), (.int (2 : Int32)), (.int (4 : Int32)), (.ref r), (.int i), (.ref ta)]))
    refine own_by (fun _ kz => XS.imul X6.here hx rfl (hb hby d9_32) rfl kz) ?_
    show own_Go p.tables e below s _ _ _ (T6.setTop (mkF m 33 #[.val (.ref p0), .val (.int i), .val (.int (own_i k))] [(.int ((2 : Int32) * (own_i k))), (.int (4 : Int32)), (.ref r), (.int i), (.ref ta)]))
    obtain ⟨v8, T8, L8, X8, q8, st8⟩ := own_callS X6 hx hZ hown (hw _ (List.mem_of_getElem? (i := 52) rfl)) (hw _ (List.mem_of_getElem? (i := 53) rfl)) (hw _ (List.mem_of_getElem? (i := 2) rfl)) (hw _ (List.mem_of_getElem? (i := 54) rfl)) (by decide) (rm10 l Z a0 hw [] (4 : Int32) ((2 : Int32) * (own_i k)) h0 n0 Z0) (W := 3) (by decide) (by decide) e6 (g := (mkF m 33 #[.val (.ref p0), .val (.int i), .val (.int (own_i k))] [(.int ((2 : Int32) * (own_i k))), (.int (4 : Int32)), (.ref r), (.int i), (.ref ta)])) rfl (by rw [hml]; rfl) (argsL := [(.int (4 : Int32)), (.int ((2 : Int32) * (own_i k)))]) (rest := [(.ref r), (.int i), (.ref ta)]) (lenOf pd_10 rfl) rfl rfl (by show 2 * 0 + _ ≤ _; exact Nat.le_of_eq rfl) (hb hby d9_33) (by decide) (by decide)
    obtain ⟨rfl, Nq8, hh8⟩ := q8
    have N8 := Fr.app N0 Nq8
    refine own_by st8 ?_
    show own_Go p.tables e below s _ _ _ (T8.setTop (mkF m 36 #[.val (.ref p0), .val (.int i), .val (.int (own_i k))] [(.int (if (4 : Int32) < ((2 : Int32) * (own_i k)) then ((2 : Int32) * (own_i k)) else (4 : Int32))), (.ref r), (.int i), (.ref ta)]))
    rw [show (if (4 : Int32) < ((2 : Int32) * (own_i k)) then ((2 : Int32) * (own_i k)) else (4 : Int32)) = (4 : Int32) by rw [ek]; decide]
    show own_Go p.tables e below s _ _ _ (T8.setTop (mkF m 36 #[.val (.ref p0), .val (.int i), .val (.int (own_i k))] [(.int (4 : Int32)), (.ref r), (.int i), (.ref ta)]))
    obtain ⟨v9, T9, L9, X9, q9, st9⟩ := own_callS X8 hx hZ hown (hw _ (List.mem_of_getElem? (i := 55) rfl)) (hw _ (List.mem_of_getElem? (i := 56) rfl)) (hw _ (List.mem_of_getElem? (i := 21) rfl)) (hw _ (List.mem_of_getElem? (i := 57) rfl)) (by decide) (rm11 l Z a0 hw [] r h0 n0 Z0 kN VN) (W := 2) (by decide) (by decide) hh8 (g := (mkF m 36 #[.val (.ref p0), .val (.int i), .val (.int (own_i k))] [(.int (4 : Int32)), (.ref r), (.int i), (.ref ta)])) rfl (by rw [hml]; rfl) (argsL := [(.ref r), (.int (4 : Int32))]) (rest := [(.int i), (.ref ta)]) (lenOf pd_11 rfl) rfl rfl (by show 2 * 0 + _ ≤ _; exact Nat.le_of_eq rfl) (hb hby d9_36) (by decide) (by decide)
    obtain ⟨b9, kb9, rfl, Nq9, Kq9, gb9, Eb9, Vb9⟩ := q9
    have N9 := Fr.app N8 Nq9
    have Z9 : n0 ≤ T9.heap.size := Nat.le_trans Z0 Kq9.1
    refine own_by st9 ?_
    show own_Go p.tables e below s _ _ _ (T9.setTop (mkF m 39 #[.val (.ref p0), .val (.int i), .val (.int (own_i k))] [(.ref b9), (.int i), (.ref ta)]))
    have TB9 := TB0.ext (own_keep_ext Kq9)
    have fr9 := TB0.fresh gb9
    simp only [List.mem_cons, List.not_mem_nil, or_false, forall_eq_or_imp, forall_eq] at fr9
    have FU9 : own_Full Z n0 p0 ta ca fa T9.heap b9 vs := ⟨Nat.le_trans Z0 gb9, ⟨fr9.2.1.symm, fr9.2.2.1.symm, fr9.2.2.2.1.symm, fr9.2.2.2.2.1.symm⟩, by rw [ev]; rfl, kb9, by rw [ev]; exact Vb9⟩
    obtain ⟨kt10, Ov10, Vt10⟩ := TB9.2.1
    obtain ⟨T10, h10, X10, e10, W10, st10⟩ := own_stA X9 hx hZ rfl Vt10 Ov10 (Ins.self Eb9) (j := i) (own_i01 hi) (g := (mkF m 39 #[.val (.ref p0), .val (.int i), .val (.int (own_i k))] [(.ref b9), (.int i), (.ref ta)])) rfl rfl (hb hby d9_39)
    have N10 := Fr.snoc X10 N9 TB9.1.1.2.1
    have Z10 : n0 ≤ h10.size := by rw [W10.size]; exact Z9
    obtain ⟨TB10, FU10⟩ := TB9.setTgt hi FU9 fr9.2.2.2.2.2.2.symm W10
    refine own_by st10 ?_
    show own_Go p.tables e below s _ _ _ (T10.setTop (mkF m 40 #[.val (.ref p0), .val (.int i), .val (.int (own_i k))] []))
    refine own_by (fun _ kz => XS.iloadN X10.here hx rfl (hb hby d9_40) rfl kz) ?_
    show own_Go p.tables e below s _ _ _ (T10.setTop (mkF m 41 #[.val (.ref p0), .val (.int i), .val (.int (own_i k))] [(.int (own_i k))]))
    exact own_retI X10 hx hlk Bd.returns (hb hby d9_41) (by decide) (by decide) ⟨rfl, N10, by rw [e10]; exact Z10, _, by rw [e10]; exact FU10, by rw [e10]; exact TB10⟩
  · obtain ⟨-, -, -, kr0, Vr0⟩ := id FU0
    refine own_by (fun _ kz => own_len X3 hx hZ e3 Vr0 (g := (mkF m 14 #[.val (.ref p0), .val (.int i), .val (.int (own_i k))] [(.ref r), (.int (own_i k))])) rfl rfl (hb hby d9_14) _ kz) ?_
    show own_Go p.tables e below s _ _ _ (T3.setTop (mkF m 15 #[.val (.ref p0), .val (.int i), .val (.int (own_i k))] [(.int (4 : Int32)), (.int (own_i k))]))
    refine own_by (fun _ kz => XS.icmpYes X3.here hx rfl (pc0 := 15) (pc' := 40) rfl (hb hby d9_15) rfl (feq (show ¬ (own_i k) = (4 : Int32) from fun q => by have := (own_i_eq k (by omega) 4 (by omega)).mp q; omega)).2 (by decide) (by decide) kz) ?_
    show own_Go p.tables e below s _ _ _ (T3.setTop (mkF m 40 #[.val (.ref p0), .val (.int i), .val (.int (own_i k))] []))
    refine own_by (fun _ kz => XS.iloadN X3.here hx rfl (hb hby d9_40) rfl kz) ?_
    show own_Go p.tables e below s _ _ _ (T3.setTop (mkF m 41 #[.val (.ref p0), .val (.int i), .val (.int (own_i k))] [(.int (own_i k))]))
    exact own_retI X3 hx hlk Bd.returns (hb hby d9_41) (by decide) (by decide) ⟨rfl, N0, by rw [e3]; exact Z0, _, by rw [e3]; exact FU0, by rw [e3]; exact TB0⟩
theorem d12_0 : decode prog_50_method_2_code 0 = .ok (.aload_n 0, 1) := by decide +kernel
theorem d12_1 : decode prog_50_method_2_code 1 = .ok (.iload_n 1, 1) := by decide +kernel
theorem d12_2 : decode prog_50_method_2_code 2 = .ok (.invokevirtual 30, 3) := by decide +kernel
theorem d12_5 : decode prog_50_method_2_code 5 = .ok (.istore_n 3, 1) := by decide +kernel
theorem d12_6 : decode prog_50_method_2_code 6 = .ok (.aload_n 0, 1) := by decide +kernel
theorem d12_7 : decode prog_50_method_2_code 7 = .ok (.getfield 9, 3) := by decide +kernel
theorem d12_10 : decode prog_50_method_2_code 10 = .ok (.iload_n 1, 1) := by decide +kernel
theorem d12_11 : decode prog_50_method_2_code 11 = .ok (.aaload, 1) := by decide +kernel
theorem d12_12 : decode prog_50_method_2_code 12 = .ok (.iload_n 3, 1) := by decide +kernel
theorem d12_13 : decode prog_50_method_2_code 13 = .ok (.iload_n 2, 1) := by decide +kernel
theorem d12_14 : decode prog_50_method_2_code 14 = .ok (.iastore, 1) := by decide +kernel
theorem d12_15 : decode prog_50_method_2_code 15 = .ok (.aload_n 0, 1) := by decide +kernel
theorem d12_16 : decode prog_50_method_2_code 16 = .ok (.getfield 24, 3) := by decide +kernel
theorem d12_19 : decode prog_50_method_2_code 19 = .ok (.iload_n 1, 1) := by decide +kernel
theorem d12_20 : decode prog_50_method_2_code 20 = .ok (.iload_n 3, 1) := by decide +kernel
theorem d12_21 : decode prog_50_method_2_code 21 = .ok (.iconst 1, 1) := by decide +kernel
theorem d12_22 : decode prog_50_method_2_code 22 = .ok (.iadd, 1) := by decide +kernel
theorem d12_23 : decode prog_50_method_2_code 23 = .ok (.iastore, 1) := by decide +kernel
theorem d12_24 : decode prog_50_method_2_code 24 = .ok (.return_, 1) := by decide +kernel
theorem pf_12 : plainFor (⟨"cyclebreak/collector/ReferenceTable", "add", "(II)V"⟩ : MethodName) = true := by first | exact plainFor_of_name (by first | (simp [plainName, overriddenIn]; done) | decide +kernel) | decide +kernel
theorem pd_12 : parseMethodDescriptor "(II)V" = some ⟨[.int, .int], none⟩ := by decide +kernel
theorem ef_12 (m : MethodId) (p0 : Addr) (i : Int32) (p2 : Int32) : entryFrame m #[(.ref p0), (.int i), (.int p2)] 4 = mkF m 0 #[.val (.ref p0), .val (.int i), .val (.int p2), .unset] [] := by first | (simp [entryFrame, mkF, argsToLocals, Value.category]; done) | rfl
def Q12 (Z : State) (p0 : Addr) (i : Int32) (N : Addr) (ta : Addr) (ca : Addr) (fa : Addr) (r2 : Addr) (k : Nat) (k2 : Nat) (x : Nat) (x2 : Nat) (vs : List Int32) (us : List Int32) (p2 : Int32) (h0 : Heap) (n0 : Nat) (v : Option Value) (h : Heap) (L : List Loc) : Prop := v = none ∧ Fr n0 L ∧ n0 ≤ h.size ∧ ∃ r3, own_Tab Z n0 N p0 ta ca fa i h r3 r2 (k + 1) k2 x x2 (vs.set k p2) us
set_option maxRecDepth 65536 in
set_option maxHeartbeats 40000000 in
theorem rm12 (l : Launch) (Z : State) (a0 : Array Value) (hw : ∀ d ∈ tables_1, d.before a0 Z = true) (ws : List Jvm.Cond) (p0 : Addr) (i : Int32) (p2 : Int32) (h0 : Heap) (n0 : Nat) (Z0 : n0 ≤ h0.size) (N ta ca fa r r2 : Addr) (k k2 x x2 : Nat) (vs us : List Int32) (hi : i = 0 ∨ i = 1) (TB0 : own_Tab Z n0 N p0 ta ca fa i h0 r r2 k k2 x x2 vs us) (hk : k < 4) :
    own_Met l Z (⟨"cyclebreak/collector/ReferenceTable", "add", "(II)V"⟩ : MethodName) prog_50_method_2_code 4 none ws ({ frames := 3, cells := 1, slots := 4, locals := 96 } : Room) #[(.ref p0), (.int i), (.int p2)] h0 (Q12 Z p0 i N ta ca fa r2 k k2 x x2 vs us p2 h0 n0) := by
  refine MetFree.of_bodySF pf_12 hisR ?_
  intro p e s m args below meth c s₁ Bd hml0 hP hK
  obtain ⟨rfl, hZ, hh⟩ := hP
  have hx := Bd.exec
  have hby := Bd.bytes
  have hlk : meth.locks = false := BodyLoose.notSynchronized Bd
  have hml : c.maxLocals = 4 := hml0
  have hown : s.vm.findClass "cyclebreak/collector/ReferenceTable" = some m.cls := findClass_of_methodNamed Bd.named
  have hnm := (name_of_methodNamed Bd.named Bd.method).1
  have X0 : Stand p l e ({ frames := 3, cells := 1, slots := 4, locals := 96 } : Room) s m #[(.ref p0), (.int i), (.int p2)] below meth c s₁ [] 0 0 := Stand.of_body Bd
  have e0 : s₁.heap = h0 := by rw [← hh, Bd.state]; rfl
  have N0 := Fr.nil n0
  show own_Go p.tables e below s (Q12 Z p0 i N ta ca fa r2 k k2 x x2 vs us p2 h0 n0) ({ frames := 3, cells := 1, slots := 4, locals := 96 } : Room).cells ({ frames := 3, cells := 1, slots := 4, locals := 96 } : Room).slots _
  refine own_by (fun _ k => castTop (ef_12 m p0 i p2) k) ?_
  show own_Go p.tables e below s _ _ _ (s₁.setTop (mkF m 0 #[.val (.ref p0), .val (.int i), .val (.int p2), .unset] []))
  refine own_by (fun _ kz => XS.aloadN X0.here hx rfl (hb hby d12_0) rfl rfl kz) ?_
  show own_Go p.tables e below s _ _ _ (s₁.setTop (mkF m 1 #[.val (.ref p0), .val (.int i), .val (.int p2), .unset] [(.ref p0)]))
  refine own_by (fun _ kz => XS.iloadN X0.here hx rfl (hb hby d12_1) rfl kz) ?_
  show own_Go p.tables e below s _ _ _ (s₁.setTop (mkF m 2 #[.val (.ref p0), .val (.int i), .val (.int p2), .unset] [(.int i), (.ref p0)]))
  obtain ⟨v1, T1, L1, X1, q1, st1⟩ := own_callP X0 hx hZ hown (hw _ (List.mem_of_getElem? (i := 48) rfl)) (hw _ (List.mem_of_getElem? (i := 49) rfl)) (hw _ (List.mem_of_getElem? (i := 50) rfl)) (hw _ (List.mem_of_getElem? (i := 32) rfl)) rfl (hw _ (List.mem_of_getElem? (i := 6) rfl)) (hw _ (List.mem_of_getElem? (i := 51) rfl)) (by decide) (rm9 l Z a0 hw [] p0 i h0 n0 Z0 N ta ca fa r r2 k k2 x x2 vs us hi TB0 hk) (W := 0) (by decide) (by decide) e0 TB0.exa (g := (mkF m 2 #[.val (.ref p0), .val (.int i), .val (.int p2), .unset] [(.int i), (.ref p0)])) rfl (by rw [hml]; rfl) (argsL := [(.int i)]) (rest := []) (lenOf pd_9 rfl) rfl rfl (by show 2 * 0 + _ ≤ _; exact Nat.le_of_eq rfl) (hb hby d12_2) (by decide) (by decide)
  obtain ⟨rfl, Nq1, Zq1, r3, FU1, TB1⟩ := q1
  have N1 := Fr.app N0 Nq1
  refine own_by st1 ?_
  show own_Go p.tables e below s _ _ _ (T1.setTop (mkF m 5 #[.val (.ref p0), .val (.int i), .val (.int p2), .unset] [(.int (own_i k))]))
  refine own_by (fun _ kz => XS.istoreN X1.here hx rfl (hb hby d12_5) rfl (l' := #[.val (.ref p0), .val (.int i), .val (.int p2), .val (.int (own_i k))]) rfl kz) ?_
  show own_Go p.tables e below s _ _ _ (T1.setTop (mkF m 6 #[.val (.ref p0), .val (.int i), .val (.int p2), .val (.int (own_i k))] []))
  refine own_by (fun _ kz => XS.aloadN X1.here hx rfl (hb hby d12_6) rfl rfl kz) ?_
  show own_Go p.tables e below s _ _ _ (T1.setTop (mkF m 7 #[.val (.ref p0), .val (.int i), .val (.int p2), .val (.int (own_i k))] [(.ref p0)]))
  obtain ⟨T2, X2, e2, st2⟩ := getF X1 hx hZ hown (host := "") (Or.inl (hw _ (List.mem_of_getElem? (i := 15) rfl))) Via.refl rfl TB1.fT (g := (mkF m 7 #[.val (.ref p0), .val (.int i), .val (.int p2), .val (.int (own_i k))] [(.ref p0)])) rfl rfl (hb hby d12_7)
  refine own_by st2 ?_
  show own_Go p.tables e below s _ _ _ (T2.setTop (mkF m 10 #[.val (.ref p0), .val (.int i), .val (.int p2), .val (.int (own_i k))] [(.ref ta)]))
  refine own_by (fun _ kz => XS.iloadN X2.here hx rfl (hb hby d12_10) rfl kz) ?_
  show own_Go p.tables e below s _ _ _ (T2.setTop (mkF m 11 #[.val (.ref p0), .val (.int i), .val (.int p2), .val (.int (own_i k))] [(.int i), (.ref ta)]))
  obtain ⟨kt3, Ov3, Vt3⟩ := TB1.2.1
  refine own_by (fun _ kz => own_ldA X2 hx hZ e2 Vt3 rfl (own_i01 hi) (own_pr_get hi _ _ _) (g := (mkF m 11 #[.val (.ref p0), .val (.int i), .val (.int p2), .val (.int (own_i k))] [(.int i), (.ref ta)])) rfl rfl (hb hby d12_11) _ kz) ?_
  show own_Go p.tables e below s _ _ _ (T2.setTop (mkF m 12 #[.val (.ref p0), .val (.int i), .val (.int p2), .val (.int (own_i k))] [(.ref r3)]))
  refine own_by (fun _ kz => XS.iloadN X2.here hx rfl (hb hby d12_12) rfl kz) ?_
  show own_Go p.tables e below s _ _ _ (T2.setTop (mkF m 13 #[.val (.ref p0), .val (.int i), .val (.int p2), .val (.int (own_i k))] [(.int (own_i k)), (.ref r3)]))
  refine own_by (fun _ kz => XS.iloadN X2.here hx rfl (hb hby d12_13) rfl kz) ?_
  show own_Go p.tables e below s _ _ _ (T2.setTop (mkF m 14 #[.val (.ref p0), .val (.int i), .val (.int p2), .val (.int (own_i k))] [(.int p2), (.int (own_i k)), (.ref r3)]))
  obtain ⟨-, -, -, kr4, Vr4⟩ := id FU1
  obtain ⟨T4, h4, X4, e4, W4, st4⟩ := own_st X2 hx hZ e2 Vr4 (j := (own_i k)) (own_i_lt4 hk) (g := (mkF m 14 #[.val (.ref p0), .val (.int i), .val (.int p2), .val (.int (own_i k))] [(.int p2), (.int (own_i k)), (.ref r3)])) rfl rfl (hb hby d12_14)
  have N4 := Fr.snoc X4 N1 FU1.1
  have Z4 : n0 ≤ h4.size := by rw [W4.size]; exact Zq1
  obtain ⟨TB4, FU4⟩ := TB1.setRow FU1 hk W4
  refine own_by st4 ?_
  show own_Go p.tables e below s _ _ _ (T4.setTop (mkF m 15 #[.val (.ref p0), .val (.int i), .val (.int p2), .val (.int (own_i k))] []))
  refine own_by (fun _ kz => XS.aloadN X4.here hx rfl (hb hby d12_15) rfl rfl kz) ?_
  show own_Go p.tables e below s _ _ _ (T4.setTop (mkF m 16 #[.val (.ref p0), .val (.int i), .val (.int p2), .val (.int (own_i k))] [(.ref p0)]))
  obtain ⟨T5, X5, e5, st5⟩ := getF X4 hx hZ hown (host := "") (Or.inl (hw _ (List.mem_of_getElem? (i := 25) rfl))) Via.refl e4 TB4.fC (g := (mkF m 16 #[.val (.ref p0), .val (.int i), .val (.int p2), .val (.int (own_i k))] [(.ref p0)])) rfl rfl (hb hby d12_16)
  refine own_by st5 ?_
  show own_Go p.tables e below s _ _ _ (T5.setTop (mkF m 19 #[.val (.ref p0), .val (.int i), .val (.int p2), .val (.int (own_i k))] [(.ref ca)]))
  refine own_by (fun _ kz => XS.iloadN X5.here hx rfl (hb hby d12_19) rfl kz) ?_
  show own_Go p.tables e below s _ _ _ (T5.setTop (mkF m 20 #[.val (.ref p0), .val (.int i), .val (.int p2), .val (.int (own_i k))] [(.int i), (.ref ca)]))
  refine own_by (fun _ kz => XS.iloadN X5.here hx rfl (hb hby d12_20) rfl kz) ?_
  show own_Go p.tables e below s _ _ _ (T5.setTop (mkF m 21 #[.val (.ref p0), .val (.int i), .val (.int p2), .val (.int (own_i k))] [(.int (own_i k)), (.int i), (.ref ca)]))
  refine own_by (fun _ kz => XS.iconst X5.here hx rfl (hb hby d12_21) kz) ?_
  show own_Go p.tables e below s _ _ _ (T5.setTop (mkF m 22 #[.val (.ref p0), .val (.int i), .val (.int p2), .val (.int (own_i k))] [(.int (1 : Int32)), (.int (own_i k)), (.int i), (.ref ca)]))
  refine own_by (fun _ kz => XS.iadd X5.here hx rfl (hb hby d12_22) rfl kz) ?_
  show own_Go p.tables e below s _ _ _ (T5.setTop (mkF m 23 #[.val (.ref p0), .val (.int i), .val (.int p2), .val (.int (own_i k))] [(.int ((own_i k) + (1 : Int32))), (.int i), (.ref ca)]))
  rw [own_i_succ (k) (by omega)]
  show own_Go p.tables e below s _ _ _ (T5.setTop (mkF m 23 #[.val (.ref p0), .val (.int i), .val (.int p2), .val (.int (own_i k))] [(.int (own_i (k + 1))), (.int i), (.ref ca)]))
  obtain ⟨kc6, Vc6⟩ := TB4.2.2.1
  obtain ⟨T6, h6, X6, e6, W6, st6⟩ := own_st X5 hx hZ e5 Vc6 (j := i) (own_i01 hi) (g := (mkF m 23 #[.val (.ref p0), .val (.int i), .val (.int p2), .val (.int (own_i k))] [(.int (own_i (k + 1))), (.int i), (.ref ca)])) rfl rfl (hb hby d12_23)
  have N6 := Fr.snoc X6 N4 TB4.1.1.2.2.1
  have Z6 : n0 ≤ h6.size := by rw [W6.size]; exact Z4
  obtain ⟨TB6, FU6⟩ := TB4.setCnt hi FU4 W6
  refine own_by st6 ?_
  show own_Go p.tables e below s _ _ _ (T6.setTop (mkF m 24 #[.val (.ref p0), .val (.int i), .val (.int p2), .val (.int (own_i k))] []))
  exact own_retV X6 hx hlk Bd.returns (hb hby d12_24) (by decide) (by decide) ⟨rfl, N6, by rw [e6]; exact Z6, _, by rw [e6]; exact TB6⟩
theorem d8_0 : decode prog_50_method_3_code 0 = .ok (.aload_n 0, 1) := by decide +kernel
theorem d8_1 : decode prog_50_method_3_code 1 = .ok (.iload_n 1, 1) := by decide +kernel
theorem d8_2 : decode prog_50_method_3_code 2 = .ok (.invokevirtual 30, 3) := by decide +kernel
theorem d8_5 : decode prog_50_method_3_code 5 = .ok (.istore_n 3, 1) := by decide +kernel
theorem d8_6 : decode prog_50_method_3_code 6 = .ok (.aload_n 0, 1) := by decide +kernel
theorem d8_7 : decode prog_50_method_3_code 7 = .ok (.getfield 27, 3) := by decide +kernel
theorem d8_10 : decode prog_50_method_3_code 10 = .ok (.iload_n 1, 1) := by decide +kernel
theorem d8_11 : decode prog_50_method_3_code 11 = .ok (.iaload, 1) := by decide +kernel
theorem d8_12 : decode prog_50_method_3_code 12 = .ok (.istore 4, 2) := by decide +kernel
theorem d8_14 : decode prog_50_method_3_code 14 = .ok (.aload_n 0, 1) := by decide +kernel
theorem d8_15 : decode prog_50_method_3_code 15 = .ok (.getfield 9, 3) := by decide +kernel
theorem d8_18 : decode prog_50_method_3_code 18 = .ok (.iload_n 1, 1) := by decide +kernel
theorem d8_19 : decode prog_50_method_3_code 19 = .ok (.aaload, 1) := by decide +kernel
theorem d8_20 : decode prog_50_method_3_code 20 = .ok (.iload_n 3, 1) := by decide +kernel
theorem d8_21 : decode prog_50_method_3_code 21 = .ok (.aload_n 0, 1) := by decide +kernel
theorem d8_22 : decode prog_50_method_3_code 22 = .ok (.getfield 9, 3) := by decide +kernel
theorem d8_25 : decode prog_50_method_3_code 25 = .ok (.iload_n 1, 1) := by decide +kernel
theorem d8_26 : decode prog_50_method_3_code 26 = .ok (.aaload, 1) := by decide +kernel
theorem d8_27 : decode prog_50_method_3_code 27 = .ok (.iload 4, 2) := by decide +kernel
theorem d8_29 : decode prog_50_method_3_code 29 = .ok (.iaload, 1) := by decide +kernel
theorem d8_30 : decode prog_50_method_3_code 30 = .ok (.iastore, 1) := by decide +kernel
theorem d8_31 : decode prog_50_method_3_code 31 = .ok (.aload_n 0, 1) := by decide +kernel
theorem d8_32 : decode prog_50_method_3_code 32 = .ok (.getfield 9, 3) := by decide +kernel
theorem d8_35 : decode prog_50_method_3_code 35 = .ok (.iload_n 1, 1) := by decide +kernel
theorem d8_36 : decode prog_50_method_3_code 36 = .ok (.aaload, 1) := by decide +kernel
theorem d8_37 : decode prog_50_method_3_code 37 = .ok (.iload 4, 2) := by decide +kernel
theorem d8_39 : decode prog_50_method_3_code 39 = .ok (.iload_n 2, 1) := by decide +kernel
theorem d8_40 : decode prog_50_method_3_code 40 = .ok (.iastore, 1) := by decide +kernel
theorem d8_41 : decode prog_50_method_3_code 41 = .ok (.aload_n 0, 1) := by decide +kernel
theorem d8_42 : decode prog_50_method_3_code 42 = .ok (.getfield 27, 3) := by decide +kernel
theorem d8_45 : decode prog_50_method_3_code 45 = .ok (.iload_n 1, 1) := by decide +kernel
theorem d8_46 : decode prog_50_method_3_code 46 = .ok (.iload 4, 2) := by decide +kernel
theorem d8_48 : decode prog_50_method_3_code 48 = .ok (.iconst 1, 1) := by decide +kernel
theorem d8_49 : decode prog_50_method_3_code 49 = .ok (.iadd, 1) := by decide +kernel
theorem d8_50 : decode prog_50_method_3_code 50 = .ok (.iastore, 1) := by decide +kernel
theorem d8_51 : decode prog_50_method_3_code 51 = .ok (.aload_n 0, 1) := by decide +kernel
theorem d8_52 : decode prog_50_method_3_code 52 = .ok (.getfield 24, 3) := by decide +kernel
theorem d8_55 : decode prog_50_method_3_code 55 = .ok (.iload_n 1, 1) := by decide +kernel
theorem d8_56 : decode prog_50_method_3_code 56 = .ok (.iload_n 3, 1) := by decide +kernel
theorem d8_57 : decode prog_50_method_3_code 57 = .ok (.iconst 1, 1) := by decide +kernel
theorem d8_58 : decode prog_50_method_3_code 58 = .ok (.iadd, 1) := by decide +kernel
theorem d8_59 : decode prog_50_method_3_code 59 = .ok (.iastore, 1) := by decide +kernel
theorem d8_60 : decode prog_50_method_3_code 60 = .ok (.return_, 1) := by decide +kernel
theorem pf_8 : plainFor (⟨"cyclebreak/collector/ReferenceTable", "addFixed", "(II)V"⟩ : MethodName) = true := by first | exact plainFor_of_name (by first | (simp [plainName, overriddenIn]; done) | decide +kernel) | decide +kernel
theorem pd_8 : parseMethodDescriptor "(II)V" = some ⟨[.int, .int], none⟩ := by decide +kernel
theorem ef_8 (m : MethodId) (p0 : Addr) (i : Int32) (p2 : Int32) : entryFrame m #[(.ref p0), (.int i), (.int p2)] 5 = mkF m 0 #[.val (.ref p0), .val (.int i), .val (.int p2), .unset, .unset] [] := by first | (simp [entryFrame, mkF, argsToLocals, Value.category]; done) | rfl
def Q8 (Z : State) (p0 : Addr) (i : Int32) (N : Addr) (ta : Addr) (ca : Addr) (fa : Addr) (r2 : Addr) (k : Nat) (k2 : Nat) (x : Nat) (x2 : Nat) (vs : List Int32) (us : List Int32) (p2 : Int32) (h0 : Heap) (n0 : Nat) (v : Option Value) (h : Heap) (L : List Loc) : Prop := v = none ∧ Fr n0 L ∧ n0 ≤ h.size ∧ ∃ r3, own_Tab Z n0 N p0 ta ca fa i h r3 r2 (k + 1) k2 (x + 1) x2 ((vs.set k (vs.getD x 0)).set x p2) us
set_option maxRecDepth 65536 in
set_option maxHeartbeats 40000000 in
theorem rm8 (l : Launch) (Z : State) (a0 : Array Value) (hw : ∀ d ∈ tables_1, d.before a0 Z = true) (ws : List Jvm.Cond) (p0 : Addr) (i : Int32) (p2 : Int32) (h0 : Heap) (n0 : Nat) (Z0 : n0 ≤ h0.size) (N ta ca fa r r2 : Addr) (k k2 x x2 : Nat) (vs us : List Int32) (hi : i = 0 ∨ i = 1) (TB0 : own_Tab Z n0 N p0 ta ca fa i h0 r r2 k k2 x x2 vs us) (hk : k < 4) (hxk : x ≤ k) :
    own_Met l Z (⟨"cyclebreak/collector/ReferenceTable", "addFixed", "(II)V"⟩ : MethodName) prog_50_method_3_code 5 none ws ({ frames := 3, cells := 1, slots := 4, locals := 96 } : Room) #[(.ref p0), (.int i), (.int p2)] h0 (Q8 Z p0 i N ta ca fa r2 k k2 x x2 vs us p2 h0 n0) := by
  refine MetFree.of_bodySF pf_8 hisR ?_
  intro p e s m args below meth c s₁ Bd hml0 hP hK
  obtain ⟨rfl, hZ, hh⟩ := hP
  have hx := Bd.exec
  have hby := Bd.bytes
  have hlk : meth.locks = false := BodyLoose.notSynchronized Bd
  have hml : c.maxLocals = 5 := hml0
  have hown : s.vm.findClass "cyclebreak/collector/ReferenceTable" = some m.cls := findClass_of_methodNamed Bd.named
  have hnm := (name_of_methodNamed Bd.named Bd.method).1
  have X0 : Stand p l e ({ frames := 3, cells := 1, slots := 4, locals := 96 } : Room) s m #[(.ref p0), (.int i), (.int p2)] below meth c s₁ [] 0 0 := Stand.of_body Bd
  have e0 : s₁.heap = h0 := by rw [← hh, Bd.state]; rfl
  have N0 := Fr.nil n0
  show own_Go p.tables e below s (Q8 Z p0 i N ta ca fa r2 k k2 x x2 vs us p2 h0 n0) ({ frames := 3, cells := 1, slots := 4, locals := 96 } : Room).cells ({ frames := 3, cells := 1, slots := 4, locals := 96 } : Room).slots _
  refine own_by (fun _ k => castTop (ef_8 m p0 i p2) k) ?_
  show own_Go p.tables e below s _ _ _ (s₁.setTop (mkF m 0 #[.val (.ref p0), .val (.int i), .val (.int p2), .unset, .unset] []))
  refine own_by (fun _ kz => XS.aloadN X0.here hx rfl (hb hby d8_0) rfl rfl kz) ?_
  show own_Go p.tables e below s _ _ _ (s₁.setTop (mkF m 1 #[.val (.ref p0), .val (.int i), .val (.int p2), .unset, .unset] [(.ref p0)]))
  refine own_by (fun _ kz => XS.iloadN X0.here hx rfl (hb hby d8_1) rfl kz) ?_
  show own_Go p.tables e below s _ _ _ (s₁.setTop (mkF m 2 #[.val (.ref p0), .val (.int i), .val (.int p2), .unset, .unset] [(.int i), (.ref p0)]))
  obtain ⟨v1, T1, L1, X1, q1, st1⟩ := own_callP X0 hx hZ hown (hw _ (List.mem_of_getElem? (i := 48) rfl)) (hw _ (List.mem_of_getElem? (i := 49) rfl)) (hw _ (List.mem_of_getElem? (i := 50) rfl)) (hw _ (List.mem_of_getElem? (i := 32) rfl)) rfl (hw _ (List.mem_of_getElem? (i := 6) rfl)) (hw _ (List.mem_of_getElem? (i := 51) rfl)) (by decide) (rm9 l Z a0 hw [] p0 i h0 n0 Z0 N ta ca fa r r2 k k2 x x2 vs us hi TB0 hk) (W := 0) (by decide) (by decide) e0 TB0.exa (g := (mkF m 2 #[.val (.ref p0), .val (.int i), .val (.int p2), .unset, .unset] [(.int i), (.ref p0)])) rfl (by rw [hml]; rfl) (argsL := [(.int i)]) (rest := []) (lenOf pd_9 rfl) rfl rfl (by show 2 * 0 + _ ≤ _; exact Nat.le_of_eq rfl) (hb hby d8_2) (by decide) (by decide)
  obtain ⟨rfl, Nq1, Zq1, r3, FU1, TB1⟩ := q1
  have N1 := Fr.app N0 Nq1
  refine own_by st1 ?_
  show own_Go p.tables e below s _ _ _ (T1.setTop (mkF m 5 #[.val (.ref p0), .val (.int i), .val (.int p2), .unset, .unset] [(.int (own_i k))]))
  refine own_by (fun _ kz => XS.istoreN X1.here hx rfl (hb hby d8_5) rfl (l' := #[.val (.ref p0), .val (.int i), .val (.int p2), .val (.int (own_i k)), .unset]) rfl kz) ?_
  show own_Go p.tables e below s _ _ _ (T1.setTop (mkF m 6 #[.val (.ref p0), .val (.int i), .val (.int p2), .val (.int (own_i k)), .unset] []))
  refine own_by (fun _ kz => XS.aloadN X1.here hx rfl (hb hby d8_6) rfl rfl kz) ?_
  show own_Go p.tables e below s _ _ _ (T1.setTop (mkF m 7 #[.val (.ref p0), .val (.int i), .val (.int p2), .val (.int (own_i k)), .unset] [(.ref p0)]))
  obtain ⟨T2, X2, e2, st2⟩ := getF X1 hx hZ hown (host := "") (Or.inl (hw _ (List.mem_of_getElem? (i := 27) rfl))) Via.refl rfl TB1.fF (g := (mkF m 7 #[.val (.ref p0), .val (.int i), .val (.int p2), .val (.int (own_i k)), .unset] [(.ref p0)])) rfl rfl (hb hby d8_7)
  refine own_by st2 ?_
  show own_Go p.tables e below s _ _ _ (T2.setTop (mkF m 10 #[.val (.ref p0), .val (.int i), .val (.int p2), .val (.int (own_i k)), .unset] [(.ref fa)]))
  refine own_by (fun _ kz => XS.iloadN X2.here hx rfl (hb hby d8_10) rfl kz) ?_
  show own_Go p.tables e below s _ _ _ (T2.setTop (mkF m 11 #[.val (.ref p0), .val (.int i), .val (.int p2), .val (.int (own_i k)), .unset] [(.int i), (.ref fa)]))
  obtain ⟨kc3, Vc3⟩ := TB1.2.2.2.1
  refine own_by (fun _ kz => own_ld X2 hx hZ e2 Vc3 (own_i01 hi) (own_pr_get hi _ _ _) (g := (mkF m 11 #[.val (.ref p0), .val (.int i), .val (.int p2), .val (.int (own_i k)), .unset] [(.int i), (.ref fa)])) rfl rfl (hb hby d8_11) _ kz) ?_
  show own_Go p.tables e below s _ _ _ (T2.setTop (mkF m 12 #[.val (.ref p0), .val (.int i), .val (.int p2), .val (.int (own_i k)), .unset] [(.int (own_i x))]))
  refine own_by (fun _ kz => XS.istore X2.here hx rfl (hb hby d8_12) rfl (l' := #[.val (.ref p0), .val (.int i), .val (.int p2), .val (.int (own_i k)), .val (.int (own_i x))]) rfl kz) ?_
  show own_Go p.tables e below s _ _ _ (T2.setTop (mkF m 14 #[.val (.ref p0), .val (.int i), .val (.int p2), .val (.int (own_i k)), .val (.int (own_i x))] []))
  refine own_by (fun _ kz => XS.aloadN X2.here hx rfl (hb hby d8_14) rfl rfl kz) ?_
  show own_Go p.tables e below s _ _ _ (T2.setTop (mkF m 15 #[.val (.ref p0), .val (.int i), .val (.int p2), .val (.int (own_i k)), .val (.int (own_i x))] [(.ref p0)]))
  obtain ⟨T4, X4, e4, st4⟩ := getF X2 hx hZ hown (host := "") (Or.inl (hw _ (List.mem_of_getElem? (i := 15) rfl))) Via.refl e2 TB1.fT (g := (mkF m 15 #[.val (.ref p0), .val (.int i), .val (.int p2), .val (.int (own_i k)), .val (.int (own_i x))] [(.ref p0)])) rfl rfl (hb hby d8_15)
  refine own_by st4 ?_
  show own_Go p.tables e below s _ _ _ (T4.setTop (mkF m 18 #[.val (.ref p0), .val (.int i), .val (.int p2), .val (.int (own_i k)), .val (.int (own_i x))] [(.ref ta)]))
  refine own_by (fun _ kz => XS.iloadN X4.here hx rfl (hb hby d8_18) rfl kz) ?_
  show own_Go p.tables e below s _ _ _ (T4.setTop (mkF m 19 #[.val (.ref p0), .val (.int i), .val (.int p2), .val (.int (own_i k)), .val (.int (own_i x))] [(.int i), (.ref ta)]))
  obtain ⟨kt5, Ov5, Vt5⟩ := TB1.2.1
  refine own_by (fun _ kz => own_ldA X4 hx hZ e4 Vt5 rfl (own_i01 hi) (own_pr_get hi _ _ _) (g := (mkF m 19 #[.val (.ref p0), .val (.int i), .val (.int p2), .val (.int (own_i k)), .val (.int (own_i x))] [(.int i), (.ref ta)])) rfl rfl (hb hby d8_19) _ kz) ?_
  show own_Go p.tables e below s _ _ _ (T4.setTop (mkF m 20 #[.val (.ref p0), .val (.int i), .val (.int p2), .val (.int (own_i k)), .val (.int (own_i x))] [(.ref r3)]))
  refine own_by (fun _ kz => XS.iloadN X4.here hx rfl (hb hby d8_20) rfl kz) ?_
  show own_Go p.tables e below s _ _ _ (T4.setTop (mkF m 21 #[.val (.ref p0), .val (.int i), .val (.int p2), .val (.int (own_i k)), .val (.int (own_i x))] [(.int (own_i k)), (.ref r3)]))
  refine own_by (fun _ kz => XS.aloadN X4.here hx rfl (hb hby d8_21) rfl rfl kz) ?_
  show own_Go p.tables e below s _ _ _ (T4.setTop (mkF m 22 #[.val (.ref p0), .val (.int i), .val (.int p2), .val (.int (own_i k)), .val (.int (own_i x))] [(.ref p0), (.int (own_i k)), (.ref r3)]))
  obtain ⟨T6, X6, e6, st6⟩ := getF X4 hx hZ hown (host := "") (Or.inl (hw _ (List.mem_of_getElem? (i := 15) rfl))) Via.refl e4 TB1.fT (g := (mkF m 22 #[.val (.ref p0), .val (.int i), .val (.int p2), .val (.int (own_i k)), .val (.int (own_i x))] [(.ref p0), (.int (own_i k)), (.ref r3)])) rfl rfl (hb hby d8_22)
  refine own_by st6 ?_
  show own_Go p.tables e below s _ _ _ (T6.setTop (mkF m 25 #[.val (.ref p0), .val (.int i), .val (.int p2), .val (.int (own_i k)), .val (.int (own_i x))] [(.ref ta), (.int (own_i k)), (.ref r3)]))
  refine own_by (fun _ kz => XS.iloadN X6.here hx rfl (hb hby d8_25) rfl kz) ?_
  show own_Go p.tables e below s _ _ _ (T6.setTop (mkF m 26 #[.val (.ref p0), .val (.int i), .val (.int p2), .val (.int (own_i k)), .val (.int (own_i x))] [(.int i), (.ref ta), (.int (own_i k)), (.ref r3)]))
  obtain ⟨kt7, Ov7, Vt7⟩ := TB1.2.1
  refine own_by (fun _ kz => own_ldA X6 hx hZ e6 Vt7 rfl (own_i01 hi) (own_pr_get hi _ _ _) (g := (mkF m 26 #[.val (.ref p0), .val (.int i), .val (.int p2), .val (.int (own_i k)), .val (.int (own_i x))] [(.int i), (.ref ta), (.int (own_i k)), (.ref r3)])) rfl rfl (hb hby d8_26) _ kz) ?_
  show own_Go p.tables e below s _ _ _ (T6.setTop (mkF m 27 #[.val (.ref p0), .val (.int i), .val (.int p2), .val (.int (own_i k)), .val (.int (own_i x))] [(.ref r3), (.int (own_i k)), (.ref r3)]))
  refine own_by (fun _ kz => XS.iload X6.here hx rfl (hb hby d8_27) rfl kz) ?_
  show own_Go p.tables e below s _ _ _ (T6.setTop (mkF m 29 #[.val (.ref p0), .val (.int i), .val (.int p2), .val (.int (own_i k)), .val (.int (own_i x))] [(.int (own_i x)), (.ref r3), (.int (own_i k)), (.ref r3)]))
  obtain ⟨-, -, -, kr8, Vr8⟩ := id FU1
  refine own_by (fun _ kz => own_ld X6 hx hZ e6 Vr8 (own_i_lt4 (Nat.lt_of_le_of_lt hxk hk)) (own_at (Nat.lt_of_le_of_lt hxk hk) vs) (g := (mkF m 29 #[.val (.ref p0), .val (.int i), .val (.int p2), .val (.int (own_i k)), .val (.int (own_i x))] [(.int (own_i x)), (.ref r3), (.int (own_i k)), (.ref r3)])) rfl rfl (hb hby d8_29) _ kz) ?_
  show own_Go p.tables e below s _ _ _ (T6.setTop (mkF m 30 #[.val (.ref p0), .val (.int i), .val (.int p2), .val (.int (own_i k)), .val (.int (own_i x))] [(.int (vs.getD (x) 0)), (.int (own_i k)), (.ref r3)]))
  obtain ⟨-, -, -, kr9, Vr9⟩ := id FU1
  obtain ⟨T9, h9, X9, e9, W9, st9⟩ := own_st X6 hx hZ e6 Vr9 (j := (own_i k)) (own_i_lt4 hk) (g := (mkF m 30 #[.val (.ref p0), .val (.int i), .val (.int p2), .val (.int (own_i k)), .val (.int (own_i x))] [(.int (vs.getD (x) 0)), (.int (own_i k)), (.ref r3)])) rfl rfl (hb hby d8_30)
  have N9 := Fr.snoc X9 N1 FU1.1
  have Z9 : n0 ≤ h9.size := by rw [W9.size]; exact Zq1
  obtain ⟨TB9, FU9⟩ := TB1.setRow FU1 hk W9
  refine own_by st9 ?_
  show own_Go p.tables e below s _ _ _ (T9.setTop (mkF m 31 #[.val (.ref p0), .val (.int i), .val (.int p2), .val (.int (own_i k)), .val (.int (own_i x))] []))
  refine own_by (fun _ kz => XS.aloadN X9.here hx rfl (hb hby d8_31) rfl rfl kz) ?_
  show own_Go p.tables e below s _ _ _ (T9.setTop (mkF m 32 #[.val (.ref p0), .val (.int i), .val (.int p2), .val (.int (own_i k)), .val (.int (own_i x))] [(.ref p0)]))
  obtain ⟨T10, X10, e10, st10⟩ := getF X9 hx hZ hown (host := "") (Or.inl (hw _ (List.mem_of_getElem? (i := 15) rfl))) Via.refl e9 TB9.fT (g := (mkF m 32 #[.val (.ref p0), .val (.int i), .val (.int p2), .val (.int (own_i k)), .val (.int (own_i x))] [(.ref p0)])) rfl rfl (hb hby d8_32)
  refine own_by st10 ?_
  show own_Go p.tables e below s _ _ _ (T10.setTop (mkF m 35 #[.val (.ref p0), .val (.int i), .val (.int p2), .val (.int (own_i k)), .val (.int (own_i x))] [(.ref ta)]))
  refine own_by (fun _ kz => XS.iloadN X10.here hx rfl (hb hby d8_35) rfl kz) ?_
  show own_Go p.tables e below s _ _ _ (T10.setTop (mkF m 36 #[.val (.ref p0), .val (.int i), .val (.int p2), .val (.int (own_i k)), .val (.int (own_i x))] [(.int i), (.ref ta)]))
  obtain ⟨kt11, Ov11, Vt11⟩ := TB9.2.1
  refine own_by (fun _ kz => own_ldA X10 hx hZ e10 Vt11 rfl (own_i01 hi) (own_pr_get hi _ _ _) (g := (mkF m 36 #[.val (.ref p0), .val (.int i), .val (.int p2), .val (.int (own_i k)), .val (.int (own_i x))] [(.int i), (.ref ta)])) rfl rfl (hb hby d8_36) _ kz) ?_
  show own_Go p.tables e below s _ _ _ (T10.setTop (mkF m 37 #[.val (.ref p0), .val (.int i), .val (.int p2), .val (.int (own_i k)), .val (.int (own_i x))] [(.ref r3)]))
  refine own_by (fun _ kz => XS.iload X10.here hx rfl (hb hby d8_37) rfl kz) ?_
  show own_Go p.tables e below s _ _ _ (T10.setTop (mkF m 39 #[.val (.ref p0), .val (.int i), .val (.int p2), .val (.int (own_i k)), .val (.int (own_i x))] [(.int (own_i x)), (.ref r3)]))
  refine own_by (fun _ kz => XS.iloadN X10.here hx rfl (hb hby d8_39) rfl kz) ?_
  show own_Go p.tables e below s _ _ _ (T10.setTop (mkF m 40 #[.val (.ref p0), .val (.int i), .val (.int p2), .val (.int (own_i k)), .val (.int (own_i x))] [(.int p2), (.int (own_i x)), (.ref r3)]))
  obtain ⟨-, -, -, kr12, Vr12⟩ := id FU9
  obtain ⟨T12, h12, X12, e12, W12, st12⟩ := own_st X10 hx hZ e10 Vr12 (j := (own_i x)) (own_i_lt4 (Nat.lt_of_le_of_lt hxk hk)) (g := (mkF m 40 #[.val (.ref p0), .val (.int i), .val (.int p2), .val (.int (own_i k)), .val (.int (own_i x))] [(.int p2), (.int (own_i x)), (.ref r3)])) rfl rfl (hb hby d8_40)
  have N12 := Fr.snoc X12 N9 FU9.1
  have Z12 : n0 ≤ h12.size := by rw [W12.size]; exact Z9
  obtain ⟨TB12, FU12⟩ := TB9.setRow FU9 (Nat.lt_of_le_of_lt hxk hk) W12
  refine own_by st12 ?_
  show own_Go p.tables e below s _ _ _ (T12.setTop (mkF m 41 #[.val (.ref p0), .val (.int i), .val (.int p2), .val (.int (own_i k)), .val (.int (own_i x))] []))
  refine own_by (fun _ kz => XS.aloadN X12.here hx rfl (hb hby d8_41) rfl rfl kz) ?_
  show own_Go p.tables e below s _ _ _ (T12.setTop (mkF m 42 #[.val (.ref p0), .val (.int i), .val (.int p2), .val (.int (own_i k)), .val (.int (own_i x))] [(.ref p0)]))
  obtain ⟨T13, X13, e13, st13⟩ := getF X12 hx hZ hown (host := "") (Or.inl (hw _ (List.mem_of_getElem? (i := 27) rfl))) Via.refl e12 TB12.fF (g := (mkF m 42 #[.val (.ref p0), .val (.int i), .val (.int p2), .val (.int (own_i k)), .val (.int (own_i x))] [(.ref p0)])) rfl rfl (hb hby d8_42)
  refine own_by st13 ?_
  show own_Go p.tables e below s _ _ _ (T13.setTop (mkF m 45 #[.val (.ref p0), .val (.int i), .val (.int p2), .val (.int (own_i k)), .val (.int (own_i x))] [(.ref fa)]))
  refine own_by (fun _ kz => XS.iloadN X13.here hx rfl (hb hby d8_45) rfl kz) ?_
  show own_Go p.tables e below s _ _ _ (T13.setTop (mkF m 46 #[.val (.ref p0), .val (.int i), .val (.int p2), .val (.int (own_i k)), .val (.int (own_i x))] [(.int i), (.ref fa)]))
  refine own_by (fun _ kz => XS.iload X13.here hx rfl (hb hby d8_46) rfl kz) ?_
  show own_Go p.tables e below s _ _ _ (T13.setTop (mkF m 48 #[.val (.ref p0), .val (.int i), .val (.int p2), .val (.int (own_i k)), .val (.int (own_i x))] [(.int (own_i x)), (.int i), (.ref fa)]))
  refine own_by (fun _ kz => XS.iconst X13.here hx rfl (hb hby d8_48) kz) ?_
  show own_Go p.tables e below s _ _ _ (T13.setTop (mkF m 49 #[.val (.ref p0), .val (.int i), .val (.int p2), .val (.int (own_i k)), .val (.int (own_i x))] [(.int (1 : Int32)), (.int (own_i x)), (.int i), (.ref fa)]))
  refine own_by (fun _ kz => XS.iadd X13.here hx rfl (hb hby d8_49) rfl kz) ?_
  show own_Go p.tables e below s _ _ _ (T13.setTop (mkF m 50 #[.val (.ref p0), .val (.int i), .val (.int p2), .val (.int (own_i k)), .val (.int (own_i x))] [(.int ((own_i x) + (1 : Int32))), (.int i), (.ref fa)]))
  rw [own_i_succ (x) (by omega)]
  show own_Go p.tables e below s _ _ _ (T13.setTop (mkF m 50 #[.val (.ref p0), .val (.int i), .val (.int p2), .val (.int (own_i k)), .val (.int (own_i x))] [(.int (own_i (x + 1))), (.int i), (.ref fa)]))
  obtain ⟨kc14, Vc14⟩ := TB12.2.2.2.1
  obtain ⟨T14, h14, X14, e14, W14, st14⟩ := own_st X13 hx hZ e13 Vc14 (j := i) (own_i01 hi) (g := (mkF m 50 #[.val (.ref p0), .val (.int i), .val (.int p2), .val (.int (own_i k)), .val (.int (own_i x))] [(.int (own_i (x + 1))), (.int i), (.ref fa)])) rfl rfl (hb hby d8_50)
  have N14 := Fr.snoc X14 N12 TB12.1.1.2.2.2.1
  have Z14 : n0 ≤ h14.size := by rw [W14.size]; exact Z12
  obtain ⟨TB14, FU14⟩ := TB12.setFix hi FU12 W14
  refine own_by st14 ?_
  show own_Go p.tables e below s _ _ _ (T14.setTop (mkF m 51 #[.val (.ref p0), .val (.int i), .val (.int p2), .val (.int (own_i k)), .val (.int (own_i x))] []))
  refine own_by (fun _ kz => XS.aloadN X14.here hx rfl (hb hby d8_51) rfl rfl kz) ?_
  show own_Go p.tables e below s _ _ _ (T14.setTop (mkF m 52 #[.val (.ref p0), .val (.int i), .val (.int p2), .val (.int (own_i k)), .val (.int (own_i x))] [(.ref p0)]))
  obtain ⟨T15, X15, e15, st15⟩ := getF X14 hx hZ hown (host := "") (Or.inl (hw _ (List.mem_of_getElem? (i := 25) rfl))) Via.refl e14 TB14.fC (g := (mkF m 52 #[.val (.ref p0), .val (.int i), .val (.int p2), .val (.int (own_i k)), .val (.int (own_i x))] [(.ref p0)])) rfl rfl (hb hby d8_52)
  refine own_by st15 ?_
  show own_Go p.tables e below s _ _ _ (T15.setTop (mkF m 55 #[.val (.ref p0), .val (.int i), .val (.int p2), .val (.int (own_i k)), .val (.int (own_i x))] [(.ref ca)]))
  refine own_by (fun _ kz => XS.iloadN X15.here hx rfl (hb hby d8_55) rfl kz) ?_
  show own_Go p.tables e below s _ _ _ (T15.setTop (mkF m 56 #[.val (.ref p0), .val (.int i), .val (.int p2), .val (.int (own_i k)), .val (.int (own_i x))] [(.int i), (.ref ca)]))
  refine own_by (fun _ kz => XS.iloadN X15.here hx rfl (hb hby d8_56) rfl kz) ?_
  show own_Go p.tables e below s _ _ _ (T15.setTop (mkF m 57 #[.val (.ref p0), .val (.int i), .val (.int p2), .val (.int (own_i k)), .val (.int (own_i x))] [(.int (own_i k)), (.int i), (.ref ca)]))
  refine own_by (fun _ kz => XS.iconst X15.here hx rfl (hb hby d8_57) kz) ?_
  show own_Go p.tables e below s _ _ _ (T15.setTop (mkF m 58 #[.val (.ref p0), .val (.int i), .val (.int p2), .val (.int (own_i k)), .val (.int (own_i x))] [(.int (1 : Int32)), (.int (own_i k)), (.int i), (.ref ca)]))
  refine own_by (fun _ kz => XS.iadd X15.here hx rfl (hb hby d8_58) rfl kz) ?_
  show own_Go p.tables e below s _ _ _ (T15.setTop (mkF m 59 #[.val (.ref p0), .val (.int i), .val (.int p2), .val (.int (own_i k)), .val (.int (own_i x))] [(.int ((own_i k) + (1 : Int32))), (.int i), (.ref ca)]))
  rw [own_i_succ (k) (by omega)]
  show own_Go p.tables e below s _ _ _ (T15.setTop (mkF m 59 #[.val (.ref p0), .val (.int i), .val (.int p2), .val (.int (own_i k)), .val (.int (own_i x))] [(.int (own_i (k + 1))), (.int i), (.ref ca)]))
  obtain ⟨kc16, Vc16⟩ := TB14.2.2.1
  obtain ⟨T16, h16, X16, e16, W16, st16⟩ := own_st X15 hx hZ e15 Vc16 (j := i) (own_i01 hi) (g := (mkF m 59 #[.val (.ref p0), .val (.int i), .val (.int p2), .val (.int (own_i k)), .val (.int (own_i x))] [(.int (own_i (k + 1))), (.int i), (.ref ca)])) rfl rfl (hb hby d8_59)
  have N16 := Fr.snoc X16 N14 TB14.1.1.2.2.1
  have Z16 : n0 ≤ h16.size := by rw [W16.size]; exact Z14
  obtain ⟨TB16, FU16⟩ := TB14.setCnt hi FU14 W16
  refine own_by st16 ?_
  show own_Go p.tables e below s _ _ _ (T16.setTop (mkF m 60 #[.val (.ref p0), .val (.int i), .val (.int p2), .val (.int (own_i k)), .val (.int (own_i x))] []))
  exact own_retV X16 hx hlk Bd.returns (hb hby d8_60) (by decide) (by decide) ⟨rfl, N16, by rw [e16]; exact Z16, _, by rw [e16]; exact TB16⟩
theorem d5_0 : decode prog_50_method_5_code 0 = .ok (.aload_n 0, 1) := by decide +kernel
theorem d5_1 : decode prog_50_method_5_code 1 = .ok (.getfield 9, 3) := by decide +kernel
theorem d5_4 : decode prog_50_method_5_code 4 = .ok (.iload_n 1, 1) := by decide +kernel
theorem d5_5 : decode prog_50_method_5_code 5 = .ok (.aaload, 1) := by decide +kernel
theorem d5_6 : decode prog_50_method_5_code 6 = .ok (.astore_n 3, 1) := by decide +kernel
theorem d5_7 : decode prog_50_method_5_code 7 = .ok (.aload_n 0, 1) := by decide +kernel
theorem d5_8 : decode prog_50_method_5_code 8 = .ok (.getfield 24, 3) := by decide +kernel
theorem d5_11 : decode prog_50_method_5_code 11 = .ok (.iload_n 1, 1) := by decide +kernel
theorem d5_12 : decode prog_50_method_5_code 12 = .ok (.iaload, 1) := by decide +kernel
theorem d5_13 : decode prog_50_method_5_code 13 = .ok (.istore 4, 2) := by decide +kernel
theorem d5_15 : decode prog_50_method_5_code 15 = .ok (.aload_n 0, 1) := by decide +kernel
theorem d5_16 : decode prog_50_method_5_code 16 = .ok (.getfield 27, 3) := by decide +kernel
theorem d5_19 : decode prog_50_method_5_code 19 = .ok (.iload_n 1, 1) := by decide +kernel
theorem d5_20 : decode prog_50_method_5_code 20 = .ok (.iaload, 1) := by decide +kernel
theorem d5_21 : decode prog_50_method_5_code 21 = .ok (.istore 5, 2) := by decide +kernel
theorem d5_23 : decode prog_50_method_5_code 23 = .ok (.iload 5, 2) := by decide +kernel
theorem d5_25 : decode prog_50_method_5_code 25 = .ok (.iload 4, 2) := by decide +kernel
theorem d5_27 : decode prog_50_method_5_code 27 = .ok (.if_icmp .ge 39, 3) := by decide +kernel
theorem d5_30 : decode prog_50_method_5_code 30 = .ok (.aload_n 3, 1) := by decide +kernel
theorem d5_31 : decode prog_50_method_5_code 31 = .ok (.iload 5, 2) := by decide +kernel
theorem d5_33 : decode prog_50_method_5_code 33 = .ok (.iaload, 1) := by decide +kernel
theorem d5_34 : decode prog_50_method_5_code 34 = .ok (.iload_n 2, 1) := by decide +kernel
theorem d5_35 : decode prog_50_method_5_code 35 = .ok (.if_icmp .ne 25, 3) := by decide +kernel
theorem d5_38 : decode prog_50_method_5_code 38 = .ok (.aload_n 3, 1) := by decide +kernel
theorem d5_39 : decode prog_50_method_5_code 39 = .ok (.iload 5, 2) := by decide +kernel
theorem d5_41 : decode prog_50_method_5_code 41 = .ok (.aload_n 3, 1) := by decide +kernel
theorem d5_42 : decode prog_50_method_5_code 42 = .ok (.iload 4, 2) := by decide +kernel
theorem d5_44 : decode prog_50_method_5_code 44 = .ok (.iconst 1, 1) := by decide +kernel
theorem d5_45 : decode prog_50_method_5_code 45 = .ok (.isub, 1) := by decide +kernel
theorem d5_46 : decode prog_50_method_5_code 46 = .ok (.iaload, 1) := by decide +kernel
theorem d5_47 : decode prog_50_method_5_code 47 = .ok (.iastore, 1) := by decide +kernel
theorem d5_48 : decode prog_50_method_5_code 48 = .ok (.aload_n 0, 1) := by decide +kernel
theorem d5_49 : decode prog_50_method_5_code 49 = .ok (.getfield 24, 3) := by decide +kernel
theorem d5_52 : decode prog_50_method_5_code 52 = .ok (.iload_n 1, 1) := by decide +kernel
theorem d5_53 : decode prog_50_method_5_code 53 = .ok (.iload 4, 2) := by decide +kernel
theorem d5_55 : decode prog_50_method_5_code 55 = .ok (.iconst 1, 1) := by decide +kernel
theorem d5_56 : decode prog_50_method_5_code 56 = .ok (.isub, 1) := by decide +kernel
theorem d5_57 : decode prog_50_method_5_code 57 = .ok (.iastore, 1) := by decide +kernel
theorem d5_58 : decode prog_50_method_5_code 58 = .ok (.iconst 1, 1) := by decide +kernel
theorem d5_59 : decode prog_50_method_5_code 59 = .ok (.ireturn, 1) := by decide +kernel
theorem d5_60 : decode prog_50_method_5_code 60 = .ok (.iinc 5 1, 3) := by decide +kernel
theorem d5_63 : decode prog_50_method_5_code 63 = .ok (.goto (-40), 3) := by decide +kernel
theorem d5_66 : decode prog_50_method_5_code 66 = .ok (.iconst 0, 1) := by decide +kernel
theorem d5_67 : decode prog_50_method_5_code 67 = .ok (.ireturn, 1) := by decide +kernel
theorem pf_5 : plainFor (⟨"cyclebreak/collector/ReferenceTable", "remove", "(II)Z"⟩ : MethodName) = true := by first | exact plainFor_of_name (by first | (simp [plainName, overriddenIn]; done) | decide +kernel) | decide +kernel
theorem pd_5 : parseMethodDescriptor "(II)Z" = some ⟨[.int, .int], some .boolean⟩ := by decide +kernel
theorem ef_5 (m : MethodId) (p0 : Addr) (i : Int32) (p2 : Int32) : entryFrame m #[(.ref p0), (.int i), (.int p2)] 6 = mkF m 0 #[.val (.ref p0), .val (.int i), .val (.int p2), .unset, .unset, .unset] [] := by first | (simp [entryFrame, mkF, argsToLocals, Value.category]; done) | rfl
def Q5 (Z : State) (p0 : Addr) (i : Int32) (N : Addr) (ta : Addr) (ca : Addr) (fa : Addr) (r2 : Addr) (k : Nat) (k2 : Nat) (x : Nat) (x2 : Nat) (vs : List Int32) (us : List Int32) (r : Addr) (p2 : Int32) (h0 : Heap) (n0 : Nat) (v : Option Value) (h : Heap) (L : List Loc) : Prop := Fr n0 L ∧ n0 ≤ h.size ∧ ∃ b, v = some (.int b) ∧ own_Rem Z n0 N p0 ta ca fa i h r r2 k k2 x x2 vs us p2 b
set_option maxRecDepth 65536 in
set_option maxHeartbeats 40000000 in
theorem rm5 (l : Launch) (Z : State) (a0 : Array Value) (hw : ∀ d ∈ tables_1, d.before a0 Z = true) (ws : List Jvm.Cond) (p0 : Addr) (i : Int32) (p2 : Int32) (h0 : Heap) (n0 : Nat) (Z0 : n0 ≤ h0.size) (N ta ca fa r r2 : Addr) (k k2 x x2 : Nat) (vs us : List Int32) (hi : i = 0 ∨ i = 1) (TB0 : own_Tab Z n0 N p0 ta ca fa i h0 r r2 k k2 x x2 vs us) (hxk : x ≤ k) (hk : k < 5) :
    own_Met l Z (⟨"cyclebreak/collector/ReferenceTable", "remove", "(II)Z"⟩ : MethodName) prog_50_method_5_code 6 (some .boolean) ws ({ frames := 0, cells := 0, slots := 0, locals := 0 } : Room) #[(.ref p0), (.int i), (.int p2)] h0 (Q5 Z p0 i N ta ca fa r2 k k2 x x2 vs us r p2 h0 n0) := by
  refine MetFree.of_bodySF pf_5 hisR ?_
  intro p e s m args below meth c s₁ Bd hml0 hP hK
  obtain ⟨rfl, hZ, hh⟩ := hP
  have hx := Bd.exec
  have hby := Bd.bytes
  have hlk : meth.locks = false := BodyLoose.notSynchronized Bd
  have hml : c.maxLocals = 6 := hml0
  have hown : s.vm.findClass "cyclebreak/collector/ReferenceTable" = some m.cls := findClass_of_methodNamed Bd.named
  have hnm := (name_of_methodNamed Bd.named Bd.method).1
  have X0 : Stand p l e ({ frames := 0, cells := 0, slots := 0, locals := 0 } : Room) s m #[(.ref p0), (.int i), (.int p2)] below meth c s₁ [] 0 0 := Stand.of_body Bd
  have e0 : s₁.heap = h0 := by rw [← hh, Bd.state]; rfl
  have N0 := Fr.nil n0
  show own_Go p.tables e below s (Q5 Z p0 i N ta ca fa r2 k k2 x x2 vs us r p2 h0 n0) ({ frames := 0, cells := 0, slots := 0, locals := 0 } : Room).cells ({ frames := 0, cells := 0, slots := 0, locals := 0 } : Room).slots _
  refine own_by (fun _ k => castTop (ef_5 m p0 i p2) k) ?_
  show own_Go p.tables e below s _ _ _ (s₁.setTop (mkF m 0 #[.val (.ref p0), .val (.int i), .val (.int p2), .unset, .unset, .unset] []))
  refine own_by (fun _ kz => XS.aloadN X0.here hx rfl (hb hby d5_0) rfl rfl kz) ?_
  show own_Go p.tables e below s _ _ _ (s₁.setTop (mkF m 1 #[.val (.ref p0), .val (.int i), .val (.int p2), .unset, .unset, .unset] [(.ref p0)]))
  obtain ⟨T1, X1, e1, st1⟩ := getF X0 hx hZ hown (host := "") (Or.inl (hw _ (List.mem_of_getElem? (i := 15) rfl))) Via.refl e0 TB0.fT (g := (mkF m 1 #[.val (.ref p0), .val (.int i), .val (.int p2), .unset, .unset, .unset] [(.ref p0)])) rfl rfl (hb hby d5_1)
  refine own_by st1 ?_
  show own_Go p.tables e below s _ _ _ (T1.setTop (mkF m 4 #[.val (.ref p0), .val (.int i), .val (.int p2), .unset, .unset, .unset] [(.ref ta)]))
  refine own_by (fun _ kz => XS.iloadN X1.here hx rfl (hb hby d5_4) rfl kz) ?_
  show own_Go p.tables e below s _ _ _ (T1.setTop (mkF m 5 #[.val (.ref p0), .val (.int i), .val (.int p2), .unset, .unset, .unset] [(.int i), (.ref ta)]))
  obtain ⟨kt2, Ov2, Vt2⟩ := TB0.2.1
  refine own_by (fun _ kz => own_ldA X1 hx hZ e1 Vt2 rfl (own_i01 hi) (own_pr_get hi _ _ _) (g := (mkF m 5 #[.val (.ref p0), .val (.int i), .val (.int p2), .unset, .unset, .unset] [(.int i), (.ref ta)])) rfl rfl (hb hby d5_5) _ kz) ?_
  show own_Go p.tables e below s _ _ _ (T1.setTop (mkF m 6 #[.val (.ref p0), .val (.int i), .val (.int p2), .unset, .unset, .unset] [(.ref r)]))
  refine own_by (fun _ kz => XS.astoreN X1.here hx rfl (hb hby d5_6) rfl rfl (l' := #[.val (.ref p0), .val (.int i), .val (.int p2), .val (.ref r), .unset, .unset]) rfl kz) ?_
  show own_Go p.tables e below s _ _ _ (T1.setTop (mkF m 7 #[.val (.ref p0), .val (.int i), .val (.int p2), .val (.ref r), .unset, .unset] []))
  refine own_by (fun _ kz => XS.aloadN X1.here hx rfl (hb hby d5_7) rfl rfl kz) ?_
  show own_Go p.tables e below s _ _ _ (T1.setTop (mkF m 8 #[.val (.ref p0), .val (.int i), .val (.int p2), .val (.ref r), .unset, .unset] [(.ref p0)]))
  obtain ⟨T3, X3, e3, st3⟩ := getF X1 hx hZ hown (host := "") (Or.inl (hw _ (List.mem_of_getElem? (i := 25) rfl))) Via.refl e1 TB0.fC (g := (mkF m 8 #[.val (.ref p0), .val (.int i), .val (.int p2), .val (.ref r), .unset, .unset] [(.ref p0)])) rfl rfl (hb hby d5_8)
  refine own_by st3 ?_
  show own_Go p.tables e below s _ _ _ (T3.setTop (mkF m 11 #[.val (.ref p0), .val (.int i), .val (.int p2), .val (.ref r), .unset, .unset] [(.ref ca)]))
  refine own_by (fun _ kz => XS.iloadN X3.here hx rfl (hb hby d5_11) rfl kz) ?_
  show own_Go p.tables e below s _ _ _ (T3.setTop (mkF m 12 #[.val (.ref p0), .val (.int i), .val (.int p2), .val (.ref r), .unset, .unset] [(.int i), (.ref ca)]))
  obtain ⟨kc4, Vc4⟩ := TB0.2.2.1
  refine own_by (fun _ kz => own_ld X3 hx hZ e3 Vc4 (own_i01 hi) (own_pr_get hi _ _ _) (g := (mkF m 12 #[.val (.ref p0), .val (.int i), .val (.int p2), .val (.ref r), .unset, .unset] [(.int i), (.ref ca)])) rfl rfl (hb hby d5_12) _ kz) ?_
  show own_Go p.tables e below s _ _ _ (T3.setTop (mkF m 13 #[.val (.ref p0), .val (.int i), .val (.int p2), .val (.ref r), .unset, .unset] [(.int (own_i k))]))
  refine own_by (fun _ kz => XS.istore X3.here hx rfl (hb hby d5_13) rfl (l' := #[.val (.ref p0), .val (.int i), .val (.int p2), .val (.ref r), .val (.int (own_i k)), .unset]) rfl kz) ?_
  show own_Go p.tables e below s _ _ _ (T3.setTop (mkF m 15 #[.val (.ref p0), .val (.int i), .val (.int p2), .val (.ref r), .val (.int (own_i k)), .unset] []))
  refine own_by (fun _ kz => XS.aloadN X3.here hx rfl (hb hby d5_15) rfl rfl kz) ?_
  show own_Go p.tables e below s _ _ _ (T3.setTop (mkF m 16 #[.val (.ref p0), .val (.int i), .val (.int p2), .val (.ref r), .val (.int (own_i k)), .unset] [(.ref p0)]))
  obtain ⟨T5, X5, e5, st5⟩ := getF X3 hx hZ hown (host := "") (Or.inl (hw _ (List.mem_of_getElem? (i := 27) rfl))) Via.refl e3 TB0.fF (g := (mkF m 16 #[.val (.ref p0), .val (.int i), .val (.int p2), .val (.ref r), .val (.int (own_i k)), .unset] [(.ref p0)])) rfl rfl (hb hby d5_16)
  refine own_by st5 ?_
  show own_Go p.tables e below s _ _ _ (T5.setTop (mkF m 19 #[.val (.ref p0), .val (.int i), .val (.int p2), .val (.ref r), .val (.int (own_i k)), .unset] [(.ref fa)]))
  refine own_by (fun _ kz => XS.iloadN X5.here hx rfl (hb hby d5_19) rfl kz) ?_
  show own_Go p.tables e below s _ _ _ (T5.setTop (mkF m 20 #[.val (.ref p0), .val (.int i), .val (.int p2), .val (.ref r), .val (.int (own_i k)), .unset] [(.int i), (.ref fa)]))
  obtain ⟨kc6, Vc6⟩ := TB0.2.2.2.1
  refine own_by (fun _ kz => own_ld X5 hx hZ e5 Vc6 (own_i01 hi) (own_pr_get hi _ _ _) (g := (mkF m 20 #[.val (.ref p0), .val (.int i), .val (.int p2), .val (.ref r), .val (.int (own_i k)), .unset] [(.int i), (.ref fa)])) rfl rfl (hb hby d5_20) _ kz) ?_
  show own_Go p.tables e below s _ _ _ (T5.setTop (mkF m 21 #[.val (.ref p0), .val (.int i), .val (.int p2), .val (.ref r), .val (.int (own_i k)), .unset] [(.int (own_i x))]))
  refine own_by (fun _ kz => XS.istore X5.here hx rfl (hb hby d5_21) rfl (l' := #[.val (.ref p0), .val (.int i), .val (.int p2), .val (.ref r), .val (.int (own_i k)), .val (.int (own_i x))]) rfl kz) ?_
  show own_Go p.tables e below s _ _ _ (T5.setTop (mkF m 23 #[.val (.ref p0), .val (.int i), .val (.int p2), .val (.ref r), .val (.int (own_i k)), .val (.int (own_i x))] []))
  have loop : ∀ (n j : Nat) (T : State), Stand p l e ({ frames := 0, cells := 0, slots := 0, locals := 0 } : Room) s m #[(.ref p0), (.int i), (.int p2)] below meth c T [] 0 0 → T.heap = h0 → j + n = k → x ≤ j → (∀ q, x ≤ q → q < j → ¬ vs.getD q 0 = p2) → own_Go p.tables e below s (Q5 Z p0 i N ta ca fa r2 k k2 x x2 vs us r p2 h0 n0) ({ frames := 0, cells := 0, slots := 0, locals := 0 } : Room).cells ({ frames := 0, cells := 0, slots := 0, locals := 0 } : Room).slots (T.setTop (mkF m 23 #[.val (.ref p0), .val (.int i), .val (.int p2), .val (.ref r), .val (.int (own_i k)), .val (.int (own_i j))] [])) := by
    intro n
    induction n with
    | zero =>
      intro j T X eT hjn hxj hno
      refine own_by (fun _ kz => XS.iload X.here hx rfl (hb hby d5_23) rfl kz) ?_
      show own_Go p.tables e below s _ _ _ (T.setTop (mkF m 25 #[.val (.ref p0), .val (.int i), .val (.int p2), .val (.ref r), .val (.int (own_i k)), .val (.int (own_i j))] [(.int (own_i j))]))
      refine own_by (fun _ kz => XS.iload X.here hx rfl (hb hby d5_25) rfl kz) ?_
      show own_Go p.tables e below s _ _ _ (T.setTop (mkF m 27 #[.val (.ref p0), .val (.int i), .val (.int p2), .val (.ref r), .val (.int (own_i k)), .val (.int (own_i j))] [(.int (own_i k)), (.int (own_i j))]))
      refine own_by (fun _ kz => XS.icmpYes X.here hx rfl (pc0 := 27) (pc' := 66) rfl (hb hby d5_27) rfl (flt (show ¬ (own_i j) < (own_i k) from fun q => by have := (own_i_lt j (by omega) k (by omega)).mp q; omega)).2.1 (by decide) (by decide) kz) ?_
      show own_Go p.tables e below s _ _ _ (T.setTop (mkF m 66 #[.val (.ref p0), .val (.int i), .val (.int p2), .val (.ref r), .val (.int (own_i k)), .val (.int (own_i j))] []))
      refine own_by (fun _ kz => XS.iconst X.here hx rfl (hb hby d5_66) kz) ?_
      show own_Go p.tables e below s _ _ _ (T.setTop (mkF m 67 #[.val (.ref p0), .val (.int i), .val (.int p2), .val (.ref r), .val (.int (own_i k)), .val (.int (own_i j))] [(.int (0 : Int32))]))
      exact own_retZ X hx hlk Bd.returns (hb hby d5_67) (by decide) (by decide) ⟨N0, by rw [eT]; exact Z0, 0, rfl, by rw [eT]; exact Or.inr ⟨rfl, fun q a b => hno q a (by omega), TB0⟩⟩
    | succ n ih =>
      intro j T X eT hjn hxj hno
      have FU0 := TB0.full (by omega)
      refine own_by (fun _ kz => XS.iload X.here hx rfl (hb hby d5_23) rfl kz) ?_
      show own_Go p.tables e below s _ _ _ (T.setTop (mkF m 25 #[.val (.ref p0), .val (.int i), .val (.int p2), .val (.ref r), .val (.int (own_i k)), .val (.int (own_i j))] [(.int (own_i j))]))
      refine own_by (fun _ kz => XS.iload X.here hx rfl (hb hby d5_25) rfl kz) ?_
      show own_Go p.tables e below s _ _ _ (T.setTop (mkF m 27 #[.val (.ref p0), .val (.int i), .val (.int p2), .val (.ref r), .val (.int (own_i k)), .val (.int (own_i j))] [(.int (own_i k)), (.int (own_i j))]))
      refine own_by (fun _ kz => XS.icmpNo X.here hx rfl (hb hby d5_27) rfl (tlt (show (own_i j) < (own_i k) from (own_i_lt j (by omega) k (by omega)).mpr (by omega))).2.1 kz) ?_
      show own_Go p.tables e below s _ _ _ (T.setTop (mkF m 30 #[.val (.ref p0), .val (.int i), .val (.int p2), .val (.ref r), .val (.int (own_i k)), .val (.int (own_i j))] []))
      refine own_by (fun _ kz => XS.aloadN X.here hx rfl (hb hby d5_30) rfl rfl kz) ?_
      show own_Go p.tables e below s _ _ _ (T.setTop (mkF m 31 #[.val (.ref p0), .val (.int i), .val (.int p2), .val (.ref r), .val (.int (own_i k)), .val (.int (own_i j))] [(.ref r)]))
      refine own_by (fun _ kz => XS.iload X.here hx rfl (hb hby d5_31) rfl kz) ?_
      show own_Go p.tables e below s _ _ _ (T.setTop (mkF m 33 #[.val (.ref p0), .val (.int i), .val (.int p2), .val (.ref r), .val (.int (own_i k)), .val (.int (own_i j))] [(.int (own_i j)), (.ref r)]))
      obtain ⟨-, -, -, kr7, Vr7⟩ := id FU0
      refine own_by (fun _ kz => own_ld X hx hZ eT Vr7 (own_i_lt4 (show j < 4 by omega)) (own_at (show j < 4 by omega) vs) (g := (mkF m 33 #[.val (.ref p0), .val (.int i), .val (.int p2), .val (.ref r), .val (.int (own_i k)), .val (.int (own_i j))] [(.int (own_i j)), (.ref r)])) rfl rfl (hb hby d5_33) _ kz) ?_
      show own_Go p.tables e below s _ _ _ (T.setTop (mkF m 34 #[.val (.ref p0), .val (.int i), .val (.int p2), .val (.ref r), .val (.int (own_i k)), .val (.int (own_i j))] [(.int (vs.getD (j) 0))]))
      refine own_by (fun _ kz => XS.iloadN X.here hx rfl (hb hby d5_34) rfl kz) ?_
      show own_Go p.tables e below s _ _ _ (T.setTop (mkF m 35 #[.val (.ref p0), .val (.int i), .val (.int p2), .val (.ref r), .val (.int (own_i k)), .val (.int (own_i j))] [(.int p2), (.int (vs.getD (j) 0))]))
      by_cases hc35_8 : (vs.getD (j) 0) = p2
      · refine own_by (fun _ kz => XS.icmpNo X.here hx rfl (hb hby d5_35) rfl (teq hc35_8).2 kz) ?_
        show own_Go p.tables e below s _ _ _ (T.setTop (mkF m 38 #[.val (.ref p0), .val (.int i), .val (.int p2), .val (.ref r), .val (.int (own_i k)), .val (.int (own_i j))] []))
        refine own_by (fun _ kz => XS.aloadN X.here hx rfl (hb hby d5_38) rfl rfl kz) ?_
        show own_Go p.tables e below s _ _ _ (T.setTop (mkF m 39 #[.val (.ref p0), .val (.int i), .val (.int p2), .val (.ref r), .val (.int (own_i k)), .val (.int (own_i j))] [(.ref r)]))
        refine own_by (fun _ kz => XS.iload X.here hx rfl (hb hby d5_39) rfl kz) ?_
        show own_Go p.tables e below s _ _ _ (T.setTop (mkF m 41 #[.val (.ref p0), .val (.int i), .val (.int p2), .val (.ref r), .val (.int (own_i k)), .val (.int (own_i j))] [(.int (own_i j)), (.ref r)]))
        refine own_by (fun _ kz => XS.aloadN X.here hx rfl (hb hby d5_41) rfl rfl kz) ?_
        show own_Go p.tables e below s _ _ _ (T.setTop (mkF m 42 #[.val (.ref p0), .val (.int i), .val (.int p2), .val (.ref r), .val (.int (own_i k)), .val (.int (own_i j))] [(.ref r), (.int (own_i j)), (.ref r)]))
        refine own_by (fun _ kz => XS.iload X.here hx rfl (hb hby d5_42) rfl kz) ?_
        show own_Go p.tables e below s _ _ _ (T.setTop (mkF m 44 #[.val (.ref p0), .val (.int i), .val (.int p2), .val (.ref r), .val (.int (own_i k)), .val (.int (own_i j))] [(.int (own_i k)), (.ref r), (.int (own_i j)), (.ref r)]))
        refine own_by (fun _ kz => XS.iconst X.here hx rfl (hb hby d5_44) kz) ?_
        show own_Go p.tables e below s _ _ _ (T.setTop (mkF m 45 #[.val (.ref p0), .val (.int i), .val (.int p2), .val (.ref r), .val (.int (own_i k)), .val (.int (own_i j))] [(.int (1 : Int32)), (.int (own_i k)), (.ref r), (.int (own_i j)), (.ref r)]))
        refine own_by (fun _ kz => XS.isub X.here hx rfl (hb hby d5_45) rfl kz) ?_
        show own_Go p.tables e below s _ _ _ (T.setTop (mkF m 46 #[.val (.ref p0), .val (.int i), .val (.int p2), .val (.ref r), .val (.int (own_i k)), .val (.int (own_i j))] [(.int ((own_i k) - (1 : Int32))), (.ref r), (.int (own_i j)), (.ref r)]))
        rw [own_i_pred' (k) (by omega) (by omega)]
        show own_Go p.tables e below s _ _ _ (T.setTop (mkF m 46 #[.val (.ref p0), .val (.int i), .val (.int p2), .val (.ref r), .val (.int (own_i k)), .val (.int (own_i j))] [(.int (own_i (k - 1))), (.ref r), (.int (own_i j)), (.ref r)]))
        obtain ⟨-, -, -, kr9, Vr9⟩ := id FU0
        refine own_by (fun _ kz => own_ld X hx hZ eT Vr9 (own_i_lt4 (show k - 1 < 4 by omega)) (own_at (show k - 1 < 4 by omega) vs) (g := (mkF m 46 #[.val (.ref p0), .val (.int i), .val (.int p2), .val (.ref r), .val (.int (own_i k)), .val (.int (own_i j))] [(.int (own_i (k - 1))), (.ref r), (.int (own_i j)), (.ref r)])) rfl rfl (hb hby d5_46) _ kz) ?_
        show own_Go p.tables e below s _ _ _ (T.setTop (mkF m 47 #[.val (.ref p0), .val (.int i), .val (.int p2), .val (.ref r), .val (.int (own_i k)), .val (.int (own_i j))] [(.int (vs.getD ((k - 1)) 0)), (.int (own_i j)), (.ref r)]))
        obtain ⟨-, -, -, kr10, Vr10⟩ := id FU0
        obtain ⟨T10, h10, X10, e10, W10, st10⟩ := own_st X hx hZ eT Vr10 (j := (own_i j)) (own_i_lt4 (show j < 4 by omega)) (g := (mkF m 47 #[.val (.ref p0), .val (.int i), .val (.int p2), .val (.ref r), .val (.int (own_i k)), .val (.int (own_i j))] [(.int (vs.getD ((k - 1)) 0)), (.int (own_i j)), (.ref r)])) rfl rfl (hb hby d5_47)
        have N10 := Fr.snoc X10 N0 FU0.1
        have Z10 : n0 ≤ h10.size := by rw [W10.size]; exact Z0
        obtain ⟨TB10, FU10⟩ := TB0.setRow FU0 (show j < 4 by omega) W10
        refine own_by st10 ?_
        show own_Go p.tables e below s _ _ _ (T10.setTop (mkF m 48 #[.val (.ref p0), .val (.int i), .val (.int p2), .val (.ref r), .val (.int (own_i k)), .val (.int (own_i j))] []))
        refine own_by (fun _ kz => XS.aloadN X10.here hx rfl (hb hby d5_48) rfl rfl kz) ?_
        show own_Go p.tables e below s _ _ _ (T10.setTop (mkF m 49 #[.val (.ref p0), .val (.int i), .val (.int p2), .val (.ref r), .val (.int (own_i k)), .val (.int (own_i j))] [(.ref p0)]))
        obtain ⟨T11, X11, e11, st11⟩ := getF X10 hx hZ hown (host := "") (Or.inl (hw _ (List.mem_of_getElem? (i := 25) rfl))) Via.refl e10 TB10.fC (g := (mkF m 49 #[.val (.ref p0), .val (.int i), .val (.int p2), .val (.ref r), .val (.int (own_i k)), .val (.int (own_i j))] [(.ref p0)])) rfl rfl (hb hby d5_49)
        refine own_by st11 ?_
        show own_Go p.tables e below s _ _ _ (T11.setTop (mkF m 52 #[.val (.ref p0), .val (.int i), .val (.int p2), .val (.ref r), .val (.int (own_i k)), .val (.int (own_i j))] [(.ref ca)]))
        refine own_by (fun _ kz => XS.iloadN X11.here hx rfl (hb hby d5_52) rfl kz) ?_
        show own_Go p.tables e below s _ _ _ (T11.setTop (mkF m 53 #[.val (.ref p0), .val (.int i), .val (.int p2), .val (.ref r), .val (.int (own_i k)), .val (.int (own_i j))] [(.int i), (.ref ca)]))
        refine own_by (fun _ kz => XS.iload X11.here hx rfl (hb hby d5_53) rfl kz) ?_
        show own_Go p.tables e below s _ _ _ (T11.setTop (mkF m 55 #[.val (.ref p0), .val (.int i), .val (.int p2), .val (.ref r), .val (.int (own_i k)), .val (.int (own_i j))] [(.int (own_i k)), (.int i), (.ref ca)]))
        refine own_by (fun _ kz => XS.iconst X11.here hx rfl (hb hby d5_55) kz) ?_
        show own_Go p.tables e below s _ _ _ (T11.setTop (mkF m 56 #[.val (.ref p0), .val (.int i), .val (.int p2), .val (.ref r), .val (.int (own_i k)), .val (.int (own_i j))] [(.int (1 : Int32)), (.int (own_i k)), (.int i), (.ref ca)]))
        refine own_by (fun _ kz => XS.isub X11.here hx rfl (hb hby d5_56) rfl kz) ?_
        show own_Go p.tables e below s _ _ _ (T11.setTop (mkF m 57 #[.val (.ref p0), .val (.int i), .val (.int p2), .val (.ref r), .val (.int (own_i k)), .val (.int (own_i j))] [(.int ((own_i k) - (1 : Int32))), (.int i), (.ref ca)]))
        rw [own_i_pred' (k) (by omega) (by omega)]
        show own_Go p.tables e below s _ _ _ (T11.setTop (mkF m 57 #[.val (.ref p0), .val (.int i), .val (.int p2), .val (.ref r), .val (.int (own_i k)), .val (.int (own_i j))] [(.int (own_i (k - 1))), (.int i), (.ref ca)]))
        obtain ⟨kc12, Vc12⟩ := TB10.2.2.1
        obtain ⟨T12, h12, X12, e12, W12, st12⟩ := own_st X11 hx hZ e11 Vc12 (j := i) (own_i01 hi) (g := (mkF m 57 #[.val (.ref p0), .val (.int i), .val (.int p2), .val (.ref r), .val (.int (own_i k)), .val (.int (own_i j))] [(.int (own_i (k - 1))), (.int i), (.ref ca)])) rfl rfl (hb hby d5_57)
        have N12 := Fr.snoc X12 N10 TB10.1.1.2.2.1
        have Z12 : n0 ≤ h12.size := by rw [W12.size]; exact Z10
        obtain ⟨TB12, FU12⟩ := TB10.setCnt hi FU10 W12
        refine own_by st12 ?_
        show own_Go p.tables e below s _ _ _ (T12.setTop (mkF m 58 #[.val (.ref p0), .val (.int i), .val (.int p2), .val (.ref r), .val (.int (own_i k)), .val (.int (own_i j))] []))
        refine own_by (fun _ kz => XS.iconst X12.here hx rfl (hb hby d5_58) kz) ?_
        show own_Go p.tables e below s _ _ _ (T12.setTop (mkF m 59 #[.val (.ref p0), .val (.int i), .val (.int p2), .val (.ref r), .val (.int (own_i k)), .val (.int (own_i j))] [(.int (1 : Int32))]))
        exact own_retZ X12 hx hlk Bd.returns (hb hby d5_59) (by decide) (by decide) ⟨N12, by rw [e12]; exact Z12, 1, rfl, by rw [e12]; exact Or.inl ⟨rfl, j, hxj, by omega, hc35_8, TB12⟩⟩
      · refine own_by (fun _ kz => XS.icmpYes X.here hx rfl (pc0 := 35) (pc' := 60) rfl (hb hby d5_35) rfl (feq hc35_8).2 (by decide) (by decide) kz) ?_
        show own_Go p.tables e below s _ _ _ (T.setTop (mkF m 60 #[.val (.ref p0), .val (.int i), .val (.int p2), .val (.ref r), .val (.int (own_i k)), .val (.int (own_i j))] []))
        refine own_by (fun _ kz => XS.iinc X.here hx rfl (hb hby d5_60) rfl (l' := #[.val (.ref p0), .val (.int i), .val (.int p2), .val (.ref r), .val (.int (own_i k)), .val (.int (own_i j + 1))]) rfl kz) ?_
        show own_Go p.tables e below s _ _ _ (T.setTop (mkF m 63 #[.val (.ref p0), .val (.int i), .val (.int p2), .val (.ref r), .val (.int (own_i k)), .val (.int (own_i j + 1))] []))
        rw [own_i_succ j (by omega)]
        show own_Go p.tables e below s _ _ _ (T.setTop (mkF m 63 #[.val (.ref p0), .val (.int i), .val (.int p2), .val (.ref r), .val (.int (own_i k)), .val (.int (own_i (j + 1)))] []))
        refine own_by (fun _ kz => XS.goto X.here hx rfl (pc0 := 63) (pc' := 23) rfl (hb hby d5_63) (by decide) (by decide) kz) ?_
        exact ih (j + 1) _ X eT (by omega) (by omega) (fun q a b => by by_cases e : q = j; (rw [e]; exact hc35_8); exact hno q a (by omega))
  exact loop (k - x) x _ X5 e5 (by omega) (Nat.le_refl _) (fun q a b => absurd b (Nat.not_lt.mpr a))
theorem d6_0 : decode prog_50_method_8_code 0 = .ok (.aload_n 0, 1) := by decide +kernel
theorem d6_1 : decode prog_50_method_8_code 1 = .ok (.getfield 24, 3) := by decide +kernel
theorem d6_4 : decode prog_50_method_8_code 4 = .ok (.iload_n 1, 1) := by decide +kernel
theorem d6_5 : decode prog_50_method_8_code 5 = .ok (.iaload, 1) := by decide +kernel
theorem d6_6 : decode prog_50_method_8_code 6 = .ok (.ireturn, 1) := by decide +kernel
theorem pf_6 : plainFor (⟨"cyclebreak/collector/ReferenceTable", "count", "(I)I"⟩ : MethodName) = true := by first | exact plainFor_of_name (by first | (simp [plainName, overriddenIn]; done) | decide +kernel) | decide +kernel
theorem pd_6 : parseMethodDescriptor "(I)I" = some ⟨[.int], some .int⟩ := by decide +kernel
theorem ef_6 (m : MethodId) (p0 : Addr) (i : Int32) : entryFrame m #[(.ref p0), (.int i)] 2 = mkF m 0 #[.val (.ref p0), .val (.int i)] [] := by first | (simp [entryFrame, mkF, argsToLocals, Value.category]; done) | rfl
def Q6 (k : Nat) (h0 : Heap) (n0 : Nat) (v : Option Value) (h : Heap) (L : List Loc) : Prop := v = some (.int (own_i k)) ∧ Fr n0 L ∧ h = h0
set_option maxRecDepth 65536 in
set_option maxHeartbeats 40000000 in
theorem rm6 (l : Launch) (Z : State) (a0 : Array Value) (hw : ∀ d ∈ tables_1, d.before a0 Z = true) (ws : List Jvm.Cond) (p0 : Addr) (i : Int32) (h0 : Heap) (n0 : Nat) (Z0 : n0 ≤ h0.size) (N ta ca fa r r2 : Addr) (k k2 x x2 : Nat) (vs us : List Int32) (hi : i = 0 ∨ i = 1) (TB0 : own_Tab Z n0 N p0 ta ca fa i h0 r r2 k k2 x x2 vs us) :
    own_Met l Z (⟨"cyclebreak/collector/ReferenceTable", "count", "(I)I"⟩ : MethodName) prog_50_method_8_code 2 (some .int) ws ({ frames := 0, cells := 0, slots := 0, locals := 0 } : Room) #[(.ref p0), (.int i)] h0 (Q6 k h0 n0) := by
  refine MetFree.of_bodySF pf_6 hisR ?_
  intro p e s m args below meth c s₁ Bd hml0 hP hK
  obtain ⟨rfl, hZ, hh⟩ := hP
  have hx := Bd.exec
  have hby := Bd.bytes
  have hlk : meth.locks = false := BodyLoose.notSynchronized Bd
  have hml : c.maxLocals = 2 := hml0
  have hown : s.vm.findClass "cyclebreak/collector/ReferenceTable" = some m.cls := findClass_of_methodNamed Bd.named
  have hnm := (name_of_methodNamed Bd.named Bd.method).1
  have X0 : Stand p l e ({ frames := 0, cells := 0, slots := 0, locals := 0 } : Room) s m #[(.ref p0), (.int i)] below meth c s₁ [] 0 0 := Stand.of_body Bd
  have e0 : s₁.heap = h0 := by rw [← hh, Bd.state]; rfl
  have N0 := Fr.nil n0
  show own_Go p.tables e below s (Q6 k h0 n0) ({ frames := 0, cells := 0, slots := 0, locals := 0 } : Room).cells ({ frames := 0, cells := 0, slots := 0, locals := 0 } : Room).slots _
  refine own_by (fun _ k => castTop (ef_6 m p0 i) k) ?_
  show own_Go p.tables e below s _ _ _ (s₁.setTop (mkF m 0 #[.val (.ref p0), .val (.int i)] []))
  refine own_by (fun _ kz => XS.aloadN X0.here hx rfl (hb hby d6_0) rfl rfl kz) ?_
  show own_Go p.tables e below s _ _ _ (s₁.setTop (mkF m 1 #[.val (.ref p0), .val (.int i)] [(.ref p0)]))
  obtain ⟨T1, X1, e1, st1⟩ := getF X0 hx hZ hown (host := "") (Or.inl (hw _ (List.mem_of_getElem? (i := 25) rfl))) Via.refl e0 TB0.fC (g := (mkF m 1 #[.val (.ref p0), .val (.int i)] [(.ref p0)])) rfl rfl (hb hby d6_1)
  refine own_by st1 ?_
  show own_Go p.tables e below s _ _ _ (T1.setTop (mkF m 4 #[.val (.ref p0), .val (.int i)] [(.ref ca)]))
  refine own_by (fun _ kz => XS.iloadN X1.here hx rfl (hb hby d6_4) rfl kz) ?_
  show own_Go p.tables e below s _ _ _ (T1.setTop (mkF m 5 #[.val (.ref p0), .val (.int i)] [(.int i), (.ref ca)]))
  obtain ⟨kc2, Vc2⟩ := TB0.2.2.1
  refine own_by (fun _ kz => own_ld X1 hx hZ e1 Vc2 (own_i01 hi) (own_pr_get hi _ _ _) (g := (mkF m 5 #[.val (.ref p0), .val (.int i)] [(.int i), (.ref ca)])) rfl rfl (hb hby d6_5) _ kz) ?_
  show own_Go p.tables e below s _ _ _ (T1.setTop (mkF m 6 #[.val (.ref p0), .val (.int i)] [(.int (own_i k))]))
  exact own_retI X1 hx hlk Bd.returns (hb hby d6_6) (by decide) (by decide) ⟨rfl, N0, e1⟩
theorem d13_0 : decode prog_50_method_9_code 0 = .ok (.aload_n 0, 1) := by decide +kernel
theorem d13_1 : decode prog_50_method_9_code 1 = .ok (.getfield 9, 3) := by decide +kernel
theorem d13_4 : decode prog_50_method_9_code 4 = .ok (.iload_n 1, 1) := by decide +kernel
theorem d13_5 : decode prog_50_method_9_code 5 = .ok (.aaload, 1) := by decide +kernel
theorem d13_6 : decode prog_50_method_9_code 6 = .ok (.iload_n 2, 1) := by decide +kernel
theorem d13_7 : decode prog_50_method_9_code 7 = .ok (.iaload, 1) := by decide +kernel
theorem d13_8 : decode prog_50_method_9_code 8 = .ok (.ireturn, 1) := by decide +kernel
theorem pf_13 : plainFor (⟨"cyclebreak/collector/ReferenceTable", "target", "(II)I"⟩ : MethodName) = true := by first | exact plainFor_of_name (by first | (simp [plainName, overriddenIn]; done) | decide +kernel) | decide +kernel
theorem pd_13 : parseMethodDescriptor "(II)I" = some ⟨[.int, .int], some .int⟩ := by decide +kernel
theorem ef_13 (m : MethodId) (p0 : Addr) (i : Int32) (p2 : Int32) : entryFrame m #[(.ref p0), (.int i), (.int p2)] 3 = mkF m 0 #[.val (.ref p0), .val (.int i), .val (.int p2)] [] := by first | (simp [entryFrame, mkF, argsToLocals, Value.category]; done) | rfl
def Q13 (vs : List Int32) (q : Nat) (h0 : Heap) (n0 : Nat) (v : Option Value) (h : Heap) (L : List Loc) : Prop := v = some (.int (vs.getD q 0)) ∧ Fr n0 L ∧ h = h0
set_option maxRecDepth 65536 in
set_option maxHeartbeats 40000000 in
theorem rm13 (l : Launch) (Z : State) (a0 : Array Value) (hw : ∀ d ∈ tables_1, d.before a0 Z = true) (ws : List Jvm.Cond) (p0 : Addr) (i : Int32) (p2 : Int32) (h0 : Heap) (n0 : Nat) (Z0 : n0 ≤ h0.size) (N ta ca fa r r2 : Addr) (k k2 x x2 : Nat) (vs us : List Int32) (hi : i = 0 ∨ i = 1) (TB0 : own_Tab Z n0 N p0 ta ca fa i h0 r r2 k k2 x x2 vs us) (q : Nat) (hp2 : p2 = own_i q) (hq : q < k) (hk : k < 5) :
    own_Met l Z (⟨"cyclebreak/collector/ReferenceTable", "target", "(II)I"⟩ : MethodName) prog_50_method_9_code 3 (some .int) ws ({ frames := 0, cells := 0, slots := 0, locals := 0 } : Room) #[(.ref p0), (.int i), (.int p2)] h0 (Q13 vs q h0 n0) := by
  refine MetFree.of_bodySF pf_13 hisR ?_
  intro p e s m args below meth c s₁ Bd hml0 hP hK
  obtain ⟨rfl, hZ, hh⟩ := hP
  have hx := Bd.exec
  have hby := Bd.bytes
  have hlk : meth.locks = false := BodyLoose.notSynchronized Bd
  have hml : c.maxLocals = 3 := hml0
  have hown : s.vm.findClass "cyclebreak/collector/ReferenceTable" = some m.cls := findClass_of_methodNamed Bd.named
  have hnm := (name_of_methodNamed Bd.named Bd.method).1
  have X0 : Stand p l e ({ frames := 0, cells := 0, slots := 0, locals := 0 } : Room) s m #[(.ref p0), (.int i), (.int p2)] below meth c s₁ [] 0 0 := Stand.of_body Bd
  have e0 : s₁.heap = h0 := by rw [← hh, Bd.state]; rfl
  have N0 := Fr.nil n0
  show own_Go p.tables e below s (Q13 vs q h0 n0) ({ frames := 0, cells := 0, slots := 0, locals := 0 } : Room).cells ({ frames := 0, cells := 0, slots := 0, locals := 0 } : Room).slots _
  refine own_by (fun _ k => castTop (ef_13 m p0 i p2) k) ?_
  show own_Go p.tables e below s _ _ _ (s₁.setTop (mkF m 0 #[.val (.ref p0), .val (.int i), .val (.int p2)] []))
  subst hp2
  have FU0 := TB0.full (by omega)
  show own_Go p.tables e below s _ _ _ (s₁.setTop (mkF m 0 #[.val (.ref p0), .val (.int i), .val (.int (own_i q))] []))
  refine own_by (fun _ kz => XS.aloadN X0.here hx rfl (hb hby d13_0) rfl rfl kz) ?_
  show own_Go p.tables e below s _ _ _ (s₁.setTop (mkF m 1 #[.val (.ref p0), .val (.int i), .val (.int (own_i q))] [(.ref p0)]))
  obtain ⟨T1, X1, e1, st1⟩ := getF X0 hx hZ hown (host := "") (Or.inl (hw _ (List.mem_of_getElem? (i := 15) rfl))) Via.refl e0 TB0.fT (g := (mkF m 1 #[.val (.ref p0), .val (.int i), .val (.int (own_i q))] [(.ref p0)])) rfl rfl (hb hby d13_1)
  refine own_by st1 ?_
  show own_Go p.tables e below s _ _ _ (T1.setTop (mkF m 4 #[.val (.ref p0), .val (.int i), .val (.int (own_i q))] [(.ref ta)]))
  refine own_by (fun _ kz => XS.iloadN X1.here hx rfl (hb hby d13_4) rfl kz) ?_
  show own_Go p.tables e below s _ _ _ (T1.setTop (mkF m 5 #[.val (.ref p0), .val (.int i), .val (.int (own_i q))] [(.int i), (.ref ta)]))
  obtain ⟨kt2, Ov2, Vt2⟩ := TB0.2.1
  refine own_by (fun _ kz => own_ldA X1 hx hZ e1 Vt2 rfl (own_i01 hi) (own_pr_get hi _ _ _) (g := (mkF m 5 #[.val (.ref p0), .val (.int i), .val (.int (own_i q))] [(.int i), (.ref ta)])) rfl rfl (hb hby d13_5) _ kz) ?_
  show own_Go p.tables e below s _ _ _ (T1.setTop (mkF m 6 #[.val (.ref p0), .val (.int i), .val (.int (own_i q))] [(.ref r)]))
  refine own_by (fun _ kz => XS.iloadN X1.here hx rfl (hb hby d13_6) rfl kz) ?_
  show own_Go p.tables e below s _ _ _ (T1.setTop (mkF m 7 #[.val (.ref p0), .val (.int i), .val (.int (own_i q))] [(.int (own_i q)), (.ref r)]))
  obtain ⟨-, -, -, kr3, Vr3⟩ := id FU0
  refine own_by (fun _ kz => own_ld X1 hx hZ e1 Vr3 (own_i_lt4 (show q < 4 by omega)) (own_at (show q < 4 by omega) vs) (g := (mkF m 7 #[.val (.ref p0), .val (.int i), .val (.int (own_i q))] [(.int (own_i q)), (.ref r)])) rfl rfl (hb hby d13_7) _ kz) ?_
  show own_Go p.tables e below s _ _ _ (T1.setTop (mkF m 8 #[.val (.ref p0), .val (.int i), .val (.int (own_i q))] [(.int (vs.getD (q) 0))]))
  exact own_retI X1 hx hlk Bd.returns (hb hby d13_8) (by decide) (by decide) ⟨rfl, N0, e1⟩
theorem d7_0 : decode method_2_code 0 = .ok (.aload_n 0, 1) := by decide +kernel
theorem d7_1 : decode method_2_code 1 = .ok (.iconst 0, 1) := by decide +kernel
theorem d7_2 : decode method_2_code 2 = .ok (.iaload, 1) := by decide +kernel
theorem d7_3 : decode method_2_code 3 = .ok (.aload_n 0, 1) := by decide +kernel
theorem d7_4 : decode method_2_code 4 = .ok (.iconst 1, 1) := by decide +kernel
theorem d7_5 : decode method_2_code 5 = .ok (.iaload, 1) := by decide +kernel
theorem d7_6 : decode method_2_code 6 = .ok (.if_icmp .le 17, 3) := by decide +kernel
theorem d7_9 : decode method_2_code 9 = .ok (.aload_n 0, 1) := by decide +kernel
theorem d7_10 : decode method_2_code 10 = .ok (.iconst 0, 1) := by decide +kernel
theorem d7_11 : decode method_2_code 11 = .ok (.iaload, 1) := by decide +kernel
theorem d7_12 : decode method_2_code 12 = .ok (.istore_n 1, 1) := by decide +kernel
theorem d7_13 : decode method_2_code 13 = .ok (.aload_n 0, 1) := by decide +kernel
theorem d7_14 : decode method_2_code 14 = .ok (.iconst 0, 1) := by decide +kernel
theorem d7_15 : decode method_2_code 15 = .ok (.aload_n 0, 1) := by decide +kernel
theorem d7_16 : decode method_2_code 16 = .ok (.iconst 1, 1) := by decide +kernel
theorem d7_17 : decode method_2_code 17 = .ok (.iaload, 1) := by decide +kernel
theorem d7_18 : decode method_2_code 18 = .ok (.iastore, 1) := by decide +kernel
theorem d7_19 : decode method_2_code 19 = .ok (.aload_n 0, 1) := by decide +kernel
theorem d7_20 : decode method_2_code 20 = .ok (.iconst 1, 1) := by decide +kernel
theorem d7_21 : decode method_2_code 21 = .ok (.iload_n 1, 1) := by decide +kernel
theorem d7_22 : decode method_2_code 22 = .ok (.iastore, 1) := by decide +kernel
theorem d7_23 : decode method_2_code 23 = .ok (.aload_n 0, 1) := by decide +kernel
theorem d7_24 : decode method_2_code 24 = .ok (.iconst 1, 1) := by decide +kernel
theorem d7_25 : decode method_2_code 25 = .ok (.iaload, 1) := by decide +kernel
theorem d7_26 : decode method_2_code 26 = .ok (.aload_n 0, 1) := by decide +kernel
theorem d7_27 : decode method_2_code 27 = .ok (.iconst 2, 1) := by decide +kernel
theorem d7_28 : decode method_2_code 28 = .ok (.iaload, 1) := by decide +kernel
theorem d7_29 : decode method_2_code 29 = .ok (.if_icmp .le 17, 3) := by decide +kernel
theorem d7_32 : decode method_2_code 32 = .ok (.aload_n 0, 1) := by decide +kernel
theorem d7_33 : decode method_2_code 33 = .ok (.iconst 1, 1) := by decide +kernel
theorem d7_34 : decode method_2_code 34 = .ok (.iaload, 1) := by decide +kernel
theorem d7_35 : decode method_2_code 35 = .ok (.istore_n 1, 1) := by decide +kernel
theorem d7_36 : decode method_2_code 36 = .ok (.aload_n 0, 1) := by decide +kernel
theorem d7_37 : decode method_2_code 37 = .ok (.iconst 1, 1) := by decide +kernel
theorem d7_38 : decode method_2_code 38 = .ok (.aload_n 0, 1) := by decide +kernel
theorem d7_39 : decode method_2_code 39 = .ok (.iconst 2, 1) := by decide +kernel
theorem d7_40 : decode method_2_code 40 = .ok (.iaload, 1) := by decide +kernel
theorem d7_41 : decode method_2_code 41 = .ok (.iastore, 1) := by decide +kernel
theorem d7_42 : decode method_2_code 42 = .ok (.aload_n 0, 1) := by decide +kernel
theorem d7_43 : decode method_2_code 43 = .ok (.iconst 2, 1) := by decide +kernel
theorem d7_44 : decode method_2_code 44 = .ok (.iload_n 1, 1) := by decide +kernel
theorem d7_45 : decode method_2_code 45 = .ok (.iastore, 1) := by decide +kernel
theorem d7_46 : decode method_2_code 46 = .ok (.aload_n 0, 1) := by decide +kernel
theorem d7_47 : decode method_2_code 47 = .ok (.iconst 0, 1) := by decide +kernel
theorem d7_48 : decode method_2_code 48 = .ok (.iaload, 1) := by decide +kernel
theorem d7_49 : decode method_2_code 49 = .ok (.aload_n 0, 1) := by decide +kernel
theorem d7_50 : decode method_2_code 50 = .ok (.iconst 1, 1) := by decide +kernel
theorem d7_51 : decode method_2_code 51 = .ok (.iaload, 1) := by decide +kernel
theorem d7_52 : decode method_2_code 52 = .ok (.if_icmp .le 17, 3) := by decide +kernel
theorem d7_55 : decode method_2_code 55 = .ok (.aload_n 0, 1) := by decide +kernel
theorem d7_56 : decode method_2_code 56 = .ok (.iconst 0, 1) := by decide +kernel
theorem d7_57 : decode method_2_code 57 = .ok (.iaload, 1) := by decide +kernel
theorem d7_58 : decode method_2_code 58 = .ok (.istore_n 1, 1) := by decide +kernel
theorem d7_59 : decode method_2_code 59 = .ok (.aload_n 0, 1) := by decide +kernel
theorem d7_60 : decode method_2_code 60 = .ok (.iconst 0, 1) := by decide +kernel
theorem d7_61 : decode method_2_code 61 = .ok (.aload_n 0, 1) := by decide +kernel
theorem d7_62 : decode method_2_code 62 = .ok (.iconst 1, 1) := by decide +kernel
theorem d7_63 : decode method_2_code 63 = .ok (.iaload, 1) := by decide +kernel
theorem d7_64 : decode method_2_code 64 = .ok (.iastore, 1) := by decide +kernel
theorem d7_65 : decode method_2_code 65 = .ok (.aload_n 0, 1) := by decide +kernel
theorem d7_66 : decode method_2_code 66 = .ok (.iconst 1, 1) := by decide +kernel
theorem d7_67 : decode method_2_code 67 = .ok (.iload_n 1, 1) := by decide +kernel
theorem d7_68 : decode method_2_code 68 = .ok (.iastore, 1) := by decide +kernel
theorem d7_69 : decode method_2_code 69 = .ok (.return_, 1) := by decide +kernel
theorem pf_7 : plainFor (⟨"cyclebreak/collector/ReferenceTableRemovePinLaw", "sort3", "([I)V"⟩ : MethodName) = true := by first | exact plainFor_of_name (by first | (simp [plainName, overriddenIn]; done) | decide +kernel) | decide +kernel
theorem pd_7 : parseMethodDescriptor "([I)V" = some ⟨[(.array .int)], none⟩ := by decide +kernel
theorem ef_7 (m : MethodId) (p0 : Addr) : entryFrame m #[(.ref p0)] 2 = mkF m 0 #[.val (.ref p0), .unset] [] := by first | (simp [entryFrame, mkF, argsToLocals, Value.category]; done) | rfl
def Q7 (Z : State) (p0 : Addr) (k0 : ClassId) (u0 : Int32) (u1 : Int32) (u2 : Int32) (h0 : Heap) (n0 : Nat) (v : Option Value) (h : Heap) (L : List Loc) : Prop := v = none ∧ Fr n0 L ∧ Keep h0 h [p0] ∧ Arv Z h p0 k0 .int (3 : Int32) [.int (own_s3 u0 u1 u2).1, .int (own_s3 u0 u1 u2).2.1, .int (own_s3 u0 u1 u2).2.2] (.int (0 : Int32))
set_option maxRecDepth 65536 in
set_option maxHeartbeats 40000000 in
theorem rm7 (l : Launch) (Z : State) (a0 : Array Value) (hw : ∀ d ∈ tables_1, d.before a0 Z = true) (ws : List Jvm.Cond) (p0 : Addr) (h0 : Heap) (n0 : Nat) (Z0 : n0 ≤ h0.size) (k0 : ClassId) (u0 u1 u2 : Int32) (V0 : Arv Z h0 p0 k0 .int (3 : Int32) [.int u0, .int u1, .int u2] (.int (0 : Int32))) (ge0 : n0 ≤ p0) :
    own_Met l Z (⟨"cyclebreak/collector/ReferenceTableRemovePinLaw", "sort3", "([I)V"⟩ : MethodName) method_2_code 2 none ws ({ frames := 0, cells := 0, slots := 0, locals := 0 } : Room) #[(.ref p0)] h0 (Q7 Z p0 k0 u0 u1 u2 h0 n0) := by
  refine MetFree.of_bodySF pf_7 hisR ?_
  intro p e s m args below meth c s₁ Bd hml0 hP hK
  obtain ⟨rfl, hZ, hh⟩ := hP
  have hx := Bd.exec
  have hby := Bd.bytes
  have hlk : meth.locks = false := BodyLoose.notSynchronized Bd
  have hml : c.maxLocals = 2 := hml0
  have hown : s.vm.findClass "cyclebreak/collector/ReferenceTableRemovePinLaw" = some m.cls := findClass_of_methodNamed Bd.named
  have hnm := (name_of_methodNamed Bd.named Bd.method).1
  have X0 : Stand p l e ({ frames := 0, cells := 0, slots := 0, locals := 0 } : Room) s m #[(.ref p0)] below meth c s₁ [] 0 0 := Stand.of_body Bd
  have e0 : s₁.heap = h0 := by rw [← hh, Bd.state]; rfl
  have N0 := Fr.nil n0
  have K0 := Keep.refl h0 [p0]
  show own_Go p.tables e below s (Q7 Z p0 k0 u0 u1 u2 h0 n0) ({ frames := 0, cells := 0, slots := 0, locals := 0 } : Room).cells ({ frames := 0, cells := 0, slots := 0, locals := 0 } : Room).slots _
  refine own_by (fun _ k => castTop (ef_7 m p0) k) ?_
  show own_Go p.tables e below s _ _ _ (s₁.setTop (mkF m 0 #[.val (.ref p0), .unset] []))
  refine own_by (fun _ kz => XS.aloadN X0.here hx rfl (hb hby d7_0) rfl rfl kz) ?_
  show own_Go p.tables e below s _ _ _ (s₁.setTop (mkF m 1 #[.val (.ref p0), .unset] [(.ref p0)]))
  refine own_by (fun _ kz => XS.iconst X0.here hx rfl (hb hby d7_1) kz) ?_
  show own_Go p.tables e below s _ _ _ (s₁.setTop (mkF m 2 #[.val (.ref p0), .unset] [(.int (0 : Int32)), (.ref p0)]))
  obtain ⟨cl1, Ar1, qk1, Sz1, Nn1, Hs1, Gt1⟩ := id V0
  have hin1 : ¬ ((0 : Int32) < 0 ∨ cl1.slots.size ≤ ((0 : Int32)).toNatClampNeg) := inb_of Sz1 ⟨by decide, by decide⟩
  refine own_by (fun _ kz => X0.iaload hx (j := (0 : Int32)) (v := (.int u0)) (by rw [e0]; exact Ar1.1) (State.isArrayOf_alike hZ.alike Ar1.2.1) Ar1.2.2 hin1 (Hs1.at hin1 rfl) (g := (mkF m 2 #[.val (.ref p0), .unset] [(.int (0 : Int32)), (.ref p0)])) rfl rfl (hb hby d7_2) _ kz) ?_
  show own_Go p.tables e below s _ _ _ (s₁.setTop (mkF m 3 #[.val (.ref p0), .unset] [(.int u0)]))
  refine own_by (fun _ kz => XS.aloadN X0.here hx rfl (hb hby d7_3) rfl rfl kz) ?_
  show own_Go p.tables e below s _ _ _ (s₁.setTop (mkF m 4 #[.val (.ref p0), .unset] [(.ref p0), (.int u0)]))
  refine own_by (fun _ kz => XS.iconst X0.here hx rfl (hb hby d7_4) kz) ?_
  show own_Go p.tables e below s _ _ _ (s₁.setTop (mkF m 5 #[.val (.ref p0), .unset] [(.int (1 : Int32)), (.ref p0), (.int u0)]))
  obtain ⟨cl2, Ar2, qk2, Sz2, Nn2, Hs2, Gt2⟩ := id V0
  have hin2 : ¬ ((1 : Int32) < 0 ∨ cl2.slots.size ≤ ((1 : Int32)).toNatClampNeg) := inb_of Sz2 ⟨by decide, by decide⟩
  refine own_by (fun _ kz => X0.iaload hx (j := (1 : Int32)) (v := (.int u1)) (by rw [e0]; exact Ar2.1) (State.isArrayOf_alike hZ.alike Ar2.2.1) Ar2.2.2 hin2 (Hs2.at hin2 rfl) (g := (mkF m 5 #[.val (.ref p0), .unset] [(.int (1 : Int32)), (.ref p0), (.int u0)])) rfl rfl (hb hby d7_5) _ kz) ?_
  show own_Go p.tables e below s _ _ _ (s₁.setTop (mkF m 6 #[.val (.ref p0), .unset] [(.int u1), (.int u0)]))
  by_cases hc6_3 : u1 < u0
  · refine own_by (fun _ kz => XS.icmpNo X0.here hx rfl (hb hby d7_6) rfl (tlt hc6_3).2.2.2 kz) ?_
    show own_Go p.tables e below s _ _ _ (s₁.setTop (mkF m 9 #[.val (.ref p0), .unset] []))
    refine own_by (fun _ kz => XS.aloadN X0.here hx rfl (hb hby d7_9) rfl rfl kz) ?_
    show own_Go p.tables e below s _ _ _ (s₁.setTop (mkF m 10 #[.val (.ref p0), .unset] [(.ref p0)]))
    refine own_by (fun _ kz => XS.iconst X0.here hx rfl (hb hby d7_10) kz) ?_
    show own_Go p.tables e below s _ _ _ (s₁.setTop (mkF m 11 #[.val (.ref p0), .unset] [(.int (0 : Int32)), (.ref p0)]))
    obtain ⟨cl4, Ar4, qk4, Sz4, Nn4, Hs4, Gt4⟩ := id V0
    have hin4 : ¬ ((0 : Int32) < 0 ∨ cl4.slots.size ≤ ((0 : Int32)).toNatClampNeg) := inb_of Sz4 ⟨by decide, by decide⟩
    refine own_by (fun _ kz => X0.iaload hx (j := (0 : Int32)) (v := (.int u0)) (by rw [e0]; exact Ar4.1) (State.isArrayOf_alike hZ.alike Ar4.2.1) Ar4.2.2 hin4 (Hs4.at hin4 rfl) (g := (mkF m 11 #[.val (.ref p0), .unset] [(.int (0 : Int32)), (.ref p0)])) rfl rfl (hb hby d7_11) _ kz) ?_
    show own_Go p.tables e below s _ _ _ (s₁.setTop (mkF m 12 #[.val (.ref p0), .unset] [(.int u0)]))
    refine own_by (fun _ kz => XS.istoreN X0.here hx rfl (hb hby d7_12) rfl (l' := #[.val (.ref p0), .val (.int u0)]) rfl kz) ?_
    show own_Go p.tables e below s _ _ _ (s₁.setTop (mkF m 13 #[.val (.ref p0), .val (.int u0)] []))
    refine own_by (fun _ kz => XS.aloadN X0.here hx rfl (hb hby d7_13) rfl rfl kz) ?_
    show own_Go p.tables e below s _ _ _ (s₁.setTop (mkF m 14 #[.val (.ref p0), .val (.int u0)] [(.ref p0)]))
    refine own_by (fun _ kz => XS.iconst X0.here hx rfl (hb hby d7_14) kz) ?_
    show own_Go p.tables e below s _ _ _ (s₁.setTop (mkF m 15 #[.val (.ref p0), .val (.int u0)] [(.int (0 : Int32)), (.ref p0)]))
    refine own_by (fun _ kz => XS.aloadN X0.here hx rfl (hb hby d7_15) rfl rfl kz) ?_
    show own_Go p.tables e below s _ _ _ (s₁.setTop (mkF m 16 #[.val (.ref p0), .val (.int u0)] [(.ref p0), (.int (0 : Int32)), (.ref p0)]))
    refine own_by (fun _ kz => XS.iconst X0.here hx rfl (hb hby d7_16) kz) ?_
    show own_Go p.tables e below s _ _ _ (s₁.setTop (mkF m 17 #[.val (.ref p0), .val (.int u0)] [(.int (1 : Int32)), (.ref p0), (.int (0 : Int32)), (.ref p0)]))
    obtain ⟨cl5, Ar5, qk5, Sz5, Nn5, Hs5, Gt5⟩ := id V0
    have hin5 : ¬ ((1 : Int32) < 0 ∨ cl5.slots.size ≤ ((1 : Int32)).toNatClampNeg) := inb_of Sz5 ⟨by decide, by decide⟩
    refine own_by (fun _ kz => X0.iaload hx (j := (1 : Int32)) (v := (.int u1)) (by rw [e0]; exact Ar5.1) (State.isArrayOf_alike hZ.alike Ar5.2.1) Ar5.2.2 hin5 (Hs5.at hin5 rfl) (g := (mkF m 17 #[.val (.ref p0), .val (.int u0)] [(.int (1 : Int32)), (.ref p0), (.int (0 : Int32)), (.ref p0)])) rfl rfl (hb hby d7_17) _ kz) ?_
    show own_Go p.tables e below s _ _ _ (s₁.setTop (mkF m 18 #[.val (.ref p0), .val (.int u0)] [(.int u1), (.int (0 : Int32)), (.ref p0)]))
    obtain ⟨cl6, Ar6, qk6, Sz6, Nn6, Hs6, Gt6⟩ := id V0
    have hin6 : ¬ ((0 : Int32) < 0 ∨ cl6.slots.size ≤ ((0 : Int32)).toNatClampNeg) := inb_of Sz6 ⟨by decide, by decide⟩
    obtain ⟨T6, h6, X6, e6, W6, st6⟩ := stI X0 hx hZ e0 Ar6 (j := (0 : Int32)) hin6 (g := (mkF m 18 #[.val (.ref p0), .val (.int u0)] [(.int u1), (.int (0 : Int32)), (.ref p0)])) rfl rfl (hb hby d7_18)
    have N6 := Fr.snoc X6 N0 ge0
    have Z6 : n0 ≤ h6.size := by rw [W6.size]; exact Z0
    have K6 := K0.wr W6 (Or.inl (List.mem_of_getElem? (i := 0) rfl))
    have V6 : Arv Z h6 p0 k0 .int (3 : Int32) [(.int u1), (.int u1), (.int u2)] (.int (0 : Int32)) := Arv.set Ar6 qk6 Sz6 Nn6 Hs6 Gt6 rfl W6 0 rfl (Nat.le_of_ble_eq_true rfl)
    refine own_by st6 ?_
    show own_Go p.tables e below s _ _ _ (T6.setTop (mkF m 19 #[.val (.ref p0), .val (.int u0)] []))
    refine own_by (fun _ kz => XS.aloadN X6.here hx rfl (hb hby d7_19) rfl rfl kz) ?_
    show own_Go p.tables e below s _ _ _ (T6.setTop (mkF m 20 #[.val (.ref p0), .val (.int u0)] [(.ref p0)]))
    refine own_by (fun _ kz => XS.iconst X6.here hx rfl (hb hby d7_20) kz) ?_
    show own_Go p.tables e below s _ _ _ (T6.setTop (mkF m 21 #[.val (.ref p0), .val (.int u0)] [(.int (1 : Int32)), (.ref p0)]))
    refine own_by (fun _ kz => XS.iloadN X6.here hx rfl (hb hby d7_21) rfl kz) ?_
    show own_Go p.tables e below s _ _ _ (T6.setTop (mkF m 22 #[.val (.ref p0), .val (.int u0)] [(.int u0), (.int (1 : Int32)), (.ref p0)]))
    obtain ⟨cl7, Ar7, qk7, Sz7, Nn7, Hs7, Gt7⟩ := id V6
    have hin7 : ¬ ((1 : Int32) < 0 ∨ cl7.slots.size ≤ ((1 : Int32)).toNatClampNeg) := inb_of Sz7 ⟨by decide, by decide⟩
    obtain ⟨T7, h7, X7, e7, W7, st7⟩ := stI X6 hx hZ e6 Ar7 (j := (1 : Int32)) hin7 (g := (mkF m 22 #[.val (.ref p0), .val (.int u0)] [(.int u0), (.int (1 : Int32)), (.ref p0)])) rfl rfl (hb hby d7_22)
    have N7 := Fr.snoc X7 N6 ge0
    have Z7 : n0 ≤ h7.size := by rw [W7.size]; exact Z6
    have K7 := K6.wr W7 (Or.inl (List.mem_of_getElem? (i := 0) rfl))
    have V7 : Arv Z h7 p0 k0 .int (3 : Int32) [(.int u1), (.int u0), (.int u2)] (.int (0 : Int32)) := Arv.set Ar7 qk7 Sz7 Nn7 Hs7 Gt7 rfl W7 1 rfl (Nat.le_of_ble_eq_true rfl)
    refine own_by st7 ?_
    show own_Go p.tables e below s _ _ _ (T7.setTop (mkF m 23 #[.val (.ref p0), .val (.int u0)] []))
    refine own_by (fun _ kz => XS.aloadN X7.here hx rfl (hb hby d7_23) rfl rfl kz) ?_
    show own_Go p.tables e below s _ _ _ (T7.setTop (mkF m 24 #[.val (.ref p0), .val (.int u0)] [(.ref p0)]))
    refine own_by (fun _ kz => XS.iconst X7.here hx rfl (hb hby d7_24) kz) ?_
    show own_Go p.tables e below s _ _ _ (T7.setTop (mkF m 25 #[.val (.ref p0), .val (.int u0)] [(.int (1 : Int32)), (.ref p0)]))
    obtain ⟨cl8, Ar8, qk8, Sz8, Nn8, Hs8, Gt8⟩ := id V7
    have hin8 : ¬ ((1 : Int32) < 0 ∨ cl8.slots.size ≤ ((1 : Int32)).toNatClampNeg) := inb_of Sz8 ⟨by decide, by decide⟩
    refine own_by (fun _ kz => X7.iaload hx (j := (1 : Int32)) (v := (.int u0)) (by rw [e7]; exact Ar8.1) (State.isArrayOf_alike hZ.alike Ar8.2.1) Ar8.2.2 hin8 (Hs8.at hin8 rfl) (g := (mkF m 25 #[.val (.ref p0), .val (.int u0)] [(.int (1 : Int32)), (.ref p0)])) rfl rfl (hb hby d7_25) _ kz) ?_
    show own_Go p.tables e below s _ _ _ (T7.setTop (mkF m 26 #[.val (.ref p0), .val (.int u0)] [(.int u0)]))
    refine own_by (fun _ kz => XS.aloadN X7.here hx rfl (hb hby d7_26) rfl rfl kz) ?_
    show own_Go p.tables e below s _ _ _ (T7.setTop (mkF m 27 #[.val (.ref p0), .val (.int u0)] [(.ref p0), (.int u0)]))
    refine own_by (fun _ kz => XS.iconst X7.here hx rfl (hb hby d7_27) kz) ?_
    show own_Go p.tables e below s _ _ _ (T7.setTop (mkF m 28 #[.val (.ref p0), .val (.int u0)] [(.int (2 : Int32)), (.ref p0), (.int u0)]))
    obtain ⟨cl9, Ar9, qk9, Sz9, Nn9, Hs9, Gt9⟩ := id V7
    have hin9 : ¬ ((2 : Int32) < 0 ∨ cl9.slots.size ≤ ((2 : Int32)).toNatClampNeg) := inb_of Sz9 ⟨by decide, by decide⟩
    refine own_by (fun _ kz => X7.iaload hx (j := (2 : Int32)) (v := (.int u2)) (by rw [e7]; exact Ar9.1) (State.isArrayOf_alike hZ.alike Ar9.2.1) Ar9.2.2 hin9 (Hs9.at hin9 rfl) (g := (mkF m 28 #[.val (.ref p0), .val (.int u0)] [(.int (2 : Int32)), (.ref p0), (.int u0)])) rfl rfl (hb hby d7_28) _ kz) ?_
    show own_Go p.tables e below s _ _ _ (T7.setTop (mkF m 29 #[.val (.ref p0), .val (.int u0)] [(.int u2), (.int u0)]))
    by_cases hc29_10 : u2 < u0
    · refine own_by (fun _ kz => XS.icmpNo X7.here hx rfl (hb hby d7_29) rfl (tlt hc29_10).2.2.2 kz) ?_
      show own_Go p.tables e below s _ _ _ (T7.setTop (mkF m 32 #[.val (.ref p0), .val (.int u0)] []))
      refine own_by (fun _ kz => XS.aloadN X7.here hx rfl (hb hby d7_32) rfl rfl kz) ?_
      show own_Go p.tables e below s _ _ _ (T7.setTop (mkF m 33 #[.val (.ref p0), .val (.int u0)] [(.ref p0)]))
      refine own_by (fun _ kz => XS.iconst X7.here hx rfl (hb hby d7_33) kz) ?_
      show own_Go p.tables e below s _ _ _ (T7.setTop (mkF m 34 #[.val (.ref p0), .val (.int u0)] [(.int (1 : Int32)), (.ref p0)]))
      obtain ⟨cl11, Ar11, qk11, Sz11, Nn11, Hs11, Gt11⟩ := id V7
      have hin11 : ¬ ((1 : Int32) < 0 ∨ cl11.slots.size ≤ ((1 : Int32)).toNatClampNeg) := inb_of Sz11 ⟨by decide, by decide⟩
      refine own_by (fun _ kz => X7.iaload hx (j := (1 : Int32)) (v := (.int u0)) (by rw [e7]; exact Ar11.1) (State.isArrayOf_alike hZ.alike Ar11.2.1) Ar11.2.2 hin11 (Hs11.at hin11 rfl) (g := (mkF m 34 #[.val (.ref p0), .val (.int u0)] [(.int (1 : Int32)), (.ref p0)])) rfl rfl (hb hby d7_34) _ kz) ?_
      show own_Go p.tables e below s _ _ _ (T7.setTop (mkF m 35 #[.val (.ref p0), .val (.int u0)] [(.int u0)]))
      refine own_by (fun _ kz => XS.istoreN X7.here hx rfl (hb hby d7_35) rfl (l' := #[.val (.ref p0), .val (.int u0)]) rfl kz) ?_
      show own_Go p.tables e below s _ _ _ (T7.setTop (mkF m 36 #[.val (.ref p0), .val (.int u0)] []))
      refine own_by (fun _ kz => XS.aloadN X7.here hx rfl (hb hby d7_36) rfl rfl kz) ?_
      show own_Go p.tables e below s _ _ _ (T7.setTop (mkF m 37 #[.val (.ref p0), .val (.int u0)] [(.ref p0)]))
      refine own_by (fun _ kz => XS.iconst X7.here hx rfl (hb hby d7_37) kz) ?_
      show own_Go p.tables e below s _ _ _ (T7.setTop (mkF m 38 #[.val (.ref p0), .val (.int u0)] [(.int (1 : Int32)), (.ref p0)]))
      refine own_by (fun _ kz => XS.aloadN X7.here hx rfl (hb hby d7_38) rfl rfl kz) ?_
      show own_Go p.tables e below s _ _ _ (T7.setTop (mkF m 39 #[.val (.ref p0), .val (.int u0)] [(.ref p0), (.int (1 : Int32)), (.ref p0)]))
      refine own_by (fun _ kz => XS.iconst X7.here hx rfl (hb hby d7_39) kz) ?_
      show own_Go p.tables e below s _ _ _ (T7.setTop (mkF m 40 #[.val (.ref p0), .val (.int u0)] [(.int (2 : Int32)), (.ref p0), (.int (1 : Int32)), (.ref p0)]))
      obtain ⟨cl12, Ar12, qk12, Sz12, Nn12, Hs12, Gt12⟩ := id V7
      have hin12 : ¬ ((2 : Int32) < 0 ∨ cl12.slots.size ≤ ((2 : Int32)).toNatClampNeg) := inb_of Sz12 ⟨by decide, by decide⟩
      refine own_by (fun _ kz => X7.iaload hx (j := (2 : Int32)) (v := (.int u2)) (by rw [e7]; exact Ar12.1) (State.isArrayOf_alike hZ.alike Ar12.2.1) Ar12.2.2 hin12 (Hs12.at hin12 rfl) (g := (mkF m 40 #[.val (.ref p0), .val (.int u0)] [(.int (2 : Int32)), (.ref p0), (.int (1 : Int32)), (.ref p0)])) rfl rfl (hb hby d7_40) _ kz) ?_
      show own_Go p.tables e below s _ _ _ (T7.setTop (mkF m 41 #[.val (.ref p0), .val (.int u0)] [(.int u2), (.int (1 : Int32)), (.ref p0)]))
      obtain ⟨cl13, Ar13, qk13, Sz13, Nn13, Hs13, Gt13⟩ := id V7
      have hin13 : ¬ ((1 : Int32) < 0 ∨ cl13.slots.size ≤ ((1 : Int32)).toNatClampNeg) := inb_of Sz13 ⟨by decide, by decide⟩
      obtain ⟨T13, h13, X13, e13, W13, st13⟩ := stI X7 hx hZ e7 Ar13 (j := (1 : Int32)) hin13 (g := (mkF m 41 #[.val (.ref p0), .val (.int u0)] [(.int u2), (.int (1 : Int32)), (.ref p0)])) rfl rfl (hb hby d7_41)
      have N13 := Fr.snoc X13 N7 ge0
      have Z13 : n0 ≤ h13.size := by rw [W13.size]; exact Z7
      have K13 := K7.wr W13 (Or.inl (List.mem_of_getElem? (i := 0) rfl))
      have V13 : Arv Z h13 p0 k0 .int (3 : Int32) [(.int u1), (.int u2), (.int u2)] (.int (0 : Int32)) := Arv.set Ar13 qk13 Sz13 Nn13 Hs13 Gt13 rfl W13 1 rfl (Nat.le_of_ble_eq_true rfl)
      refine own_by st13 ?_
      show own_Go p.tables e below s _ _ _ (T13.setTop (mkF m 42 #[.val (.ref p0), .val (.int u0)] []))
      refine own_by (fun _ kz => XS.aloadN X13.here hx rfl (hb hby d7_42) rfl rfl kz) ?_
      show own_Go p.tables e below s _ _ _ (T13.setTop (mkF m 43 #[.val (.ref p0), .val (.int u0)] [(.ref p0)]))
      refine own_by (fun _ kz => XS.iconst X13.here hx rfl (hb hby d7_43) kz) ?_
      show own_Go p.tables e below s _ _ _ (T13.setTop (mkF m 44 #[.val (.ref p0), .val (.int u0)] [(.int (2 : Int32)), (.ref p0)]))
      refine own_by (fun _ kz => XS.iloadN X13.here hx rfl (hb hby d7_44) rfl kz) ?_
      show own_Go p.tables e below s _ _ _ (T13.setTop (mkF m 45 #[.val (.ref p0), .val (.int u0)] [(.int u0), (.int (2 : Int32)), (.ref p0)]))
      obtain ⟨cl14, Ar14, qk14, Sz14, Nn14, Hs14, Gt14⟩ := id V13
      have hin14 : ¬ ((2 : Int32) < 0 ∨ cl14.slots.size ≤ ((2 : Int32)).toNatClampNeg) := inb_of Sz14 ⟨by decide, by decide⟩
      obtain ⟨T14, h14, X14, e14, W14, st14⟩ := stI X13 hx hZ e13 Ar14 (j := (2 : Int32)) hin14 (g := (mkF m 45 #[.val (.ref p0), .val (.int u0)] [(.int u0), (.int (2 : Int32)), (.ref p0)])) rfl rfl (hb hby d7_45)
      have N14 := Fr.snoc X14 N13 ge0
      have Z14 : n0 ≤ h14.size := by rw [W14.size]; exact Z13
      have K14 := K13.wr W14 (Or.inl (List.mem_of_getElem? (i := 0) rfl))
      have V14 : Arv Z h14 p0 k0 .int (3 : Int32) [(.int u1), (.int u2), (.int u0)] (.int (0 : Int32)) := Arv.set Ar14 qk14 Sz14 Nn14 Hs14 Gt14 rfl W14 2 rfl (Nat.le_of_ble_eq_true rfl)
      refine own_by st14 ?_
      show own_Go p.tables e below s _ _ _ (T14.setTop (mkF m 46 #[.val (.ref p0), .val (.int u0)] []))
      refine own_by (fun _ kz => XS.aloadN X14.here hx rfl (hb hby d7_46) rfl rfl kz) ?_
      show own_Go p.tables e below s _ _ _ (T14.setTop (mkF m 47 #[.val (.ref p0), .val (.int u0)] [(.ref p0)]))
      refine own_by (fun _ kz => XS.iconst X14.here hx rfl (hb hby d7_47) kz) ?_
      show own_Go p.tables e below s _ _ _ (T14.setTop (mkF m 48 #[.val (.ref p0), .val (.int u0)] [(.int (0 : Int32)), (.ref p0)]))
      obtain ⟨cl15, Ar15, qk15, Sz15, Nn15, Hs15, Gt15⟩ := id V14
      have hin15 : ¬ ((0 : Int32) < 0 ∨ cl15.slots.size ≤ ((0 : Int32)).toNatClampNeg) := inb_of Sz15 ⟨by decide, by decide⟩
      refine own_by (fun _ kz => X14.iaload hx (j := (0 : Int32)) (v := (.int u1)) (by rw [e14]; exact Ar15.1) (State.isArrayOf_alike hZ.alike Ar15.2.1) Ar15.2.2 hin15 (Hs15.at hin15 rfl) (g := (mkF m 48 #[.val (.ref p0), .val (.int u0)] [(.int (0 : Int32)), (.ref p0)])) rfl rfl (hb hby d7_48) _ kz) ?_
      show own_Go p.tables e below s _ _ _ (T14.setTop (mkF m 49 #[.val (.ref p0), .val (.int u0)] [(.int u1)]))
      refine own_by (fun _ kz => XS.aloadN X14.here hx rfl (hb hby d7_49) rfl rfl kz) ?_
      show own_Go p.tables e below s _ _ _ (T14.setTop (mkF m 50 #[.val (.ref p0), .val (.int u0)] [(.ref p0), (.int u1)]))
      refine own_by (fun _ kz => XS.iconst X14.here hx rfl (hb hby d7_50) kz) ?_
      show own_Go p.tables e below s _ _ _ (T14.setTop (mkF m 51 #[.val (.ref p0), .val (.int u0)] [(.int (1 : Int32)), (.ref p0), (.int u1)]))
      obtain ⟨cl16, Ar16, qk16, Sz16, Nn16, Hs16, Gt16⟩ := id V14
      have hin16 : ¬ ((1 : Int32) < 0 ∨ cl16.slots.size ≤ ((1 : Int32)).toNatClampNeg) := inb_of Sz16 ⟨by decide, by decide⟩
      refine own_by (fun _ kz => X14.iaload hx (j := (1 : Int32)) (v := (.int u2)) (by rw [e14]; exact Ar16.1) (State.isArrayOf_alike hZ.alike Ar16.2.1) Ar16.2.2 hin16 (Hs16.at hin16 rfl) (g := (mkF m 51 #[.val (.ref p0), .val (.int u0)] [(.int (1 : Int32)), (.ref p0), (.int u1)])) rfl rfl (hb hby d7_51) _ kz) ?_
      show own_Go p.tables e below s _ _ _ (T14.setTop (mkF m 52 #[.val (.ref p0), .val (.int u0)] [(.int u2), (.int u1)]))
      by_cases hc52_17 : u2 < u1
      · refine own_by (fun _ kz => XS.icmpNo X14.here hx rfl (hb hby d7_52) rfl (tlt hc52_17).2.2.2 kz) ?_
        show own_Go p.tables e below s _ _ _ (T14.setTop (mkF m 55 #[.val (.ref p0), .val (.int u0)] []))
        refine own_by (fun _ kz => XS.aloadN X14.here hx rfl (hb hby d7_55) rfl rfl kz) ?_
        show own_Go p.tables e below s _ _ _ (T14.setTop (mkF m 56 #[.val (.ref p0), .val (.int u0)] [(.ref p0)]))
        refine own_by (fun _ kz => XS.iconst X14.here hx rfl (hb hby d7_56) kz) ?_
        show own_Go p.tables e below s _ _ _ (T14.setTop (mkF m 57 #[.val (.ref p0), .val (.int u0)] [(.int (0 : Int32)), (.ref p0)]))
        obtain ⟨cl18, Ar18, qk18, Sz18, Nn18, Hs18, Gt18⟩ := id V14
        have hin18 : ¬ ((0 : Int32) < 0 ∨ cl18.slots.size ≤ ((0 : Int32)).toNatClampNeg) := inb_of Sz18 ⟨by decide, by decide⟩
        refine own_by (fun _ kz => X14.iaload hx (j := (0 : Int32)) (v := (.int u1)) (by rw [e14]; exact Ar18.1) (State.isArrayOf_alike hZ.alike Ar18.2.1) Ar18.2.2 hin18 (Hs18.at hin18 rfl) (g := (mkF m 57 #[.val (.ref p0), .val (.int u0)] [(.int (0 : Int32)), (.ref p0)])) rfl rfl (hb hby d7_57) _ kz) ?_
        show own_Go p.tables e below s _ _ _ (T14.setTop (mkF m 58 #[.val (.ref p0), .val (.int u0)] [(.int u1)]))
        refine own_by (fun _ kz => XS.istoreN X14.here hx rfl (hb hby d7_58) rfl (l' := #[.val (.ref p0), .val (.int u1)]) rfl kz) ?_
        show own_Go p.tables e below s _ _ _ (T14.setTop (mkF m 59 #[.val (.ref p0), .val (.int u1)] []))
        refine own_by (fun _ kz => XS.aloadN X14.here hx rfl (hb hby d7_59) rfl rfl kz) ?_
        show own_Go p.tables e below s _ _ _ (T14.setTop (mkF m 60 #[.val (.ref p0), .val (.int u1)] [(.ref p0)]))
        refine own_by (fun _ kz => XS.iconst X14.here hx rfl (hb hby d7_60) kz) ?_
        show own_Go p.tables e below s _ _ _ (T14.setTop (mkF m 61 #[.val (.ref p0), .val (.int u1)] [(.int (0 : Int32)), (.ref p0)]))
        refine own_by (fun _ kz => XS.aloadN X14.here hx rfl (hb hby d7_61) rfl rfl kz) ?_
        show own_Go p.tables e below s _ _ _ (T14.setTop (mkF m 62 #[.val (.ref p0), .val (.int u1)] [(.ref p0), (.int (0 : Int32)), (.ref p0)]))
        refine own_by (fun _ kz => XS.iconst X14.here hx rfl (hb hby d7_62) kz) ?_
        show own_Go p.tables e below s _ _ _ (T14.setTop (mkF m 63 #[.val (.ref p0), .val (.int u1)] [(.int (1 : Int32)), (.ref p0), (.int (0 : Int32)), (.ref p0)]))
        obtain ⟨cl19, Ar19, qk19, Sz19, Nn19, Hs19, Gt19⟩ := id V14
        have hin19 : ¬ ((1 : Int32) < 0 ∨ cl19.slots.size ≤ ((1 : Int32)).toNatClampNeg) := inb_of Sz19 ⟨by decide, by decide⟩
        refine own_by (fun _ kz => X14.iaload hx (j := (1 : Int32)) (v := (.int u2)) (by rw [e14]; exact Ar19.1) (State.isArrayOf_alike hZ.alike Ar19.2.1) Ar19.2.2 hin19 (Hs19.at hin19 rfl) (g := (mkF m 63 #[.val (.ref p0), .val (.int u1)] [(.int (1 : Int32)), (.ref p0), (.int (0 : Int32)), (.ref p0)])) rfl rfl (hb hby d7_63) _ kz) ?_
        show own_Go p.tables e below s _ _ _ (T14.setTop (mkF m 64 #[.val (.ref p0), .val (.int u1)] [(.int u2), (.int (0 : Int32)), (.ref p0)]))
        obtain ⟨cl20, Ar20, qk20, Sz20, Nn20, Hs20, Gt20⟩ := id V14
        have hin20 : ¬ ((0 : Int32) < 0 ∨ cl20.slots.size ≤ ((0 : Int32)).toNatClampNeg) := inb_of Sz20 ⟨by decide, by decide⟩
        obtain ⟨T20, h20, X20, e20, W20, st20⟩ := stI X14 hx hZ e14 Ar20 (j := (0 : Int32)) hin20 (g := (mkF m 64 #[.val (.ref p0), .val (.int u1)] [(.int u2), (.int (0 : Int32)), (.ref p0)])) rfl rfl (hb hby d7_64)
        have N20 := Fr.snoc X20 N14 ge0
        have Z20 : n0 ≤ h20.size := by rw [W20.size]; exact Z14
        have K20 := K14.wr W20 (Or.inl (List.mem_of_getElem? (i := 0) rfl))
        have V20 : Arv Z h20 p0 k0 .int (3 : Int32) [(.int u2), (.int u2), (.int u0)] (.int (0 : Int32)) := Arv.set Ar20 qk20 Sz20 Nn20 Hs20 Gt20 rfl W20 0 rfl (Nat.le_of_ble_eq_true rfl)
        refine own_by st20 ?_
        show own_Go p.tables e below s _ _ _ (T20.setTop (mkF m 65 #[.val (.ref p0), .val (.int u1)] []))
        refine own_by (fun _ kz => XS.aloadN X20.here hx rfl (hb hby d7_65) rfl rfl kz) ?_
        show own_Go p.tables e below s _ _ _ (T20.setTop (mkF m 66 #[.val (.ref p0), .val (.int u1)] [(.ref p0)]))
        refine own_by (fun _ kz => XS.iconst X20.here hx rfl (hb hby d7_66) kz) ?_
        show own_Go p.tables e below s _ _ _ (T20.setTop (mkF m 67 #[.val (.ref p0), .val (.int u1)] [(.int (1 : Int32)), (.ref p0)]))
        refine own_by (fun _ kz => XS.iloadN X20.here hx rfl (hb hby d7_67) rfl kz) ?_
        show own_Go p.tables e below s _ _ _ (T20.setTop (mkF m 68 #[.val (.ref p0), .val (.int u1)] [(.int u1), (.int (1 : Int32)), (.ref p0)]))
        obtain ⟨cl21, Ar21, qk21, Sz21, Nn21, Hs21, Gt21⟩ := id V20
        have hin21 : ¬ ((1 : Int32) < 0 ∨ cl21.slots.size ≤ ((1 : Int32)).toNatClampNeg) := inb_of Sz21 ⟨by decide, by decide⟩
        obtain ⟨T21, h21, X21, e21, W21, st21⟩ := stI X20 hx hZ e20 Ar21 (j := (1 : Int32)) hin21 (g := (mkF m 68 #[.val (.ref p0), .val (.int u1)] [(.int u1), (.int (1 : Int32)), (.ref p0)])) rfl rfl (hb hby d7_68)
        have N21 := Fr.snoc X21 N20 ge0
        have Z21 : n0 ≤ h21.size := by rw [W21.size]; exact Z20
        have K21 := K20.wr W21 (Or.inl (List.mem_of_getElem? (i := 0) rfl))
        have V21 : Arv Z h21 p0 k0 .int (3 : Int32) [(.int u2), (.int u1), (.int u0)] (.int (0 : Int32)) := Arv.set Ar21 qk21 Sz21 Nn21 Hs21 Gt21 rfl W21 1 rfl (Nat.le_of_ble_eq_true rfl)
        refine own_by st21 ?_
        show own_Go p.tables e below s _ _ _ (T21.setTop (mkF m 69 #[.val (.ref p0), .val (.int u1)] []))
        have hs : own_s3 u0 u1 u2 = (u2, u1, u0) := by simp only [own_s3, hc6_3, hc29_10, hc52_17, if_true, if_false]
        exact own_retV X21 hx hlk Bd.returns (hb hby d7_69) (by decide) (by decide) ⟨rfl, N21, by rw [e21]; exact K21, by rw [e21, hs]; exact V21⟩
      · refine own_by (fun _ kz => XS.icmpYes X14.here hx rfl (pc0 := 52) (pc' := 69) rfl (hb hby d7_52) rfl (flt hc52_17).2.2.2 (by decide) (by decide) kz) ?_
        show own_Go p.tables e below s _ _ _ (T14.setTop (mkF m 69 #[.val (.ref p0), .val (.int u0)] []))
        have hs : own_s3 u0 u1 u2 = (u1, u2, u0) := by simp only [own_s3, hc6_3, hc29_10, hc52_17, if_true, if_false]
        exact own_retV X14 hx hlk Bd.returns (hb hby d7_69) (by decide) (by decide) ⟨rfl, N14, by rw [e14]; exact K14, by rw [e14, hs]; exact V14⟩
    · refine own_by (fun _ kz => XS.icmpYes X7.here hx rfl (pc0 := 29) (pc' := 46) rfl (hb hby d7_29) rfl (flt hc29_10).2.2.2 (by decide) (by decide) kz) ?_
      show own_Go p.tables e below s _ _ _ (T7.setTop (mkF m 46 #[.val (.ref p0), .val (.int u0)] []))
      refine own_by (fun _ kz => XS.aloadN X7.here hx rfl (hb hby d7_46) rfl rfl kz) ?_
      show own_Go p.tables e below s _ _ _ (T7.setTop (mkF m 47 #[.val (.ref p0), .val (.int u0)] [(.ref p0)]))
      refine own_by (fun _ kz => XS.iconst X7.here hx rfl (hb hby d7_47) kz) ?_
      show own_Go p.tables e below s _ _ _ (T7.setTop (mkF m 48 #[.val (.ref p0), .val (.int u0)] [(.int (0 : Int32)), (.ref p0)]))
      obtain ⟨cl22, Ar22, qk22, Sz22, Nn22, Hs22, Gt22⟩ := id V7
      have hin22 : ¬ ((0 : Int32) < 0 ∨ cl22.slots.size ≤ ((0 : Int32)).toNatClampNeg) := inb_of Sz22 ⟨by decide, by decide⟩
      refine own_by (fun _ kz => X7.iaload hx (j := (0 : Int32)) (v := (.int u1)) (by rw [e7]; exact Ar22.1) (State.isArrayOf_alike hZ.alike Ar22.2.1) Ar22.2.2 hin22 (Hs22.at hin22 rfl) (g := (mkF m 48 #[.val (.ref p0), .val (.int u0)] [(.int (0 : Int32)), (.ref p0)])) rfl rfl (hb hby d7_48) _ kz) ?_
      show own_Go p.tables e below s _ _ _ (T7.setTop (mkF m 49 #[.val (.ref p0), .val (.int u0)] [(.int u1)]))
      refine own_by (fun _ kz => XS.aloadN X7.here hx rfl (hb hby d7_49) rfl rfl kz) ?_
      show own_Go p.tables e below s _ _ _ (T7.setTop (mkF m 50 #[.val (.ref p0), .val (.int u0)] [(.ref p0), (.int u1)]))
      refine own_by (fun _ kz => XS.iconst X7.here hx rfl (hb hby d7_50) kz) ?_
      show own_Go p.tables e below s _ _ _ (T7.setTop (mkF m 51 #[.val (.ref p0), .val (.int u0)] [(.int (1 : Int32)), (.ref p0), (.int u1)]))
      obtain ⟨cl23, Ar23, qk23, Sz23, Nn23, Hs23, Gt23⟩ := id V7
      have hin23 : ¬ ((1 : Int32) < 0 ∨ cl23.slots.size ≤ ((1 : Int32)).toNatClampNeg) := inb_of Sz23 ⟨by decide, by decide⟩
      refine own_by (fun _ kz => X7.iaload hx (j := (1 : Int32)) (v := (.int u0)) (by rw [e7]; exact Ar23.1) (State.isArrayOf_alike hZ.alike Ar23.2.1) Ar23.2.2 hin23 (Hs23.at hin23 rfl) (g := (mkF m 51 #[.val (.ref p0), .val (.int u0)] [(.int (1 : Int32)), (.ref p0), (.int u1)])) rfl rfl (hb hby d7_51) _ kz) ?_
      show own_Go p.tables e below s _ _ _ (T7.setTop (mkF m 52 #[.val (.ref p0), .val (.int u0)] [(.int u0), (.int u1)]))
      by_cases hc52_24 : u0 < u1
      · refine own_by (fun _ kz => XS.icmpNo X7.here hx rfl (hb hby d7_52) rfl (tlt hc52_24).2.2.2 kz) ?_
        show own_Go p.tables e below s _ _ _ (T7.setTop (mkF m 55 #[.val (.ref p0), .val (.int u0)] []))
        refine own_by (fun _ kz => XS.aloadN X7.here hx rfl (hb hby d7_55) rfl rfl kz) ?_
        show own_Go p.tables e below s _ _ _ (T7.setTop (mkF m 56 #[.val (.ref p0), .val (.int u0)] [(.ref p0)]))
        refine own_by (fun _ kz => XS.iconst X7.here hx rfl (hb hby d7_56) kz) ?_
        show own_Go p.tables e below s _ _ _ (T7.setTop (mkF m 57 #[.val (.ref p0), .val (.int u0)] [(.int (0 : Int32)), (.ref p0)]))
        obtain ⟨cl25, Ar25, qk25, Sz25, Nn25, Hs25, Gt25⟩ := id V7
        have hin25 : ¬ ((0 : Int32) < 0 ∨ cl25.slots.size ≤ ((0 : Int32)).toNatClampNeg) := inb_of Sz25 ⟨by decide, by decide⟩
        refine own_by (fun _ kz => X7.iaload hx (j := (0 : Int32)) (v := (.int u1)) (by rw [e7]; exact Ar25.1) (State.isArrayOf_alike hZ.alike Ar25.2.1) Ar25.2.2 hin25 (Hs25.at hin25 rfl) (g := (mkF m 57 #[.val (.ref p0), .val (.int u0)] [(.int (0 : Int32)), (.ref p0)])) rfl rfl (hb hby d7_57) _ kz) ?_
        show own_Go p.tables e below s _ _ _ (T7.setTop (mkF m 58 #[.val (.ref p0), .val (.int u0)] [(.int u1)]))
        refine own_by (fun _ kz => XS.istoreN X7.here hx rfl (hb hby d7_58) rfl (l' := #[.val (.ref p0), .val (.int u1)]) rfl kz) ?_
        show own_Go p.tables e below s _ _ _ (T7.setTop (mkF m 59 #[.val (.ref p0), .val (.int u1)] []))
        refine own_by (fun _ kz => XS.aloadN X7.here hx rfl (hb hby d7_59) rfl rfl kz) ?_
        show own_Go p.tables e below s _ _ _ (T7.setTop (mkF m 60 #[.val (.ref p0), .val (.int u1)] [(.ref p0)]))
        refine own_by (fun _ kz => XS.iconst X7.here hx rfl (hb hby d7_60) kz) ?_
        show own_Go p.tables e below s _ _ _ (T7.setTop (mkF m 61 #[.val (.ref p0), .val (.int u1)] [(.int (0 : Int32)), (.ref p0)]))
        refine own_by (fun _ kz => XS.aloadN X7.here hx rfl (hb hby d7_61) rfl rfl kz) ?_
        show own_Go p.tables e below s _ _ _ (T7.setTop (mkF m 62 #[.val (.ref p0), .val (.int u1)] [(.ref p0), (.int (0 : Int32)), (.ref p0)]))
        refine own_by (fun _ kz => XS.iconst X7.here hx rfl (hb hby d7_62) kz) ?_
        show own_Go p.tables e below s _ _ _ (T7.setTop (mkF m 63 #[.val (.ref p0), .val (.int u1)] [(.int (1 : Int32)), (.ref p0), (.int (0 : Int32)), (.ref p0)]))
        obtain ⟨cl26, Ar26, qk26, Sz26, Nn26, Hs26, Gt26⟩ := id V7
        have hin26 : ¬ ((1 : Int32) < 0 ∨ cl26.slots.size ≤ ((1 : Int32)).toNatClampNeg) := inb_of Sz26 ⟨by decide, by decide⟩
        refine own_by (fun _ kz => X7.iaload hx (j := (1 : Int32)) (v := (.int u0)) (by rw [e7]; exact Ar26.1) (State.isArrayOf_alike hZ.alike Ar26.2.1) Ar26.2.2 hin26 (Hs26.at hin26 rfl) (g := (mkF m 63 #[.val (.ref p0), .val (.int u1)] [(.int (1 : Int32)), (.ref p0), (.int (0 : Int32)), (.ref p0)])) rfl rfl (hb hby d7_63) _ kz) ?_
        show own_Go p.tables e below s _ _ _ (T7.setTop (mkF m 64 #[.val (.ref p0), .val (.int u1)] [(.int u0), (.int (0 : Int32)), (.ref p0)]))
        obtain ⟨cl27, Ar27, qk27, Sz27, Nn27, Hs27, Gt27⟩ := id V7
        have hin27 : ¬ ((0 : Int32) < 0 ∨ cl27.slots.size ≤ ((0 : Int32)).toNatClampNeg) := inb_of Sz27 ⟨by decide, by decide⟩
        obtain ⟨T27, h27, X27, e27, W27, st27⟩ := stI X7 hx hZ e7 Ar27 (j := (0 : Int32)) hin27 (g := (mkF m 64 #[.val (.ref p0), .val (.int u1)] [(.int u0), (.int (0 : Int32)), (.ref p0)])) rfl rfl (hb hby d7_64)
        have N27 := Fr.snoc X27 N7 ge0
        have Z27 : n0 ≤ h27.size := by rw [W27.size]; exact Z7
        have K27 := K7.wr W27 (Or.inl (List.mem_of_getElem? (i := 0) rfl))
        have V27 : Arv Z h27 p0 k0 .int (3 : Int32) [(.int u0), (.int u0), (.int u2)] (.int (0 : Int32)) := Arv.set Ar27 qk27 Sz27 Nn27 Hs27 Gt27 rfl W27 0 rfl (Nat.le_of_ble_eq_true rfl)
        refine own_by st27 ?_
        show own_Go p.tables e below s _ _ _ (T27.setTop (mkF m 65 #[.val (.ref p0), .val (.int u1)] []))
        refine own_by (fun _ kz => XS.aloadN X27.here hx rfl (hb hby d7_65) rfl rfl kz) ?_
        show own_Go p.tables e below s _ _ _ (T27.setTop (mkF m 66 #[.val (.ref p0), .val (.int u1)] [(.ref p0)]))
        refine own_by (fun _ kz => XS.iconst X27.here hx rfl (hb hby d7_66) kz) ?_
        show own_Go p.tables e below s _ _ _ (T27.setTop (mkF m 67 #[.val (.ref p0), .val (.int u1)] [(.int (1 : Int32)), (.ref p0)]))
        refine own_by (fun _ kz => XS.iloadN X27.here hx rfl (hb hby d7_67) rfl kz) ?_
        show own_Go p.tables e below s _ _ _ (T27.setTop (mkF m 68 #[.val (.ref p0), .val (.int u1)] [(.int u1), (.int (1 : Int32)), (.ref p0)]))
        obtain ⟨cl28, Ar28, qk28, Sz28, Nn28, Hs28, Gt28⟩ := id V27
        have hin28 : ¬ ((1 : Int32) < 0 ∨ cl28.slots.size ≤ ((1 : Int32)).toNatClampNeg) := inb_of Sz28 ⟨by decide, by decide⟩
        obtain ⟨T28, h28, X28, e28, W28, st28⟩ := stI X27 hx hZ e27 Ar28 (j := (1 : Int32)) hin28 (g := (mkF m 68 #[.val (.ref p0), .val (.int u1)] [(.int u1), (.int (1 : Int32)), (.ref p0)])) rfl rfl (hb hby d7_68)
        have N28 := Fr.snoc X28 N27 ge0
        have Z28 : n0 ≤ h28.size := by rw [W28.size]; exact Z27
        have K28 := K27.wr W28 (Or.inl (List.mem_of_getElem? (i := 0) rfl))
        have V28 : Arv Z h28 p0 k0 .int (3 : Int32) [(.int u0), (.int u1), (.int u2)] (.int (0 : Int32)) := Arv.set Ar28 qk28 Sz28 Nn28 Hs28 Gt28 rfl W28 1 rfl (Nat.le_of_ble_eq_true rfl)
        refine own_by st28 ?_
        show own_Go p.tables e below s _ _ _ (T28.setTop (mkF m 69 #[.val (.ref p0), .val (.int u1)] []))
        have hs : own_s3 u0 u1 u2 = (u0, u1, u2) := by simp only [own_s3, hc6_3, hc29_10, hc52_24, if_true, if_false]
        exact own_retV X28 hx hlk Bd.returns (hb hby d7_69) (by decide) (by decide) ⟨rfl, N28, by rw [e28]; exact K28, by rw [e28, hs]; exact V28⟩
      · refine own_by (fun _ kz => XS.icmpYes X7.here hx rfl (pc0 := 52) (pc' := 69) rfl (hb hby d7_52) rfl (flt hc52_24).2.2.2 (by decide) (by decide) kz) ?_
        show own_Go p.tables e below s _ _ _ (T7.setTop (mkF m 69 #[.val (.ref p0), .val (.int u0)] []))
        have hs : own_s3 u0 u1 u2 = (u1, u0, u2) := by simp only [own_s3, hc6_3, hc29_10, hc52_24, if_true, if_false]
        exact own_retV X7 hx hlk Bd.returns (hb hby d7_69) (by decide) (by decide) ⟨rfl, N7, by rw [e7]; exact K7, by rw [e7, hs]; exact V7⟩
  · refine own_by (fun _ kz => XS.icmpYes X0.here hx rfl (pc0 := 6) (pc' := 23) rfl (hb hby d7_6) rfl (flt hc6_3).2.2.2 (by decide) (by decide) kz) ?_
    show own_Go p.tables e below s _ _ _ (s₁.setTop (mkF m 23 #[.val (.ref p0), .unset] []))
    refine own_by (fun _ kz => XS.aloadN X0.here hx rfl (hb hby d7_23) rfl rfl kz) ?_
    show own_Go p.tables e below s _ _ _ (s₁.setTop (mkF m 24 #[.val (.ref p0), .unset] [(.ref p0)]))
    refine own_by (fun _ kz => XS.iconst X0.here hx rfl (hb hby d7_24) kz) ?_
    show own_Go p.tables e below s _ _ _ (s₁.setTop (mkF m 25 #[.val (.ref p0), .unset] [(.int (1 : Int32)), (.ref p0)]))
    obtain ⟨cl29, Ar29, qk29, Sz29, Nn29, Hs29, Gt29⟩ := id V0
    have hin29 : ¬ ((1 : Int32) < 0 ∨ cl29.slots.size ≤ ((1 : Int32)).toNatClampNeg) := inb_of Sz29 ⟨by decide, by decide⟩
    refine own_by (fun _ kz => X0.iaload hx (j := (1 : Int32)) (v := (.int u1)) (by rw [e0]; exact Ar29.1) (State.isArrayOf_alike hZ.alike Ar29.2.1) Ar29.2.2 hin29 (Hs29.at hin29 rfl) (g := (mkF m 25 #[.val (.ref p0), .unset] [(.int (1 : Int32)), (.ref p0)])) rfl rfl (hb hby d7_25) _ kz) ?_
    show own_Go p.tables e below s _ _ _ (s₁.setTop (mkF m 26 #[.val (.ref p0), .unset] [(.int u1)]))
    refine own_by (fun _ kz => XS.aloadN X0.here hx rfl (hb hby d7_26) rfl rfl kz) ?_
    show own_Go p.tables e below s _ _ _ (s₁.setTop (mkF m 27 #[.val (.ref p0), .unset] [(.ref p0), (.int u1)]))
    refine own_by (fun _ kz => XS.iconst X0.here hx rfl (hb hby d7_27) kz) ?_
    show own_Go p.tables e below s _ _ _ (s₁.setTop (mkF m 28 #[.val (.ref p0), .unset] [(.int (2 : Int32)), (.ref p0), (.int u1)]))
    obtain ⟨cl30, Ar30, qk30, Sz30, Nn30, Hs30, Gt30⟩ := id V0
    have hin30 : ¬ ((2 : Int32) < 0 ∨ cl30.slots.size ≤ ((2 : Int32)).toNatClampNeg) := inb_of Sz30 ⟨by decide, by decide⟩
    refine own_by (fun _ kz => X0.iaload hx (j := (2 : Int32)) (v := (.int u2)) (by rw [e0]; exact Ar30.1) (State.isArrayOf_alike hZ.alike Ar30.2.1) Ar30.2.2 hin30 (Hs30.at hin30 rfl) (g := (mkF m 28 #[.val (.ref p0), .unset] [(.int (2 : Int32)), (.ref p0), (.int u1)])) rfl rfl (hb hby d7_28) _ kz) ?_
    show own_Go p.tables e below s _ _ _ (s₁.setTop (mkF m 29 #[.val (.ref p0), .unset] [(.int u2), (.int u1)]))
    by_cases hc29_31 : u2 < u1
    · refine own_by (fun _ kz => XS.icmpNo X0.here hx rfl (hb hby d7_29) rfl (tlt hc29_31).2.2.2 kz) ?_
      show own_Go p.tables e below s _ _ _ (s₁.setTop (mkF m 32 #[.val (.ref p0), .unset] []))
      refine own_by (fun _ kz => XS.aloadN X0.here hx rfl (hb hby d7_32) rfl rfl kz) ?_
      show own_Go p.tables e below s _ _ _ (s₁.setTop (mkF m 33 #[.val (.ref p0), .unset] [(.ref p0)]))
      refine own_by (fun _ kz => XS.iconst X0.here hx rfl (hb hby d7_33) kz) ?_
      show own_Go p.tables e below s _ _ _ (s₁.setTop (mkF m 34 #[.val (.ref p0), .unset] [(.int (1 : Int32)), (.ref p0)]))
      obtain ⟨cl32, Ar32, qk32, Sz32, Nn32, Hs32, Gt32⟩ := id V0
      have hin32 : ¬ ((1 : Int32) < 0 ∨ cl32.slots.size ≤ ((1 : Int32)).toNatClampNeg) := inb_of Sz32 ⟨by decide, by decide⟩
      refine own_by (fun _ kz => X0.iaload hx (j := (1 : Int32)) (v := (.int u1)) (by rw [e0]; exact Ar32.1) (State.isArrayOf_alike hZ.alike Ar32.2.1) Ar32.2.2 hin32 (Hs32.at hin32 rfl) (g := (mkF m 34 #[.val (.ref p0), .unset] [(.int (1 : Int32)), (.ref p0)])) rfl rfl (hb hby d7_34) _ kz) ?_
      show own_Go p.tables e below s _ _ _ (s₁.setTop (mkF m 35 #[.val (.ref p0), .unset] [(.int u1)]))
      refine own_by (fun _ kz => XS.istoreN X0.here hx rfl (hb hby d7_35) rfl (l' := #[.val (.ref p0), .val (.int u1)]) rfl kz) ?_
      show own_Go p.tables e below s _ _ _ (s₁.setTop (mkF m 36 #[.val (.ref p0), .val (.int u1)] []))
      refine own_by (fun _ kz => XS.aloadN X0.here hx rfl (hb hby d7_36) rfl rfl kz) ?_
      show own_Go p.tables e below s _ _ _ (s₁.setTop (mkF m 37 #[.val (.ref p0), .val (.int u1)] [(.ref p0)]))
      refine own_by (fun _ kz => XS.iconst X0.here hx rfl (hb hby d7_37) kz) ?_
      show own_Go p.tables e below s _ _ _ (s₁.setTop (mkF m 38 #[.val (.ref p0), .val (.int u1)] [(.int (1 : Int32)), (.ref p0)]))
      refine own_by (fun _ kz => XS.aloadN X0.here hx rfl (hb hby d7_38) rfl rfl kz) ?_
      show own_Go p.tables e below s _ _ _ (s₁.setTop (mkF m 39 #[.val (.ref p0), .val (.int u1)] [(.ref p0), (.int (1 : Int32)), (.ref p0)]))
      refine own_by (fun _ kz => XS.iconst X0.here hx rfl (hb hby d7_39) kz) ?_
      show own_Go p.tables e below s _ _ _ (s₁.setTop (mkF m 40 #[.val (.ref p0), .val (.int u1)] [(.int (2 : Int32)), (.ref p0), (.int (1 : Int32)), (.ref p0)]))
      obtain ⟨cl33, Ar33, qk33, Sz33, Nn33, Hs33, Gt33⟩ := id V0
      have hin33 : ¬ ((2 : Int32) < 0 ∨ cl33.slots.size ≤ ((2 : Int32)).toNatClampNeg) := inb_of Sz33 ⟨by decide, by decide⟩
      refine own_by (fun _ kz => X0.iaload hx (j := (2 : Int32)) (v := (.int u2)) (by rw [e0]; exact Ar33.1) (State.isArrayOf_alike hZ.alike Ar33.2.1) Ar33.2.2 hin33 (Hs33.at hin33 rfl) (g := (mkF m 40 #[.val (.ref p0), .val (.int u1)] [(.int (2 : Int32)), (.ref p0), (.int (1 : Int32)), (.ref p0)])) rfl rfl (hb hby d7_40) _ kz) ?_
      show own_Go p.tables e below s _ _ _ (s₁.setTop (mkF m 41 #[.val (.ref p0), .val (.int u1)] [(.int u2), (.int (1 : Int32)), (.ref p0)]))
      obtain ⟨cl34, Ar34, qk34, Sz34, Nn34, Hs34, Gt34⟩ := id V0
      have hin34 : ¬ ((1 : Int32) < 0 ∨ cl34.slots.size ≤ ((1 : Int32)).toNatClampNeg) := inb_of Sz34 ⟨by decide, by decide⟩
      obtain ⟨T34, h34, X34, e34, W34, st34⟩ := stI X0 hx hZ e0 Ar34 (j := (1 : Int32)) hin34 (g := (mkF m 41 #[.val (.ref p0), .val (.int u1)] [(.int u2), (.int (1 : Int32)), (.ref p0)])) rfl rfl (hb hby d7_41)
      have N34 := Fr.snoc X34 N0 ge0
      have Z34 : n0 ≤ h34.size := by rw [W34.size]; exact Z0
      have K34 := K0.wr W34 (Or.inl (List.mem_of_getElem? (i := 0) rfl))
      have V34 : Arv Z h34 p0 k0 .int (3 : Int32) [(.int u0), (.int u2), (.int u2)] (.int (0 : Int32)) := Arv.set Ar34 qk34 Sz34 Nn34 Hs34 Gt34 rfl W34 1 rfl (Nat.le_of_ble_eq_true rfl)
      refine own_by st34 ?_
      show own_Go p.tables e below s _ _ _ (T34.setTop (mkF m 42 #[.val (.ref p0), .val (.int u1)] []))
      refine own_by (fun _ kz => XS.aloadN X34.here hx rfl (hb hby d7_42) rfl rfl kz) ?_
      show own_Go p.tables e below s _ _ _ (T34.setTop (mkF m 43 #[.val (.ref p0), .val (.int u1)] [(.ref p0)]))
      refine own_by (fun _ kz => XS.iconst X34.here hx rfl (hb hby d7_43) kz) ?_
      show own_Go p.tables e below s _ _ _ (T34.setTop (mkF m 44 #[.val (.ref p0), .val (.int u1)] [(.int (2 : Int32)), (.ref p0)]))
      refine own_by (fun _ kz => XS.iloadN X34.here hx rfl (hb hby d7_44) rfl kz) ?_
      show own_Go p.tables e below s _ _ _ (T34.setTop (mkF m 45 #[.val (.ref p0), .val (.int u1)] [(.int u1), (.int (2 : Int32)), (.ref p0)]))
      obtain ⟨cl35, Ar35, qk35, Sz35, Nn35, Hs35, Gt35⟩ := id V34
      have hin35 : ¬ ((2 : Int32) < 0 ∨ cl35.slots.size ≤ ((2 : Int32)).toNatClampNeg) := inb_of Sz35 ⟨by decide, by decide⟩
      obtain ⟨T35, h35, X35, e35, W35, st35⟩ := stI X34 hx hZ e34 Ar35 (j := (2 : Int32)) hin35 (g := (mkF m 45 #[.val (.ref p0), .val (.int u1)] [(.int u1), (.int (2 : Int32)), (.ref p0)])) rfl rfl (hb hby d7_45)
      have N35 := Fr.snoc X35 N34 ge0
      have Z35 : n0 ≤ h35.size := by rw [W35.size]; exact Z34
      have K35 := K34.wr W35 (Or.inl (List.mem_of_getElem? (i := 0) rfl))
      have V35 : Arv Z h35 p0 k0 .int (3 : Int32) [(.int u0), (.int u2), (.int u1)] (.int (0 : Int32)) := Arv.set Ar35 qk35 Sz35 Nn35 Hs35 Gt35 rfl W35 2 rfl (Nat.le_of_ble_eq_true rfl)
      refine own_by st35 ?_
      show own_Go p.tables e below s _ _ _ (T35.setTop (mkF m 46 #[.val (.ref p0), .val (.int u1)] []))
      refine own_by (fun _ kz => XS.aloadN X35.here hx rfl (hb hby d7_46) rfl rfl kz) ?_
      show own_Go p.tables e below s _ _ _ (T35.setTop (mkF m 47 #[.val (.ref p0), .val (.int u1)] [(.ref p0)]))
      refine own_by (fun _ kz => XS.iconst X35.here hx rfl (hb hby d7_47) kz) ?_
      show own_Go p.tables e below s _ _ _ (T35.setTop (mkF m 48 #[.val (.ref p0), .val (.int u1)] [(.int (0 : Int32)), (.ref p0)]))
      obtain ⟨cl36, Ar36, qk36, Sz36, Nn36, Hs36, Gt36⟩ := id V35
      have hin36 : ¬ ((0 : Int32) < 0 ∨ cl36.slots.size ≤ ((0 : Int32)).toNatClampNeg) := inb_of Sz36 ⟨by decide, by decide⟩
      refine own_by (fun _ kz => X35.iaload hx (j := (0 : Int32)) (v := (.int u0)) (by rw [e35]; exact Ar36.1) (State.isArrayOf_alike hZ.alike Ar36.2.1) Ar36.2.2 hin36 (Hs36.at hin36 rfl) (g := (mkF m 48 #[.val (.ref p0), .val (.int u1)] [(.int (0 : Int32)), (.ref p0)])) rfl rfl (hb hby d7_48) _ kz) ?_
      show own_Go p.tables e below s _ _ _ (T35.setTop (mkF m 49 #[.val (.ref p0), .val (.int u1)] [(.int u0)]))
      refine own_by (fun _ kz => XS.aloadN X35.here hx rfl (hb hby d7_49) rfl rfl kz) ?_
      show own_Go p.tables e below s _ _ _ (T35.setTop (mkF m 50 #[.val (.ref p0), .val (.int u1)] [(.ref p0), (.int u0)]))
      refine own_by (fun _ kz => XS.iconst X35.here hx rfl (hb hby d7_50) kz) ?_
      show own_Go p.tables e below s _ _ _ (T35.setTop (mkF m 51 #[.val (.ref p0), .val (.int u1)] [(.int (1 : Int32)), (.ref p0), (.int u0)]))
      obtain ⟨cl37, Ar37, qk37, Sz37, Nn37, Hs37, Gt37⟩ := id V35
      have hin37 : ¬ ((1 : Int32) < 0 ∨ cl37.slots.size ≤ ((1 : Int32)).toNatClampNeg) := inb_of Sz37 ⟨by decide, by decide⟩
      refine own_by (fun _ kz => X35.iaload hx (j := (1 : Int32)) (v := (.int u2)) (by rw [e35]; exact Ar37.1) (State.isArrayOf_alike hZ.alike Ar37.2.1) Ar37.2.2 hin37 (Hs37.at hin37 rfl) (g := (mkF m 51 #[.val (.ref p0), .val (.int u1)] [(.int (1 : Int32)), (.ref p0), (.int u0)])) rfl rfl (hb hby d7_51) _ kz) ?_
      show own_Go p.tables e below s _ _ _ (T35.setTop (mkF m 52 #[.val (.ref p0), .val (.int u1)] [(.int u2), (.int u0)]))
      by_cases hc52_38 : u2 < u0
      · refine own_by (fun _ kz => XS.icmpNo X35.here hx rfl (hb hby d7_52) rfl (tlt hc52_38).2.2.2 kz) ?_
        show own_Go p.tables e below s _ _ _ (T35.setTop (mkF m 55 #[.val (.ref p0), .val (.int u1)] []))
        refine own_by (fun _ kz => XS.aloadN X35.here hx rfl (hb hby d7_55) rfl rfl kz) ?_
        show own_Go p.tables e below s _ _ _ (T35.setTop (mkF m 56 #[.val (.ref p0), .val (.int u1)] [(.ref p0)]))
        refine own_by (fun _ kz => XS.iconst X35.here hx rfl (hb hby d7_56) kz) ?_
        show own_Go p.tables e below s _ _ _ (T35.setTop (mkF m 57 #[.val (.ref p0), .val (.int u1)] [(.int (0 : Int32)), (.ref p0)]))
        obtain ⟨cl39, Ar39, qk39, Sz39, Nn39, Hs39, Gt39⟩ := id V35
        have hin39 : ¬ ((0 : Int32) < 0 ∨ cl39.slots.size ≤ ((0 : Int32)).toNatClampNeg) := inb_of Sz39 ⟨by decide, by decide⟩
        refine own_by (fun _ kz => X35.iaload hx (j := (0 : Int32)) (v := (.int u0)) (by rw [e35]; exact Ar39.1) (State.isArrayOf_alike hZ.alike Ar39.2.1) Ar39.2.2 hin39 (Hs39.at hin39 rfl) (g := (mkF m 57 #[.val (.ref p0), .val (.int u1)] [(.int (0 : Int32)), (.ref p0)])) rfl rfl (hb hby d7_57) _ kz) ?_
        show own_Go p.tables e below s _ _ _ (T35.setTop (mkF m 58 #[.val (.ref p0), .val (.int u1)] [(.int u0)]))
        refine own_by (fun _ kz => XS.istoreN X35.here hx rfl (hb hby d7_58) rfl (l' := #[.val (.ref p0), .val (.int u0)]) rfl kz) ?_
        show own_Go p.tables e below s _ _ _ (T35.setTop (mkF m 59 #[.val (.ref p0), .val (.int u0)] []))
        refine own_by (fun _ kz => XS.aloadN X35.here hx rfl (hb hby d7_59) rfl rfl kz) ?_
        show own_Go p.tables e below s _ _ _ (T35.setTop (mkF m 60 #[.val (.ref p0), .val (.int u0)] [(.ref p0)]))
        refine own_by (fun _ kz => XS.iconst X35.here hx rfl (hb hby d7_60) kz) ?_
        show own_Go p.tables e below s _ _ _ (T35.setTop (mkF m 61 #[.val (.ref p0), .val (.int u0)] [(.int (0 : Int32)), (.ref p0)]))
        refine own_by (fun _ kz => XS.aloadN X35.here hx rfl (hb hby d7_61) rfl rfl kz) ?_
        show own_Go p.tables e below s _ _ _ (T35.setTop (mkF m 62 #[.val (.ref p0), .val (.int u0)] [(.ref p0), (.int (0 : Int32)), (.ref p0)]))
        refine own_by (fun _ kz => XS.iconst X35.here hx rfl (hb hby d7_62) kz) ?_
        show own_Go p.tables e below s _ _ _ (T35.setTop (mkF m 63 #[.val (.ref p0), .val (.int u0)] [(.int (1 : Int32)), (.ref p0), (.int (0 : Int32)), (.ref p0)]))
        obtain ⟨cl40, Ar40, qk40, Sz40, Nn40, Hs40, Gt40⟩ := id V35
        have hin40 : ¬ ((1 : Int32) < 0 ∨ cl40.slots.size ≤ ((1 : Int32)).toNatClampNeg) := inb_of Sz40 ⟨by decide, by decide⟩
        refine own_by (fun _ kz => X35.iaload hx (j := (1 : Int32)) (v := (.int u2)) (by rw [e35]; exact Ar40.1) (State.isArrayOf_alike hZ.alike Ar40.2.1) Ar40.2.2 hin40 (Hs40.at hin40 rfl) (g := (mkF m 63 #[.val (.ref p0), .val (.int u0)] [(.int (1 : Int32)), (.ref p0), (.int (0 : Int32)), (.ref p0)])) rfl rfl (hb hby d7_63) _ kz) ?_
        show own_Go p.tables e below s _ _ _ (T35.setTop (mkF m 64 #[.val (.ref p0), .val (.int u0)] [(.int u2), (.int (0 : Int32)), (.ref p0)]))
        obtain ⟨cl41, Ar41, qk41, Sz41, Nn41, Hs41, Gt41⟩ := id V35
        have hin41 : ¬ ((0 : Int32) < 0 ∨ cl41.slots.size ≤ ((0 : Int32)).toNatClampNeg) := inb_of Sz41 ⟨by decide, by decide⟩
        obtain ⟨T41, h41, X41, e41, W41, st41⟩ := stI X35 hx hZ e35 Ar41 (j := (0 : Int32)) hin41 (g := (mkF m 64 #[.val (.ref p0), .val (.int u0)] [(.int u2), (.int (0 : Int32)), (.ref p0)])) rfl rfl (hb hby d7_64)
        have N41 := Fr.snoc X41 N35 ge0
        have Z41 : n0 ≤ h41.size := by rw [W41.size]; exact Z35
        have K41 := K35.wr W41 (Or.inl (List.mem_of_getElem? (i := 0) rfl))
        have V41 : Arv Z h41 p0 k0 .int (3 : Int32) [(.int u2), (.int u2), (.int u1)] (.int (0 : Int32)) := Arv.set Ar41 qk41 Sz41 Nn41 Hs41 Gt41 rfl W41 0 rfl (Nat.le_of_ble_eq_true rfl)
        refine own_by st41 ?_
        show own_Go p.tables e below s _ _ _ (T41.setTop (mkF m 65 #[.val (.ref p0), .val (.int u0)] []))
        refine own_by (fun _ kz => XS.aloadN X41.here hx rfl (hb hby d7_65) rfl rfl kz) ?_
        show own_Go p.tables e below s _ _ _ (T41.setTop (mkF m 66 #[.val (.ref p0), .val (.int u0)] [(.ref p0)]))
        refine own_by (fun _ kz => XS.iconst X41.here hx rfl (hb hby d7_66) kz) ?_
        show own_Go p.tables e below s _ _ _ (T41.setTop (mkF m 67 #[.val (.ref p0), .val (.int u0)] [(.int (1 : Int32)), (.ref p0)]))
        refine own_by (fun _ kz => XS.iloadN X41.here hx rfl (hb hby d7_67) rfl kz) ?_
        show own_Go p.tables e below s _ _ _ (T41.setTop (mkF m 68 #[.val (.ref p0), .val (.int u0)] [(.int u0), (.int (1 : Int32)), (.ref p0)]))
        obtain ⟨cl42, Ar42, qk42, Sz42, Nn42, Hs42, Gt42⟩ := id V41
        have hin42 : ¬ ((1 : Int32) < 0 ∨ cl42.slots.size ≤ ((1 : Int32)).toNatClampNeg) := inb_of Sz42 ⟨by decide, by decide⟩
        obtain ⟨T42, h42, X42, e42, W42, st42⟩ := stI X41 hx hZ e41 Ar42 (j := (1 : Int32)) hin42 (g := (mkF m 68 #[.val (.ref p0), .val (.int u0)] [(.int u0), (.int (1 : Int32)), (.ref p0)])) rfl rfl (hb hby d7_68)
        have N42 := Fr.snoc X42 N41 ge0
        have Z42 : n0 ≤ h42.size := by rw [W42.size]; exact Z41
        have K42 := K41.wr W42 (Or.inl (List.mem_of_getElem? (i := 0) rfl))
        have V42 : Arv Z h42 p0 k0 .int (3 : Int32) [(.int u2), (.int u0), (.int u1)] (.int (0 : Int32)) := Arv.set Ar42 qk42 Sz42 Nn42 Hs42 Gt42 rfl W42 1 rfl (Nat.le_of_ble_eq_true rfl)
        refine own_by st42 ?_
        show own_Go p.tables e below s _ _ _ (T42.setTop (mkF m 69 #[.val (.ref p0), .val (.int u0)] []))
        have hs : own_s3 u0 u1 u2 = (u2, u0, u1) := by simp only [own_s3, hc6_3, hc29_31, hc52_38, if_true, if_false]
        exact own_retV X42 hx hlk Bd.returns (hb hby d7_69) (by decide) (by decide) ⟨rfl, N42, by rw [e42]; exact K42, by rw [e42, hs]; exact V42⟩
      · refine own_by (fun _ kz => XS.icmpYes X35.here hx rfl (pc0 := 52) (pc' := 69) rfl (hb hby d7_52) rfl (flt hc52_38).2.2.2 (by decide) (by decide) kz) ?_
        show own_Go p.tables e below s _ _ _ (T35.setTop (mkF m 69 #[.val (.ref p0), .val (.int u1)] []))
        have hs : own_s3 u0 u1 u2 = (u0, u2, u1) := by simp only [own_s3, hc6_3, hc29_31, hc52_38, if_true, if_false]
        exact own_retV X35 hx hlk Bd.returns (hb hby d7_69) (by decide) (by decide) ⟨rfl, N35, by rw [e35]; exact K35, by rw [e35, hs]; exact V35⟩
    · refine own_by (fun _ kz => XS.icmpYes X0.here hx rfl (pc0 := 29) (pc' := 46) rfl (hb hby d7_29) rfl (flt hc29_31).2.2.2 (by decide) (by decide) kz) ?_
      show own_Go p.tables e below s _ _ _ (s₁.setTop (mkF m 46 #[.val (.ref p0), .unset] []))
      refine own_by (fun _ kz => XS.aloadN X0.here hx rfl (hb hby d7_46) rfl rfl kz) ?_
      show own_Go p.tables e below s _ _ _ (s₁.setTop (mkF m 47 #[.val (.ref p0), .unset] [(.ref p0)]))
      refine own_by (fun _ kz => XS.iconst X0.here hx rfl (hb hby d7_47) kz) ?_
      show own_Go p.tables e below s _ _ _ (s₁.setTop (mkF m 48 #[.val (.ref p0), .unset] [(.int (0 : Int32)), (.ref p0)]))
      obtain ⟨cl43, Ar43, qk43, Sz43, Nn43, Hs43, Gt43⟩ := id V0
      have hin43 : ¬ ((0 : Int32) < 0 ∨ cl43.slots.size ≤ ((0 : Int32)).toNatClampNeg) := inb_of Sz43 ⟨by decide, by decide⟩
      refine own_by (fun _ kz => X0.iaload hx (j := (0 : Int32)) (v := (.int u0)) (by rw [e0]; exact Ar43.1) (State.isArrayOf_alike hZ.alike Ar43.2.1) Ar43.2.2 hin43 (Hs43.at hin43 rfl) (g := (mkF m 48 #[.val (.ref p0), .unset] [(.int (0 : Int32)), (.ref p0)])) rfl rfl (hb hby d7_48) _ kz) ?_
      show own_Go p.tables e below s _ _ _ (s₁.setTop (mkF m 49 #[.val (.ref p0), .unset] [(.int u0)]))
      refine own_by (fun _ kz => XS.aloadN X0.here hx rfl (hb hby d7_49) rfl rfl kz) ?_
      show own_Go p.tables e below s _ _ _ (s₁.setTop (mkF m 50 #[.val (.ref p0), .unset] [(.ref p0), (.int u0)]))
      refine own_by (fun _ kz => XS.iconst X0.here hx rfl (hb hby d7_50) kz) ?_
      show own_Go p.tables e below s _ _ _ (s₁.setTop (mkF m 51 #[.val (.ref p0), .unset] [(.int (1 : Int32)), (.ref p0), (.int u0)]))
      obtain ⟨cl44, Ar44, qk44, Sz44, Nn44, Hs44, Gt44⟩ := id V0
      have hin44 : ¬ ((1 : Int32) < 0 ∨ cl44.slots.size ≤ ((1 : Int32)).toNatClampNeg) := inb_of Sz44 ⟨by decide, by decide⟩
      refine own_by (fun _ kz => X0.iaload hx (j := (1 : Int32)) (v := (.int u1)) (by rw [e0]; exact Ar44.1) (State.isArrayOf_alike hZ.alike Ar44.2.1) Ar44.2.2 hin44 (Hs44.at hin44 rfl) (g := (mkF m 51 #[.val (.ref p0), .unset] [(.int (1 : Int32)), (.ref p0), (.int u0)])) rfl rfl (hb hby d7_51) _ kz) ?_
      show own_Go p.tables e below s _ _ _ (s₁.setTop (mkF m 52 #[.val (.ref p0), .unset] [(.int u1), (.int u0)]))
      refine own_by (fun _ kz => XS.icmpYes X0.here hx rfl (pc0 := 52) (pc' := 69) rfl (hb hby d7_52) rfl (flt hc6_3).2.2.2 (by decide) (by decide) kz) ?_
      show own_Go p.tables e below s _ _ _ (s₁.setTop (mkF m 69 #[.val (.ref p0), .unset] []))
      have hs : own_s3 u0 u1 u2 = (u0, u1, u2) := by simp only [own_s3, hc6_3, hc29_31, if_true, if_false]
      exact own_retV X0 hx hlk Bd.returns (hb hby d7_69) (by decide) (by decide) ⟨rfl, N0, by rw [e0]; exact K0, by rw [e0, hs]; exact V0⟩
def own_f0 (z8 z10 f : Int32) : List Int32 := if ¬ z8 = 0 ∧ z10 = 0 then [f] else []
theorem own_f0_len (z8 z10 f : Int32) : (own_f0 z8 z10 f).length ≤ 1 := by unfold own_f0; split <;> simp
theorem own_fl0 {z f : Int32} (h : z = 0) : own_fl z f = [] := if_pos h
theorem own_fl1 {z f : Int32} (h : ¬ z = 0) : own_fl z f = [f] := if_neg h
theorem own_rl_lt {n : Nat} (h : n < 2) (a b : Int32) : own_rl n a b = own_rl1 n a := by
  have : n = 0 ∨ n = 1 := by omega
  rcases this with rfl | rfl <;> rfl
theorem own_rl_2 {n : Nat} (h : ¬ n < 2) (a b : Int32) : own_rl n a b = b :: own_rl1 n a := by
  unfold own_rl own_rl1
  rw [if_neg (by omega), if_neg (by omega), if_neg (by omega)]
theorem own_rl1_0 {n : Nat} (h : n < 1) (a : Int32) : own_rl1 n a = [] := if_pos (by omega)
theorem own_rl1_1 {n : Nat} (h : ¬ n < 1) (a : Int32) : own_rl1 n a = [a] := if_neg (by omega)
theorem own_rl1_len (n : Nat) (a : Int32) : (own_rl1 n a).length ≤ 1 := by unfold own_rl1; split <;> simp
theorem own_e1n {n : Nat} {a t : Int32} (h : n < 1 ∨ a = t) : own_e1 n a t = [] := if_neg fun q => by rcases h with h | h; omega; exact q.2 h
theorem own_e1y {n : Nat} {a t : Int32} (h : ¬ n < 1) (h2 : ¬ a = t) : own_e1 n a t = [a] := if_pos ⟨by omega, h2⟩
theorem own_e2n {n : Nat} {a t : Int32} (h : n < 2 ∨ a = t) : own_e2 n a t = [] := if_neg fun q => by rcases h with h | h; omega; exact q.2 h
theorem own_e2y {n : Nat} {a t : Int32} (h : ¬ n < 2) (h2 : ¬ a = t) : own_e2 n a t = [a] := if_pos ⟨by omega, h2⟩
theorem own_ilt1 {n : Nat} (hn : n ≤ 2) : own_i n < (1 : Int32) ↔ n < 1 := own_i_lt n (by omega) 1 (by omega)
theorem own_ilt2 {n : Nat} (hn : n ≤ 2) : own_i n < (2 : Int32) ↔ n < 2 := own_i_lt n (by omega) 2 (by omega)
theorem own_ctl (l : List Int32) (t : Int32) (h : l.length ≤ 2) : l.count t ≤ 2 := Nat.le_trans List.count_le_length h


theorem pf_0 : plainFor x = true := by first | exact plainFor_of_name (by first | (simp [plainName, overriddenIn]; done) | decide +kernel) | decide +kernel
theorem pd_0 : parseMethodDescriptor "(IIIII)Z" = some ⟨[.int, .int, .int, .int, .int], some .boolean⟩ := by decide +kernel
theorem ef_0 (m : MethodId) (p0 : Int32) (p1 : Int32) (p2 : Int32) (p3 : Int32) (p4 : Int32) : entryFrame m #[(.int p0), (.int p1), (.int p2), (.int p3), (.int p4)] maxLocals = mkF m 0 #[.val (.int p0), .val (.int p1), .val (.int p2), .val (.int p3), .val (.int p4), .unset, .unset, .unset, .unset, .unset, .unset, .unset, .unset, .unset, .unset, .unset, .unset, .unset, .unset] [] := by first | (simp [entryFrame, mkF, argsToLocals, Value.category, maxLocals]; done) | rfl
def Q0 (p0 : Int32) (p1 : Int32) (p2 : Int32) (p3 : Int32) (p4 : Int32) (h0 : Heap) (n0 : Nat) (v : Option Value) (h : Heap) (L : List Loc) : Prop := v = some (.int 1) ∧ Fr n0 L
set_option maxRecDepth 65536 in
set_option maxHeartbeats 40000000 in
theorem rm0 (l : Launch) (Z : State) (a0 : Array Value) (hw : ∀ d ∈ tables_1, d.before a0 Z = true) (ws : List Jvm.Cond) (p0 : Int32) (p1 : Int32) (p2 : Int32) (p3 : Int32) (p4 : Int32) (h0 : Heap) (n0 : Nat) (Z0 : n0 ≤ h0.size) (N : Addr) (kN : ClassId) (O0 : Old Z n0 h0) (SN : Sta Z Z.heap "cyclebreak/collector/ReferenceTable" "NONE" "[I" (.ref N)) (EN : Exa Z Z.heap N "[I") (VN : Arv Z Z.heap N kN .int 0 [] (.int (0 : Int32))) (hN : N < n0) :
    own_Met l Z x code maxLocals ret ws room_1 #[(.int p0), (.int p1), (.int p2), (.int p3), (.int p4)] h0 (Q0 p0 p1 p2 p3 p4 h0 n0) := by
  refine MetFree.of_bodySF pf_0 hisR ?_
  intro p e s m args below meth c s₁ Bd hml0 hP hK
  obtain ⟨rfl, hZ, hh⟩ := hP
  have hx := Bd.exec
  have hby := Bd.bytes
  have hlk : meth.locks = false := BodyLoose.notSynchronized Bd
  have hml : c.maxLocals = 19 := hml0
  have hown : s.vm.findClass "cyclebreak/collector/ReferenceTableRemovePinLaw" = some m.cls := findClass_of_methodNamed Bd.named
  have hnm := (name_of_methodNamed Bd.named Bd.method).1
  have X0 : Stand p l e room_1 s m #[(.int p0), (.int p1), (.int p2), (.int p3), (.int p4)] below meth c s₁ [] 0 0 := Stand.of_body Bd
  have e0 : s₁.heap = h0 := by rw [← hh, Bd.state]; rfl
  have N0 := Fr.nil n0
  show own_Go p.tables e below s (Q0 p0 p1 p2 p3 p4 h0 n0) room_1.cells room_1.slots _
  refine own_by (fun _ k => castTop (ef_0 m p0 p1 p2 p3 p4) k) ?_
  show own_Go p.tables e below s _ _ _ (s₁.setTop (mkF m 0 #[.val (.int p0), .val (.int p1), .val (.int p2), .val (.int p3), .val (.int p4), .unset, .unset, .unset, .unset, .unset, .unset, .unset, .unset, .unset, .unset, .unset, .unset, .unset, .unset] []))
  have j12 : ∀ va : Int32, own_Go p.tables e below s (Q0 p0 p1 p2 p3 p4 h0 n0) room_1.cells room_1.slots (s₁.setTop (mkF m 12 #[.val (.int p0), .val (.int p1), .val (.int p2), .val (.int p3), .val (.int p4), .unset, .unset, .unset, .unset, .unset, .unset, .unset, .unset, .unset, .unset, .unset, .unset, .unset, .unset] [(.int va)])) := by
    intro va
    refine own_by (fun _ kz => XS.istore X0.here hx rfl (hb hby at_12) rfl (l' := #[.val (.int p0), .val (.int p1), .val (.int p2), .val (.int p3), .val (.int p4), .val (.int va), .unset, .unset, .unset, .unset, .unset, .unset, .unset, .unset, .unset, .unset, .unset, .unset, .unset]) rfl kz) ?_
    show own_Go p.tables e below s _ _ _ (s₁.setTop (mkF m 14 #[.val (.int p0), .val (.int p1), .val (.int p2), .val (.int p3), .val (.int p4), .val (.int va), .unset, .unset, .unset, .unset, .unset, .unset, .unset, .unset, .unset, .unset, .unset, .unset, .unset] []))
    have j26 : ∀ vb : Int32, own_Go p.tables e below s (Q0 p0 p1 p2 p3 p4 h0 n0) room_1.cells room_1.slots (s₁.setTop (mkF m 26 #[.val (.int p0), .val (.int p1), .val (.int p2), .val (.int p3), .val (.int p4), .val (.int va), .unset, .unset, .unset, .unset, .unset, .unset, .unset, .unset, .unset, .unset, .unset, .unset, .unset] [(.int vb)])) := by
      intro vb
      refine own_by (fun _ kz => XS.istore X0.here hx rfl (hb hby at_26) rfl (l' := #[.val (.int p0), .val (.int p1), .val (.int p2), .val (.int p3), .val (.int p4), .val (.int va), .val (.int vb), .unset, .unset, .unset, .unset, .unset, .unset, .unset, .unset, .unset, .unset, .unset, .unset]) rfl kz) ?_
      show own_Go p.tables e below s _ _ _ (s₁.setTop (mkF m 28 #[.val (.int p0), .val (.int p1), .val (.int p2), .val (.int p3), .val (.int p4), .val (.int va), .val (.int vb), .unset, .unset, .unset, .unset, .unset, .unset, .unset, .unset, .unset, .unset, .unset, .unset] []))
      have j40 : ∀ vf : Int32, own_Go p.tables e below s (Q0 p0 p1 p2 p3 p4 h0 n0) room_1.cells room_1.slots (s₁.setTop (mkF m 40 #[.val (.int p0), .val (.int p1), .val (.int p2), .val (.int p3), .val (.int p4), .val (.int va), .val (.int vb), .unset, .unset, .unset, .unset, .unset, .unset, .unset, .unset, .unset, .unset, .unset, .unset] [(.int vf)])) := by
        intro vf
        refine own_by (fun _ kz => XS.istore X0.here hx rfl (hb hby at_40) rfl (l' := #[.val (.int p0), .val (.int p1), .val (.int p2), .val (.int p3), .val (.int p4), .val (.int va), .val (.int vb), .val (.int vf), .unset, .unset, .unset, .unset, .unset, .unset, .unset, .unset, .unset, .unset, .unset]) rfl kz) ?_
        show own_Go p.tables e below s _ _ _ (s₁.setTop (mkF m 42 #[.val (.int p0), .val (.int p1), .val (.int p2), .val (.int p3), .val (.int p4), .val (.int va), .val (.int vb), .val (.int vf), .unset, .unset, .unset, .unset, .unset, .unset, .unset, .unset, .unset, .unset, .unset] []))
        have j55 : ∀ z8 : Int32, own_Go p.tables e below s (Q0 p0 p1 p2 p3 p4 h0 n0) room_1.cells room_1.slots (s₁.setTop (mkF m 55 #[.val (.int p0), .val (.int p1), .val (.int p2), .val (.int p3), .val (.int p4), .val (.int va), .val (.int vb), .val (.int vf), .unset, .unset, .unset, .unset, .unset, .unset, .unset, .unset, .unset, .unset, .unset] [(.int z8)])) := by
          intro z8
          refine own_by (fun _ kz => XS.istore X0.here hx rfl (hb hby at_55) rfl (l' := #[.val (.int p0), .val (.int p1), .val (.int p2), .val (.int p3), .val (.int p4), .val (.int va), .val (.int vb), .val (.int vf), .val (.int z8), .unset, .unset, .unset, .unset, .unset, .unset, .unset, .unset, .unset, .unset]) rfl kz) ?_
          show own_Go p.tables e below s _ _ _ (s₁.setTop (mkF m 57 #[.val (.int p0), .val (.int p1), .val (.int p2), .val (.int p3), .val (.int p4), .val (.int va), .val (.int vb), .val (.int vf), .val (.int z8), .unset, .unset, .unset, .unset, .unset, .unset, .unset, .unset, .unset, .unset] []))
          refine own_by (fun _ kz => XS.iconst X0.here hx rfl (hb hby at_57) kz) ?_
          show own_Go p.tables e below s _ _ _ (s₁.setTop (mkF m 58 #[.val (.int p0), .val (.int p1), .val (.int p2), .val (.int p3), .val (.int p4), .val (.int va), .val (.int vb), .val (.int vf), .val (.int z8), .unset, .unset, .unset, .unset, .unset, .unset, .unset, .unset, .unset, .unset] [(.int (2 : Int32))]))
          refine own_by (fun _ kz => XS.iload X0.here hx rfl (hb hby at_58) rfl kz) ?_
          show own_Go p.tables e below s _ _ _ (s₁.setTop (mkF m 60 #[.val (.int p0), .val (.int p1), .val (.int p2), .val (.int p3), .val (.int p4), .val (.int va), .val (.int vb), .val (.int vf), .val (.int z8), .unset, .unset, .unset, .unset, .unset, .unset, .unset, .unset, .unset, .unset] [(.int p4), (.int (2 : Int32))]))
          refine own_by (fun _ kz => XS.iconst X0.here hx rfl (hb hby at_60) kz) ?_
          show own_Go p.tables e below s _ _ _ (s₁.setTop (mkF m 61 #[.val (.int p0), .val (.int p1), .val (.int p2), .val (.int p3), .val (.int p4), .val (.int va), .val (.int vb), .val (.int vf), .val (.int z8), .unset, .unset, .unset, .unset, .unset, .unset, .unset, .unset, .unset, .unset] [(.int (4 : Int32)), (.int p4), (.int (2 : Int32))]))
          refine own_by (fun _ kz => XS.iushr X0.here hx rfl (hb hby at_61) rfl kz) ?_
          show own_Go p.tables e below s _ _ _ (s₁.setTop (mkF m 62 #[.val (.int p0), .val (.int p1), .val (.int p2), .val (.int p3), .val (.int p4), .val (.int va), .val (.int vb), .val (.int vf), .val (.int z8), .unset, .unset, .unset, .unset, .unset, .unset, .unset, .unset, .unset, .unset] [(.int (own_sri p4 (4 : Int32))), (.int (2 : Int32))]))
          refine own_by (fun _ kz => XS.iconst X0.here hx rfl (hb hby at_62) kz) ?_
          show own_Go p.tables e below s _ _ _ (s₁.setTop (mkF m 63 #[.val (.int p0), .val (.int p1), .val (.int p2), .val (.int p3), .val (.int p4), .val (.int va), .val (.int vb), .val (.int vf), .val (.int z8), .unset, .unset, .unset, .unset, .unset, .unset, .unset, .unset, .unset, .unset] [(.int (3 : Int32)), (.int (own_sri p4 (4 : Int32))), (.int (2 : Int32))]))
          refine own_by (fun _ kz => XS.iand X0.here hx rfl (hb hby at_63) rfl kz) ?_
          show own_Go p.tables e below s _ _ _ (s₁.setTop (mkF m 64 #[.val (.int p0), .val (.int p1), .val (.int p2), .val (.int p3), .val (.int p4), .val (.int va), .val (.int vb), .val (.int vf), .val (.int z8), .unset, .unset, .unset, .unset, .unset, .unset, .unset, .unset, .unset, .unset] [(.int ((own_sri p4 (4 : Int32)) &&& (3 : Int32))), (.int (2 : Int32))]))
          obtain ⟨v1, T1, L1, X1, q1, st1⟩ := own_callS X0 hx hZ hown (hw _ (List.mem_of_getElem? (i := 0) rfl)) (hw _ (List.mem_of_getElem? (i := 1) rfl)) (hw _ (List.mem_of_getElem? (i := 2) rfl)) (hw _ (List.mem_of_getElem? (i := 3) rfl)) (by decide) (rm1 l Z a0 hw [] (2 : Int32) ((own_sri p4 (4 : Int32)) &&& (3 : Int32)) h0 n0 Z0) (W := 0) (by decide) (by decide) e0 (g := (mkF m 64 #[.val (.int p0), .val (.int p1), .val (.int p2), .val (.int p3), .val (.int p4), .val (.int va), .val (.int vb), .val (.int vf), .val (.int z8), .unset, .unset, .unset, .unset, .unset, .unset, .unset, .unset, .unset, .unset] [(.int ((own_sri p4 (4 : Int32)) &&& (3 : Int32))), (.int (2 : Int32))])) rfl (by rw [hml]; rfl) (argsL := [(.int (2 : Int32)), (.int ((own_sri p4 (4 : Int32)) &&& (3 : Int32)))]) (rest := []) (lenOf pd_1 rfl) rfl rfl (by show 2 * 0 + _ ≤ _; exact Nat.le_of_eq rfl) (hb hby at_64) (by decide) (by decide)
          obtain ⟨rfl, Nq1, hh1⟩ := q1
          have N1 := Fr.app N0 Nq1
          refine own_by st1 ?_
          show own_Go p.tables e below s _ _ _ (T1.setTop (mkF m 67 #[.val (.int p0), .val (.int p1), .val (.int p2), .val (.int p3), .val (.int p4), .val (.int va), .val (.int vb), .val (.int vf), .val (.int z8), .unset, .unset, .unset, .unset, .unset, .unset, .unset, .unset, .unset, .unset] [(.int (if ((own_sri p4 (4 : Int32)) &&& (3 : Int32)) < (2 : Int32) then ((own_sri p4 (4 : Int32)) &&& (3 : Int32)) else (2 : Int32)))]))
          obtain ⟨nA, hA, hnA⟩ := own_nadd (own_sri p4 (4 : Int32))
          rw [← hA]
          show own_Go p.tables e below s _ _ _ (T1.setTop (mkF m 67 #[.val (.int p0), .val (.int p1), .val (.int p2), .val (.int p3), .val (.int p4), .val (.int va), .val (.int vb), .val (.int vf), .val (.int z8), .unset, .unset, .unset, .unset, .unset, .unset, .unset, .unset, .unset, .unset] [(.int (own_i nA))]))
          refine own_by (fun _ kz => XS.istore X1.here hx rfl (hb hby at_67) rfl (l' := #[.val (.int p0), .val (.int p1), .val (.int p2), .val (.int p3), .val (.int p4), .val (.int va), .val (.int vb), .val (.int vf), .val (.int z8), .val (.int (own_i nA)), .unset, .unset, .unset, .unset, .unset, .unset, .unset, .unset, .unset]) rfl kz) ?_
          show own_Go p.tables e below s _ _ _ (T1.setTop (mkF m 69 #[.val (.int p0), .val (.int p1), .val (.int p2), .val (.int p3), .val (.int p4), .val (.int va), .val (.int vb), .val (.int vf), .val (.int z8), .val (.int (own_i nA)), .unset, .unset, .unset, .unset, .unset, .unset, .unset, .unset, .unset] []))
          have j82 : ∀ z10 : Int32, own_Go p.tables e below s (Q0 p0 p1 p2 p3 p4 h0 n0) room_1.cells room_1.slots (T1.setTop (mkF m 82 #[.val (.int p0), .val (.int p1), .val (.int p2), .val (.int p3), .val (.int p4), .val (.int va), .val (.int vb), .val (.int vf), .val (.int z8), .val (.int (own_i nA)), .unset, .unset, .unset, .unset, .unset, .unset, .unset, .unset, .unset] [(.int z10)])) := by
            intro z10
            refine own_by (fun _ kz => XS.istore X1.here hx rfl (hb hby at_82) rfl (l' := #[.val (.int p0), .val (.int p1), .val (.int p2), .val (.int p3), .val (.int p4), .val (.int va), .val (.int vb), .val (.int vf), .val (.int z8), .val (.int (own_i nA)), .val (.int z10), .unset, .unset, .unset, .unset, .unset, .unset, .unset, .unset]) rfl kz) ?_
            show own_Go p.tables e below s _ _ _ (T1.setTop (mkF m 84 #[.val (.int p0), .val (.int p1), .val (.int p2), .val (.int p3), .val (.int p4), .val (.int va), .val (.int vb), .val (.int vf), .val (.int z8), .val (.int (own_i nA)), .val (.int z10), .unset, .unset, .unset, .unset, .unset, .unset, .unset, .unset] []))
            refine own_by (fun _ kz => XS.iload X1.here hx rfl (hb hby at_84) rfl kz) ?_
            show own_Go p.tables e below s _ _ _ (T1.setTop (mkF m 86 #[.val (.int p0), .val (.int p1), .val (.int p2), .val (.int p3), .val (.int p4), .val (.int va), .val (.int vb), .val (.int vf), .val (.int z8), .val (.int (own_i nA)), .val (.int z10), .unset, .unset, .unset, .unset, .unset, .unset, .unset, .unset] [(.int p4)]))
            refine own_by (fun _ kz => XS.bipush X1.here hx rfl (hb hby at_86) kz) ?_
            show own_Go p.tables e below s _ _ _ (T1.setTop (mkF m 88 #[.val (.int p0), .val (.int p1), .val (.int p2), .val (.int p3), .val (.int p4), .val (.int va), .val (.int vb), .val (.int vf), .val (.int z8), .val (.int (own_i nA)), .val (.int z10), .unset, .unset, .unset, .unset, .unset, .unset, .unset, .unset] [(.int (7 : Int32)), (.int p4)]))
            refine own_by (fun _ kz => XS.iushr X1.here hx rfl (hb hby at_88) rfl kz) ?_
            show own_Go p.tables e below s _ _ _ (T1.setTop (mkF m 89 #[.val (.int p0), .val (.int p1), .val (.int p2), .val (.int p3), .val (.int p4), .val (.int va), .val (.int vb), .val (.int vf), .val (.int z8), .val (.int (own_i nA)), .val (.int z10), .unset, .unset, .unset, .unset, .unset, .unset, .unset, .unset] [(.int (own_sri p4 (7 : Int32)))]))
            refine own_by (fun _ kz => XS.iconst X1.here hx rfl (hb hby at_89) kz) ?_
            show own_Go p.tables e below s _ _ _ (T1.setTop (mkF m 90 #[.val (.int p0), .val (.int p1), .val (.int p2), .val (.int p3), .val (.int p4), .val (.int va), .val (.int vb), .val (.int vf), .val (.int z8), .val (.int (own_i nA)), .val (.int z10), .unset, .unset, .unset, .unset, .unset, .unset, .unset, .unset] [(.int (1 : Int32)), (.int (own_sri p4 (7 : Int32)))]))
            refine own_by (fun _ kz => XS.iand X1.here hx rfl (hb hby at_90) rfl kz) ?_
            show own_Go p.tables e below s _ _ _ (T1.setTop (mkF m 91 #[.val (.int p0), .val (.int p1), .val (.int p2), .val (.int p3), .val (.int p4), .val (.int va), .val (.int vb), .val (.int vf), .val (.int z8), .val (.int (own_i nA)), .val (.int z10), .unset, .unset, .unset, .unset, .unset, .unset, .unset, .unset] [(.int ((own_sri p4 (7 : Int32)) &&& (1 : Int32)))]))
            obtain ⟨i, hi0, hi⟩ : ∃ i : Int32, i = ((own_sri p4 (7 : Int32)) &&& (1 : Int32)) ∧ (i = 0 ∨ i = 1) := ⟨_, rfl, and_one _⟩
            rw [← hi0]
            show own_Go p.tables e below s _ _ _ (T1.setTop (mkF m 91 #[.val (.int p0), .val (.int p1), .val (.int p2), .val (.int p3), .val (.int p4), .val (.int va), .val (.int vb), .val (.int vf), .val (.int z8), .val (.int (own_i nA)), .val (.int z10), .unset, .unset, .unset, .unset, .unset, .unset, .unset, .unset] [(.int i)]))
            refine own_by (fun _ kz => XS.istore X1.here hx rfl (hb hby at_91) rfl (l' := #[.val (.int p0), .val (.int p1), .val (.int p2), .val (.int p3), .val (.int p4), .val (.int va), .val (.int vb), .val (.int vf), .val (.int z8), .val (.int (own_i nA)), .val (.int z10), .val (.int i), .unset, .unset, .unset, .unset, .unset, .unset, .unset]) rfl kz) ?_
            show own_Go p.tables e below s _ _ _ (T1.setTop (mkF m 93 #[.val (.int p0), .val (.int p1), .val (.int p2), .val (.int p3), .val (.int p4), .val (.int va), .val (.int vb), .val (.int vf), .val (.int z8), .val (.int (own_i nA)), .val (.int z10), .val (.int i), .unset, .unset, .unset, .unset, .unset, .unset, .unset] []))
            obtain ⟨T2, h2, X2, e2, E2, A2, D2, -, st2⟩ := newO X1 hx hZ hown (hw _ (List.mem_of_getElem? (i := 4) rfl)) (hw _ (List.mem_of_getElem? (i := 5) rfl)) (hw _ (List.mem_of_getElem? (i := 6) rfl)) hh1 (g := (mkF m 93 #[.val (.int p0), .val (.int p1), .val (.int p2), .val (.int p3), .val (.int p4), .val (.int va), .val (.int vb), .val (.int vf), .val (.int z8), .val (.int (own_i nA)), .val (.int z10), .val (.int i), .unset, .unset, .unset, .unset, .unset, .unset, .unset] [])) rfl (hb hby at_93) (by decide) (by decide)
            obtain ⟨b2, g2⟩ : ∃ z, z = h0.size := ⟨_, rfl⟩
            rw [← g2] at A2 D2 st2
            have ge_b2 : n0 ≤ b2 := Nat.le_trans Z0 (Nat.le_of_eq g2.symm)
            have Z2 : n0 ≤ h2.size := Nat.le_trans Z0 E2.1
            have O2 := O0.ext E2
            have F2_targets : Fld Z h2 b2 "cyclebreak/collector/ReferenceTable" "targets" "[[I" .null := D2 (Or.inr (hw _ (List.mem_of_getElem? (i := 16) rfl))) (ty := (.array (.array .int))) (by decide)
            have F2_counts : Fld Z h2 b2 "cyclebreak/collector/ReferenceTable" "counts" "[I" .null := D2 (Or.inr (hw _ (List.mem_of_getElem? (i := 26) rfl))) (ty := (.array .int)) (by decide)
            have F2_fixed : Fld Z h2 b2 "cyclebreak/collector/ReferenceTable" "fixed" "[I" .null := D2 (Or.inr (hw _ (List.mem_of_getElem? (i := 28) rfl))) (ty := (.array .int)) (by decide)
            refine own_by st2 ?_
            show own_Go p.tables e below s _ _ _ (T2.setTop (mkF m 96 #[.val (.int p0), .val (.int p1), .val (.int p2), .val (.int p3), .val (.int p4), .val (.int va), .val (.int vb), .val (.int vf), .val (.int z8), .val (.int (own_i nA)), .val (.int z10), .val (.int i), .unset, .unset, .unset, .unset, .unset, .unset, .unset] [(.ref b2)]))
            refine own_by (fun _ kz => XS.dup X2.here hx rfl (hb hby at_96) rfl rfl kz) ?_
            show own_Go p.tables e below s _ _ _ (T2.setTop (mkF m 97 #[.val (.int p0), .val (.int p1), .val (.int p2), .val (.int p3), .val (.int p4), .val (.int va), .val (.int vb), .val (.int vf), .val (.int z8), .val (.int (own_i nA)), .val (.int z10), .val (.int i), .unset, .unset, .unset, .unset, .unset, .unset, .unset] [(.ref b2), (.ref b2)]))
            refine own_by (fun _ kz => XS.iconst X2.here hx rfl (hb hby at_97) kz) ?_
            show own_Go p.tables e below s _ _ _ (T2.setTop (mkF m 98 #[.val (.int p0), .val (.int p1), .val (.int p2), .val (.int p3), .val (.int p4), .val (.int va), .val (.int vb), .val (.int vf), .val (.int z8), .val (.int (own_i nA)), .val (.int z10), .val (.int i), .unset, .unset, .unset, .unset, .unset, .unset, .unset] [(.int (2 : Int32)), (.ref b2), (.ref b2)]))
            obtain ⟨v3, T3, L3, X3, q3, st3⟩ := own_callI X2 hx hZ rfl hown (hw _ (List.mem_of_getElem? (i := 7) rfl)) (hw _ (List.mem_of_getElem? (i := 8) rfl)) (hw _ (List.mem_of_getElem? (i := 6) rfl)) (hw _ (List.mem_of_getElem? (i := 9) rfl)) (by decide) (rm2 l Z a0 hw [] b2 h2 n0 Z2 N kN O2 SN EN VN hN A2 F2_targets F2_counts F2_fixed ge_b2) (W := 1) (by decide) (by decide) e2 (g := (mkF m 98 #[.val (.int p0), .val (.int p1), .val (.int p2), .val (.int p3), .val (.int p4), .val (.int va), .val (.int vb), .val (.int vf), .val (.int z8), .val (.int (own_i nA)), .val (.int z10), .val (.int i), .unset, .unset, .unset, .unset, .unset, .unset, .unset] [(.int (2 : Int32)), (.ref b2), (.ref b2)])) rfl (by rw [hml]; rfl) (a := b2) (argsL := [(.int (2 : Int32))]) (rest := [(.ref b2)]) (lenOf pd_2 rfl) rfl rfl (by show 2 * 0 + _ ≤ _; exact Nat.le_of_eq rfl) (hb hby at_98) (by decide) (by decide)
            obtain ⟨ta, ca, fa, rfl, Nq3, Zq3, TB3⟩ := q3
            have N3 := Fr.app N1 Nq3
            refine own_by st3 ?_
            show own_Go p.tables e below s _ _ _ (T3.setTop (mkF m 101 #[.val (.int p0), .val (.int p1), .val (.int p2), .val (.int p3), .val (.int p4), .val (.int va), .val (.int vb), .val (.int vf), .val (.int z8), .val (.int (own_i nA)), .val (.int z10), .val (.int i), .unset, .unset, .unset, .unset, .unset, .unset, .unset] [(.ref b2)]))
            have TBi : own_Tab Z n0 N b2 ta ca fa i T3.heap N N 0 0 0 0 [0, 0, 0, 0] [0, 0, 0, 0] := by rcases hi with e | e; (rw [e]; exact TB3); rw [e]; exact TB3.swap
            have A0 : own_A Z n0 N b2 ta ca fa i T3.heap [] [] := ⟨_, _, _, _, _, _, _, _, TBi, ⟨rfl, Nat.le_refl _, by omega, by omega⟩, rfl, List.Perm.refl _⟩
            refine own_by (fun _ kz => XS.astore X3.here hx rfl (hb hby at_101) rfl rfl (l' := #[.val (.int p0), .val (.int p1), .val (.int p2), .val (.int p3), .val (.int p4), .val (.int va), .val (.int vb), .val (.int vf), .val (.int z8), .val (.int (own_i nA)), .val (.int z10), .val (.int i), .val (.ref b2), .unset, .unset, .unset, .unset, .unset, .unset]) rfl kz) ?_
            show own_Go p.tables e below s _ _ _ (T3.setTop (mkF m 103 #[.val (.int p0), .val (.int p1), .val (.int p2), .val (.int p3), .val (.int p4), .val (.int va), .val (.int vb), .val (.int vf), .val (.int z8), .val (.int (own_i nA)), .val (.int z10), .val (.int i), .val (.ref b2), .unset, .unset, .unset, .unset, .unset, .unset] []))
            have s122 : ∀ (T_s122 : State) (L_s122 : List Loc), Stand p l e room_1 s m #[(.int p0), (.int p1), (.int p2), (.int p3), (.int p4)] below meth c T_s122 L_s122 5 13 → Fr n0 L_s122 → n0 ≤ T_s122.heap.size → own_A Z n0 N b2 ta ca fa i T_s122.heap (own_f0 z8 z10 vf) [] → own_Go p.tables e below s (Q0 p0 p1 p2 p3 p4 h0 n0) room_1.cells room_1.slots (T_s122.setTop (mkF m 122 #[.val (.int p0), .val (.int p1), .val (.int p2), .val (.int p3), .val (.int p4), .val (.int va), .val (.int vb), .val (.int vf), .val (.int z8), .val (.int (own_i nA)), .val (.int z10), .val (.int i), .val (.ref b2), .unset, .unset, .unset, .unset, .unset, .unset] [])) := by
              intro T_s122 L_s122  X_s122 N_s122 Z_s122 A122
              have s137 : ∀ (T_s137 : State) (L_s137 : List Loc), Stand p l e room_1 s m #[(.int p0), (.int p1), (.int p2), (.int p3), (.int p4)] below meth c T_s137 L_s137 6 17 → Fr n0 L_s137 → n0 ≤ T_s137.heap.size → own_A Z n0 N b2 ta ca fa i T_s137.heap (own_f0 z8 z10 vf) (own_rl1 nA va) → own_Go p.tables e below s (Q0 p0 p1 p2 p3 p4 h0 n0) room_1.cells room_1.slots (T_s137.setTop (mkF m 137 #[.val (.int p0), .val (.int p1), .val (.int p2), .val (.int p3), .val (.int p4), .val (.int va), .val (.int vb), .val (.int vf), .val (.int z8), .val (.int (own_i nA)), .val (.int z10), .val (.int i), .val (.ref b2), .unset, .unset, .unset, .unset, .unset, .unset] [])) := by
                intro T_s137 L_s137  X_s137 N_s137 Z_s137 A137
                have s152 : ∀ (T_s152 : State) (L_s152 : List Loc), Stand p l e room_1 s m #[(.int p0), (.int p1), (.int p2), (.int p3), (.int p4)] below meth c T_s152 L_s152 7 21 → Fr n0 L_s152 → n0 ≤ T_s152.heap.size → own_A Z n0 N b2 ta ca fa i T_s152.heap (own_f0 z8 z10 vf) (own_rl nA va vb) → own_Go p.tables e below s (Q0 p0 p1 p2 p3 p4 h0 n0) room_1.cells room_1.slots (T_s152.setTop (mkF m 152 #[.val (.int p0), .val (.int p1), .val (.int p2), .val (.int p3), .val (.int p4), .val (.int va), .val (.int vb), .val (.int vf), .val (.int z8), .val (.int (own_i nA)), .val (.int z10), .val (.int i), .val (.ref b2), .unset, .unset, .unset, .unset, .unset, .unset] [])) := by
                  intro T_s152 L_s152  X_s152 N_s152 Z_s152 A152
                  have s171 : ∀ (T_s171 : State) (L_s171 : List Loc), Stand p l e room_1 s m #[(.int p0), (.int p1), (.int p2), (.int p3), (.int p4)] below meth c T_s171 L_s171 8 25 → Fr n0 L_s171 → n0 ≤ T_s171.heap.size → own_A Z n0 N b2 ta ca fa i T_s171.heap (own_fl z8 vf) (own_rl nA va vb) → own_Go p.tables e below s (Q0 p0 p1 p2 p3 p4 h0 n0) room_1.cells room_1.slots (T_s171.setTop (mkF m 171 #[.val (.int p0), .val (.int p1), .val (.int p2), .val (.int p3), .val (.int p4), .val (.int va), .val (.int vb), .val (.int vf), .val (.int z8), .val (.int (own_i nA)), .val (.int z10), .val (.int i), .val (.ref b2), .unset, .unset, .unset, .unset, .unset, .unset] [])) := by
                    intro T_s171 L_s171  X_s171 N_s171 Z_s171 A171
                    refine own_by (fun _ kz => XS.iconst X_s171.here hx rfl (hb hby at_171) kz) ?_
                    show own_Go p.tables e below s _ _ _ (T_s171.setTop (mkF m 172 #[.val (.int p0), .val (.int p1), .val (.int p2), .val (.int p3), .val (.int p4), .val (.int va), .val (.int vb), .val (.int vf), .val (.int z8), .val (.int (own_i nA)), .val (.int z10), .val (.int i), .val (.ref b2), .unset, .unset, .unset, .unset, .unset, .unset] [(.int (0 : Int32))]))
                    refine own_by (fun _ kz => XS.istore X_s171.here hx rfl (hb hby at_172) rfl (l' := #[.val (.int p0), .val (.int p1), .val (.int p2), .val (.int p3), .val (.int p4), .val (.int va), .val (.int vb), .val (.int vf), .val (.int z8), .val (.int (own_i nA)), .val (.int z10), .val (.int i), .val (.ref b2), .val (.int (0 : Int32)), .unset, .unset, .unset, .unset, .unset]) rfl kz) ?_
                    show own_Go p.tables e below s _ _ _ (T_s171.setTop (mkF m 174 #[.val (.int p0), .val (.int p1), .val (.int p2), .val (.int p3), .val (.int p4), .val (.int va), .val (.int vb), .val (.int vf), .val (.int z8), .val (.int (own_i nA)), .val (.int z10), .val (.int i), .val (.ref b2), .val (.int (0 : Int32)), .unset, .unset, .unset, .unset, .unset] []))
                    have j189 : ∀ z13 : Int32, z13 = own_i ((own_rl1 nA va).count p0) → own_Go p.tables e below s (Q0 p0 p1 p2 p3 p4 h0 n0) room_1.cells room_1.slots (T_s171.setTop (mkF m 189 #[.val (.int p0), .val (.int p1), .val (.int p2), .val (.int p3), .val (.int p4), .val (.int va), .val (.int vb), .val (.int vf), .val (.int z8), .val (.int (own_i nA)), .val (.int z10), .val (.int i), .val (.ref b2), .val (.int z13), .unset, .unset, .unset, .unset, .unset] [])) := by
                      intro z13 hz13
                      subst hz13
                      show own_Go p.tables e below s _ _ _ (T_s171.setTop (mkF m 189 #[.val (.int p0), .val (.int p1), .val (.int p2), .val (.int p3), .val (.int p4), .val (.int va), .val (.int vb), .val (.int vf), .val (.int z8), .val (.int (own_i nA)), .val (.int z10), .val (.int i), .val (.ref b2), .val (.int (own_i ((own_rl1 nA va).count p0))), .unset, .unset, .unset, .unset, .unset] []))
                      have j204 : ∀ z14 : Int32, z14 = own_i ((own_rl nA va vb).count p0) → own_Go p.tables e below s (Q0 p0 p1 p2 p3 p4 h0 n0) room_1.cells room_1.slots (T_s171.setTop (mkF m 204 #[.val (.int p0), .val (.int p1), .val (.int p2), .val (.int p3), .val (.int p4), .val (.int va), .val (.int vb), .val (.int vf), .val (.int z8), .val (.int (own_i nA)), .val (.int z10), .val (.int i), .val (.ref b2), .val (.int z14), .unset, .unset, .unset, .unset, .unset] [])) := by
                        intro z14 hz14
                        subst hz14
                        show own_Go p.tables e below s _ _ _ (T_s171.setTop (mkF m 204 #[.val (.int p0), .val (.int p1), .val (.int p2), .val (.int p3), .val (.int p4), .val (.int va), .val (.int vb), .val (.int vf), .val (.int z8), .val (.int (own_i nA)), .val (.int z10), .val (.int i), .val (.ref b2), .val (.int (own_i ((own_rl nA va vb).count p0))), .unset, .unset, .unset, .unset, .unset] []))
                        refine own_by (fun _ kz => XS.aload X_s171.here hx rfl (hb hby at_204) rfl rfl kz) ?_
                        show own_Go p.tables e below s _ _ _ (T_s171.setTop (mkF m 206 #[.val (.int p0), .val (.int p1), .val (.int p2), .val (.int p3), .val (.int p4), .val (.int va), .val (.int vb), .val (.int vf), .val (.int z8), .val (.int (own_i nA)), .val (.int z10), .val (.int i), .val (.ref b2), .val (.int (own_i ((own_rl nA va vb).count p0))), .unset, .unset, .unset, .unset, .unset] [(.ref b2)]))
                        refine own_by (fun _ kz => XS.iload X_s171.here hx rfl (hb hby at_206) rfl kz) ?_
                        show own_Go p.tables e below s _ _ _ (T_s171.setTop (mkF m 208 #[.val (.int p0), .val (.int p1), .val (.int p2), .val (.int p3), .val (.int p4), .val (.int va), .val (.int vb), .val (.int vf), .val (.int z8), .val (.int (own_i nA)), .val (.int z10), .val (.int i), .val (.ref b2), .val (.int (own_i ((own_rl nA va vb).count p0))), .unset, .unset, .unset, .unset, .unset] [(.int i), (.ref b2)]))
                        refine own_by (fun _ kz => XS.iloadN X_s171.here hx rfl (hb hby at_208) rfl kz) ?_
                        show own_Go p.tables e below s _ _ _ (T_s171.setTop (mkF m 209 #[.val (.int p0), .val (.int p1), .val (.int p2), .val (.int p3), .val (.int p4), .val (.int va), .val (.int vb), .val (.int vf), .val (.int z8), .val (.int (own_i nA)), .val (.int z10), .val (.int i), .val (.ref b2), .val (.int (own_i ((own_rl nA va vb).count p0))), .unset, .unset, .unset, .unset, .unset] [(.int p0), (.int i), (.ref b2)]))
                        obtain ⟨r4, rr4, k4, kk4, x4, xx4, vs4, us4, TBs4, H4, hf4, hr4⟩ := A171
                        have hl4 := own_A_len H4 hf4 hr4
                        obtain ⟨v5, T5, L5, X5, q5, st5⟩ := own_callV X_s171 hx hZ hown (hw _ (List.mem_of_getElem? (i := 29) rfl)) (hw _ (List.mem_of_getElem? (i := 30) rfl)) (hw _ (List.mem_of_getElem? (i := 32) rfl)) (hw _ (List.mem_of_getElem? (i := 31) rfl)) (hw _ (List.mem_of_getElem? (i := 6) rfl)) (hw _ (List.mem_of_getElem? (i := 33) rfl)) (by decide) (rm5 l Z a0 hw [] b2 i p0 T_s171.heap n0 Z_s171 N ta ca fa r4 rr4 k4 kk4 x4 xx4 vs4 us4 hi TBs4 H4.2.1 (by omega)) (W := 0) (by decide) (by decide) rfl TBs4.exa (g := (mkF m 209 #[.val (.int p0), .val (.int p1), .val (.int p2), .val (.int p3), .val (.int p4), .val (.int va), .val (.int vb), .val (.int vf), .val (.int z8), .val (.int (own_i nA)), .val (.int z10), .val (.int i), .val (.ref b2), .val (.int (own_i ((own_rl nA va vb).count p0))), .unset, .unset, .unset, .unset, .unset] [(.int p0), (.int i), (.ref b2)])) rfl (by rw [hml]; rfl) (argsL := [(.int i), (.int p0)]) (rest := []) (lenOf pd_5 rfl) rfl rfl (by show 2 * 0 + _ ≤ _; exact Nat.le_of_eq rfl) (hb hby at_209) (by decide) (by decide)
                        obtain ⟨Nq5, Zq5, b5, rfl, Rm5⟩ := q5
                        have N5 := Fr.app N_s171 Nq5
                        refine own_by st5 ?_
                        show own_Go p.tables e below s _ _ _ (T5.setTop (mkF m 212 #[.val (.int p0), .val (.int p1), .val (.int p2), .val (.int p3), .val (.int p4), .val (.int va), .val (.int vb), .val (.int vf), .val (.int z8), .val (.int (own_i nA)), .val (.int z10), .val (.int i), .val (.ref b2), .val (.int (own_i ((own_rl nA va vb).count p0))), .unset, .unset, .unset, .unset, .unset] [(.int b5)]))
                        obtain ⟨A5, hb5⟩ := own_A_rem H4 hf4 hr4 Rm5
                        subst hb5
                        show own_Go p.tables e below s _ _ _ (T5.setTop (mkF m 212 #[.val (.int p0), .val (.int p1), .val (.int p2), .val (.int p3), .val (.int p4), .val (.int va), .val (.int vb), .val (.int vf), .val (.int z8), .val (.int (own_i nA)), .val (.int z10), .val (.int i), .val (.ref b2), .val (.int (own_i ((own_rl nA va vb).count p0))), .unset, .unset, .unset, .unset, .unset] [(.int (own_bt p0 (own_rl nA va vb)))]))
                        refine own_by (fun _ kz => XS.istore X5.here hx rfl (hb hby at_212) rfl (l' := #[.val (.int p0), .val (.int p1), .val (.int p2), .val (.int p3), .val (.int p4), .val (.int va), .val (.int vb), .val (.int vf), .val (.int z8), .val (.int (own_i nA)), .val (.int z10), .val (.int i), .val (.ref b2), .val (.int (own_i ((own_rl nA va vb).count p0))), .val (.int (own_bt p0 (own_rl nA va vb))), .unset, .unset, .unset, .unset]) rfl kz) ?_
                        show own_Go p.tables e below s _ _ _ (T5.setTop (mkF m 214 #[.val (.int p0), .val (.int p1), .val (.int p2), .val (.int p3), .val (.int p4), .val (.int va), .val (.int vb), .val (.int vf), .val (.int z8), .val (.int (own_i nA)), .val (.int z10), .val (.int i), .val (.ref b2), .val (.int (own_i ((own_rl nA va vb).count p0))), .val (.int (own_bt p0 (own_rl nA va vb))), .unset, .unset, .unset, .unset] []))
                        refine own_by (fun _ kz => XS.aload X5.here hx rfl (hb hby at_214) rfl rfl kz) ?_
                        show own_Go p.tables e below s _ _ _ (T5.setTop (mkF m 216 #[.val (.int p0), .val (.int p1), .val (.int p2), .val (.int p3), .val (.int p4), .val (.int va), .val (.int vb), .val (.int vf), .val (.int z8), .val (.int (own_i nA)), .val (.int z10), .val (.int i), .val (.ref b2), .val (.int (own_i ((own_rl nA va vb).count p0))), .val (.int (own_bt p0 (own_rl nA va vb))), .unset, .unset, .unset, .unset] [(.ref b2)]))
                        refine own_by (fun _ kz => XS.iload X5.here hx rfl (hb hby at_216) rfl kz) ?_
                        show own_Go p.tables e below s _ _ _ (T5.setTop (mkF m 218 #[.val (.int p0), .val (.int p1), .val (.int p2), .val (.int p3), .val (.int p4), .val (.int va), .val (.int vb), .val (.int vf), .val (.int z8), .val (.int (own_i nA)), .val (.int z10), .val (.int i), .val (.ref b2), .val (.int (own_i ((own_rl nA va vb).count p0))), .val (.int (own_bt p0 (own_rl nA va vb))), .unset, .unset, .unset, .unset] [(.int i), (.ref b2)]))
                        refine own_by (fun _ kz => XS.iloadN X5.here hx rfl (hb hby at_218) rfl kz) ?_
                        show own_Go p.tables e below s _ _ _ (T5.setTop (mkF m 219 #[.val (.int p0), .val (.int p1), .val (.int p2), .val (.int p3), .val (.int p4), .val (.int va), .val (.int vb), .val (.int vf), .val (.int z8), .val (.int (own_i nA)), .val (.int z10), .val (.int i), .val (.ref b2), .val (.int (own_i ((own_rl nA va vb).count p0))), .val (.int (own_bt p0 (own_rl nA va vb))), .unset, .unset, .unset, .unset] [(.int p0), (.int i), (.ref b2)]))
                        obtain ⟨r6, rr6, k6, kk6, x6, xx6, vs6, us6, TBs6, H6, hf6, hr6⟩ := A5
                        have hl6 := own_A_len H6 hf6 hr6
                        obtain ⟨v7, T7, L7, X7, q7, st7⟩ := own_callV X5 hx hZ hown (hw _ (List.mem_of_getElem? (i := 29) rfl)) (hw _ (List.mem_of_getElem? (i := 30) rfl)) (hw _ (List.mem_of_getElem? (i := 32) rfl)) (hw _ (List.mem_of_getElem? (i := 31) rfl)) (hw _ (List.mem_of_getElem? (i := 6) rfl)) (hw _ (List.mem_of_getElem? (i := 33) rfl)) (by decide) (rm5 l Z a0 hw [] b2 i p0 T5.heap n0 Zq5 N ta ca fa r6 rr6 k6 kk6 x6 xx6 vs6 us6 hi TBs6 H6.2.1 (by omega)) (W := 0) (by decide) (by decide) rfl TBs6.exa (g := (mkF m 219 #[.val (.int p0), .val (.int p1), .val (.int p2), .val (.int p3), .val (.int p4), .val (.int va), .val (.int vb), .val (.int vf), .val (.int z8), .val (.int (own_i nA)), .val (.int z10), .val (.int i), .val (.ref b2), .val (.int (own_i ((own_rl nA va vb).count p0))), .val (.int (own_bt p0 (own_rl nA va vb))), .unset, .unset, .unset, .unset] [(.int p0), (.int i), (.ref b2)])) rfl (by rw [hml]; rfl) (argsL := [(.int i), (.int p0)]) (rest := []) (lenOf pd_5 rfl) rfl rfl (by show 2 * 0 + _ ≤ _; exact Nat.le_of_eq rfl) (hb hby at_219) (by decide) (by decide)
                        obtain ⟨Nq7, Zq7, b7, rfl, Rm7⟩ := q7
                        have N7 := Fr.app N5 Nq7
                        refine own_by st7 ?_
                        show own_Go p.tables e below s _ _ _ (T7.setTop (mkF m 222 #[.val (.int p0), .val (.int p1), .val (.int p2), .val (.int p3), .val (.int p4), .val (.int va), .val (.int vb), .val (.int vf), .val (.int z8), .val (.int (own_i nA)), .val (.int z10), .val (.int i), .val (.ref b2), .val (.int (own_i ((own_rl nA va vb).count p0))), .val (.int (own_bt p0 (own_rl nA va vb))), .unset, .unset, .unset, .unset] [(.int b7)]))
                        obtain ⟨A7, hb7⟩ := own_A_rem H6 hf6 hr6 Rm7
                        subst hb7
                        show own_Go p.tables e below s _ _ _ (T7.setTop (mkF m 222 #[.val (.int p0), .val (.int p1), .val (.int p2), .val (.int p3), .val (.int p4), .val (.int va), .val (.int vb), .val (.int vf), .val (.int z8), .val (.int (own_i nA)), .val (.int z10), .val (.int i), .val (.ref b2), .val (.int (own_i ((own_rl nA va vb).count p0))), .val (.int (own_bt p0 (own_rl nA va vb))), .unset, .unset, .unset, .unset] [(.int (own_bt p0 ((own_rl nA va vb).erase p0)))]))
                        refine own_by (fun _ kz => XS.istore X7.here hx rfl (hb hby at_222) rfl (l' := #[.val (.int p0), .val (.int p1), .val (.int p2), .val (.int p3), .val (.int p4), .val (.int va), .val (.int vb), .val (.int vf), .val (.int z8), .val (.int (own_i nA)), .val (.int z10), .val (.int i), .val (.ref b2), .val (.int (own_i ((own_rl nA va vb).count p0))), .val (.int (own_bt p0 (own_rl nA va vb))), .val (.int (own_bt p0 ((own_rl nA va vb).erase p0))), .unset, .unset, .unset]) rfl kz) ?_
                        show own_Go p.tables e below s _ _ _ (T7.setTop (mkF m 224 #[.val (.int p0), .val (.int p1), .val (.int p2), .val (.int p3), .val (.int p4), .val (.int va), .val (.int vb), .val (.int vf), .val (.int z8), .val (.int (own_i nA)), .val (.int z10), .val (.int i), .val (.ref b2), .val (.int (own_i ((own_rl nA va vb).count p0))), .val (.int (own_bt p0 (own_rl nA va vb))), .val (.int (own_bt p0 ((own_rl nA va vb).erase p0))), .unset, .unset, .unset] []))
                        have j242 : ∀ _ : True, own_Go p.tables e below s (Q0 p0 p1 p2 p3 p4 h0 n0) room_1.cells room_1.slots (T7.setTop (mkF m 242 #[.val (.int p0), .val (.int p1), .val (.int p2), .val (.int p3), .val (.int p4), .val (.int va), .val (.int vb), .val (.int vf), .val (.int z8), .val (.int (own_i nA)), .val (.int z10), .val (.int i), .val (.ref b2), .val (.int (own_i ((own_rl nA va vb).count p0))), .val (.int (own_bt p0 (own_rl nA va vb))), .val (.int (own_bt p0 ((own_rl nA va vb).erase p0))), .unset, .unset, .unset] [])) := by
                          intro _
                          have j260 : ∀ _ : True, own_Go p.tables e below s (Q0 p0 p1 p2 p3 p4 h0 n0) room_1.cells room_1.slots (T7.setTop (mkF m 260 #[.val (.int p0), .val (.int p1), .val (.int p2), .val (.int p3), .val (.int p4), .val (.int va), .val (.int vb), .val (.int vf), .val (.int z8), .val (.int (own_i nA)), .val (.int z10), .val (.int i), .val (.ref b2), .val (.int (own_i ((own_rl nA va vb).count p0))), .val (.int (own_bt p0 (own_rl nA va vb))), .val (.int (own_bt p0 ((own_rl nA va vb).erase p0))), .unset, .unset, .unset] [])) := by
                            intro _
                            refine own_by (fun _ kz => XS.iconst X7.here hx rfl (hb hby at_260) kz) ?_
                            show own_Go p.tables e below s _ _ _ (T7.setTop (mkF m 261 #[.val (.int p0), .val (.int p1), .val (.int p2), .val (.int p3), .val (.int p4), .val (.int va), .val (.int vb), .val (.int vf), .val (.int z8), .val (.int (own_i nA)), .val (.int z10), .val (.int i), .val (.ref b2), .val (.int (own_i ((own_rl nA va vb).count p0))), .val (.int (own_bt p0 (own_rl nA va vb))), .val (.int (own_bt p0 ((own_rl nA va vb).erase p0))), .unset, .unset, .unset] [(.int (3 : Int32))]))
                            obtain ⟨r8, rr8, k8, kk8, x8, xx8, vs8, us8, TBs8, H8, hf8, hr8⟩ := A7
                            have hl8 := own_A_len H8 hf8 hr8
                            have hk3 : k8 = (((own_fl z8 vf) ++ own_e1 nA va p0) ++ own_e2 nA vb p0).length := by have q := (own_lperm z8 vf hnA va vb p0).length_eq; have q2 := List.length_append (as := own_fl z8 vf) (bs := ((own_rl nA va vb).erase p0).erase p0); omega
                            have hP : (((own_fl z8 vf) ++ own_e1 nA va p0) ++ own_e2 nA vb p0).Perm (vs8.take k8) := by rw [← own_row_split vs8 H8.2.1, hf8]; exact (own_lperm z8 vf hnA va vb p0).trans (List.Perm.append_left _ hr8.symm)
                            obtain ⟨T9, h9, k9, X9, e9, E9, A9, st9⟩ := newP X7 hx hZ (hw _ (List.mem_of_getElem? (i := 24) rfl)) rfl (g := (mkF m 261 #[.val (.int p0), .val (.int p1), .val (.int p2), .val (.int p3), .val (.int p4), .val (.int va), .val (.int vb), .val (.int vf), .val (.int z8), .val (.int (own_i nA)), .val (.int z10), .val (.int i), .val (.ref b2), .val (.int (own_i ((own_rl nA va vb).count p0))), .val (.int (own_bt p0 (own_rl nA va vb))), .val (.int (own_bt p0 ((own_rl nA va vb).erase p0))), .unset, .unset, .unset] [(.int (3 : Int32))])) rfl (hb hby at_261) rfl (by decide) (cap := 3) (by decide) (by decide) (by decide) (by decide)
                            obtain ⟨b9, g9⟩ : ∃ z, z = T7.heap.size := ⟨_, rfl⟩
                            rw [← g9] at A9 st9
                            have ge_b9 : n0 ≤ b9 := Nat.le_trans Zq7 (Nat.le_of_eq g9.symm)
                            have Z9 : n0 ≤ h9.size := Nat.le_trans Zq7 E9.1
                            have V9 : Arv Z h9 b9 k9 .int (3 : Int32) [(.int (0 : Int32)), (.int (0 : Int32)), (.int (0 : Int32))] (.int (0 : Int32)) := (Arv.new A9 (by decide)).pad (fun i => pad_rep [] _ 3 i)
                            have TBn9 := TBs8.ext E9
                            have frs9 := TBs8.fresh (Nat.le_of_eq g9.symm)
                            have Vp9 : Arv Z h9 b9 k9 .int (3 : Int32) (own_iv (own_pad ([] : List Int32))) (.int (0 : Int32)) := V9
                            rw [← e9] at TBn9 Z9 Vp9
                            refine own_by st9 ?_
                            show own_Go p.tables e below s _ _ _ (T9.setTop (mkF m 263 #[.val (.int p0), .val (.int p1), .val (.int p2), .val (.int p3), .val (.int p4), .val (.int va), .val (.int vb), .val (.int vf), .val (.int z8), .val (.int (own_i nA)), .val (.int z10), .val (.int i), .val (.ref b2), .val (.int (own_i ((own_rl nA va vb).count p0))), .val (.int (own_bt p0 (own_rl nA va vb))), .val (.int (own_bt p0 ((own_rl nA va vb).erase p0))), .unset, .unset, .unset] [(.ref b9)]))
                            refine own_by (fun _ kz => XS.astore X9.here hx rfl (hb hby at_263) rfl rfl (l' := #[.val (.int p0), .val (.int p1), .val (.int p2), .val (.int p3), .val (.int p4), .val (.int va), .val (.int vb), .val (.int vf), .val (.int z8), .val (.int (own_i nA)), .val (.int z10), .val (.int i), .val (.ref b2), .val (.int (own_i ((own_rl nA va vb).count p0))), .val (.int (own_bt p0 (own_rl nA va vb))), .val (.int (own_bt p0 ((own_rl nA va vb).erase p0))), .val (.ref b9), .unset, .unset]) rfl kz) ?_
                            show own_Go p.tables e below s _ _ _ (T9.setTop (mkF m 265 #[.val (.int p0), .val (.int p1), .val (.int p2), .val (.int p3), .val (.int p4), .val (.int va), .val (.int vb), .val (.int vf), .val (.int z8), .val (.int (own_i nA)), .val (.int z10), .val (.int i), .val (.ref b2), .val (.int (own_i ((own_rl nA va vb).count p0))), .val (.int (own_bt p0 (own_rl nA va vb))), .val (.int (own_bt p0 ((own_rl nA va vb).erase p0))), .val (.ref b9), .unset, .unset] []))
                            refine own_by (fun _ kz => XS.iconst X9.here hx rfl (hb hby at_265) kz) ?_
                            show own_Go p.tables e below s _ _ _ (T9.setTop (mkF m 266 #[.val (.int p0), .val (.int p1), .val (.int p2), .val (.int p3), .val (.int p4), .val (.int va), .val (.int vb), .val (.int vf), .val (.int z8), .val (.int (own_i nA)), .val (.int z10), .val (.int i), .val (.ref b2), .val (.int (own_i ((own_rl nA va vb).count p0))), .val (.int (own_bt p0 (own_rl nA va vb))), .val (.int (own_bt p0 ((own_rl nA va vb).erase p0))), .val (.ref b9), .unset, .unset] [(.int (0 : Int32))]))
                            refine own_by (fun _ kz => XS.istore X9.here hx rfl (hb hby at_266) rfl (l' := #[.val (.int p0), .val (.int p1), .val (.int p2), .val (.int p3), .val (.int p4), .val (.int va), .val (.int vb), .val (.int vf), .val (.int z8), .val (.int (own_i nA)), .val (.int z10), .val (.int i), .val (.ref b2), .val (.int (own_i ((own_rl nA va vb).count p0))), .val (.int (own_bt p0 (own_rl nA va vb))), .val (.int (own_bt p0 ((own_rl nA va vb).erase p0))), .val (.ref b9), .val (.int (0 : Int32)), .unset]) rfl kz) ?_
                            show own_Go p.tables e below s _ _ _ (T9.setTop (mkF m 268 #[.val (.int p0), .val (.int p1), .val (.int p2), .val (.int p3), .val (.int p4), .val (.int va), .val (.int vb), .val (.int vf), .val (.int z8), .val (.int (own_i nA)), .val (.int z10), .val (.int i), .val (.ref b2), .val (.int (own_i ((own_rl nA va vb).count p0))), .val (.int (own_bt p0 (own_rl nA va vb))), .val (.int (own_bt p0 ((own_rl nA va vb).erase p0))), .val (.ref b9), .val (.int (0 : Int32)), .unset] []))
                            have s283 : ∀ (T_s283 : State) (L_s283 : List Loc) (m17 : Int32), Stand p l e room_1 s m #[(.int p0), (.int p1), (.int p2), (.int p3), (.int p4)] below meth c T_s283 L_s283 9 28 → Fr n0 L_s283 → n0 ≤ T_s283.heap.size → own_Tab Z n0 N b2 ta ca fa i T_s283.heap r8 rr8 k8 kk8 x8 xx8 vs8 us8 → Arv Z T_s283.heap b9 k9 .int (3 : Int32) (own_iv (own_pad (own_fl z8 vf))) (.int (0 : Int32)) → m17 = own_i (own_fl z8 vf).length → own_Go p.tables e below s (Q0 p0 p1 p2 p3 p4 h0 n0) room_1.cells room_1.slots (T_s283.setTop (mkF m 283 #[.val (.int p0), .val (.int p1), .val (.int p2), .val (.int p3), .val (.int p4), .val (.int va), .val (.int vb), .val (.int vf), .val (.int z8), .val (.int (own_i nA)), .val (.int z10), .val (.int i), .val (.ref b2), .val (.int (own_i ((own_rl nA va vb).count p0))), .val (.int (own_bt p0 (own_rl nA va vb))), .val (.int (own_bt p0 ((own_rl nA va vb).erase p0))), .val (.ref b9), .val (.int m17), .unset] [])) := by
                              intro T_s283 L_s283 m17 X_s283 N_s283 Z_s283 TB_s283 Ve_s283 hm17
                              subst hm17
                              show own_Go p.tables e below s _ _ _ (T_s283.setTop (mkF m 283 #[.val (.int p0), .val (.int p1), .val (.int p2), .val (.int p3), .val (.int p4), .val (.int va), .val (.int vb), .val (.int vf), .val (.int z8), .val (.int (own_i nA)), .val (.int z10), .val (.int i), .val (.ref b2), .val (.int (own_i ((own_rl nA va vb).count p0))), .val (.int (own_bt p0 (own_rl nA va vb))), .val (.int (own_bt p0 ((own_rl nA va vb).erase p0))), .val (.ref b9), .val (.int (own_i (own_fl z8 vf).length)), .unset] []))
                              have s305 : ∀ (T_s305 : State) (L_s305 : List Loc) (m17 : Int32), Stand p l e room_1 s m #[(.int p0), (.int p1), (.int p2), (.int p3), (.int p4)] below meth c T_s305 L_s305 9 28 → Fr n0 L_s305 → n0 ≤ T_s305.heap.size → own_Tab Z n0 N b2 ta ca fa i T_s305.heap r8 rr8 k8 kk8 x8 xx8 vs8 us8 → Arv Z T_s305.heap b9 k9 .int (3 : Int32) (own_iv (own_pad ((own_fl z8 vf) ++ own_e1 nA va p0))) (.int (0 : Int32)) → m17 = own_i ((own_fl z8 vf) ++ own_e1 nA va p0).length → own_Go p.tables e below s (Q0 p0 p1 p2 p3 p4 h0 n0) room_1.cells room_1.slots (T_s305.setTop (mkF m 305 #[.val (.int p0), .val (.int p1), .val (.int p2), .val (.int p3), .val (.int p4), .val (.int va), .val (.int vb), .val (.int vf), .val (.int z8), .val (.int (own_i nA)), .val (.int z10), .val (.int i), .val (.ref b2), .val (.int (own_i ((own_rl nA va vb).count p0))), .val (.int (own_bt p0 (own_rl nA va vb))), .val (.int (own_bt p0 ((own_rl nA va vb).erase p0))), .val (.ref b9), .val (.int m17), .unset] [])) := by
                                intro T_s305 L_s305 m17 X_s305 N_s305 Z_s305 TB_s305 Ve_s305 hm17
                                subst hm17
                                show own_Go p.tables e below s _ _ _ (T_s305.setTop (mkF m 305 #[.val (.int p0), .val (.int p1), .val (.int p2), .val (.int p3), .val (.int p4), .val (.int va), .val (.int vb), .val (.int vf), .val (.int z8), .val (.int (own_i nA)), .val (.int z10), .val (.int i), .val (.ref b2), .val (.int (own_i ((own_rl nA va vb).count p0))), .val (.int (own_bt p0 (own_rl nA va vb))), .val (.int (own_bt p0 ((own_rl nA va vb).erase p0))), .val (.ref b9), .val (.int (own_i ((own_fl z8 vf) ++ own_e1 nA va p0).length)), .unset] []))
                                have s327 : ∀ (T_s327 : State) (L_s327 : List Loc) (m17 : Int32), Stand p l e room_1 s m #[(.int p0), (.int p1), (.int p2), (.int p3), (.int p4)] below meth c T_s327 L_s327 9 28 → Fr n0 L_s327 → n0 ≤ T_s327.heap.size → own_Tab Z n0 N b2 ta ca fa i T_s327.heap r8 rr8 k8 kk8 x8 xx8 vs8 us8 → Arv Z T_s327.heap b9 k9 .int (3 : Int32) (own_iv (own_pad (((own_fl z8 vf) ++ own_e1 nA va p0) ++ own_e2 nA vb p0))) (.int (0 : Int32)) → m17 = own_i (((own_fl z8 vf) ++ own_e1 nA va p0) ++ own_e2 nA vb p0).length → own_Go p.tables e below s (Q0 p0 p1 p2 p3 p4 h0 n0) room_1.cells room_1.slots (T_s327.setTop (mkF m 327 #[.val (.int p0), .val (.int p1), .val (.int p2), .val (.int p3), .val (.int p4), .val (.int va), .val (.int vb), .val (.int vf), .val (.int z8), .val (.int (own_i nA)), .val (.int z10), .val (.int i), .val (.ref b2), .val (.int (own_i ((own_rl nA va vb).count p0))), .val (.int (own_bt p0 (own_rl nA va vb))), .val (.int (own_bt p0 ((own_rl nA va vb).erase p0))), .val (.ref b9), .val (.int m17), .unset] [])) := by
                                  intro T_s327 L_s327 m17 X_s327 N_s327 Z_s327 TB_s327 Ve_s327 hm17
                                  subst hm17
                                  show own_Go p.tables e below s _ _ _ (T_s327.setTop (mkF m 327 #[.val (.int p0), .val (.int p1), .val (.int p2), .val (.int p3), .val (.int p4), .val (.int va), .val (.int vb), .val (.int vf), .val (.int z8), .val (.int (own_i nA)), .val (.int z10), .val (.int i), .val (.ref b2), .val (.int (own_i ((own_rl nA va vb).count p0))), .val (.int (own_bt p0 (own_rl nA va vb))), .val (.int (own_bt p0 ((own_rl nA va vb).erase p0))), .val (.ref b9), .val (.int (own_i (((own_fl z8 vf) ++ own_e1 nA va p0) ++ own_e2 nA vb p0).length)), .unset] []))
                                  refine own_by (fun _ kz => XS.aload X_s327.here hx rfl (hb hby at_327) rfl rfl kz) ?_
                                  show own_Go p.tables e below s _ _ _ (T_s327.setTop (mkF m 329 #[.val (.int p0), .val (.int p1), .val (.int p2), .val (.int p3), .val (.int p4), .val (.int va), .val (.int vb), .val (.int vf), .val (.int z8), .val (.int (own_i nA)), .val (.int z10), .val (.int i), .val (.ref b2), .val (.int (own_i ((own_rl nA va vb).count p0))), .val (.int (own_bt p0 (own_rl nA va vb))), .val (.int (own_bt p0 ((own_rl nA va vb).erase p0))), .val (.ref b9), .val (.int (own_i (((own_fl z8 vf) ++ own_e1 nA va p0) ++ own_e2 nA vb p0).length)), .unset] [(.ref b2)]))
                                  refine own_by (fun _ kz => XS.iload X_s327.here hx rfl (hb hby at_329) rfl kz) ?_
                                  show own_Go p.tables e below s _ _ _ (T_s327.setTop (mkF m 331 #[.val (.int p0), .val (.int p1), .val (.int p2), .val (.int p3), .val (.int p4), .val (.int va), .val (.int vb), .val (.int vf), .val (.int z8), .val (.int (own_i nA)), .val (.int z10), .val (.int i), .val (.ref b2), .val (.int (own_i ((own_rl nA va vb).count p0))), .val (.int (own_bt p0 (own_rl nA va vb))), .val (.int (own_bt p0 ((own_rl nA va vb).erase p0))), .val (.ref b9), .val (.int (own_i (((own_fl z8 vf) ++ own_e1 nA va p0) ++ own_e2 nA vb p0).length)), .unset] [(.int i), (.ref b2)]))
                                  obtain ⟨v10, T10, L10, X10, q10, st10⟩ := own_callV X_s327 hx hZ hown (hw _ (List.mem_of_getElem? (i := 34) rfl)) (hw _ (List.mem_of_getElem? (i := 35) rfl)) (hw _ (List.mem_of_getElem? (i := 37) rfl)) (hw _ (List.mem_of_getElem? (i := 36) rfl)) (hw _ (List.mem_of_getElem? (i := 6) rfl)) (hw _ (List.mem_of_getElem? (i := 38) rfl)) (by decide) (rm6 l Z a0 hw [] b2 i T_s327.heap n0 Z_s327 N ta ca fa r8 rr8 k8 kk8 x8 xx8 vs8 us8 hi TB_s327) (W := 0) (by decide) (by decide) rfl TB_s327.exa (g := (mkF m 331 #[.val (.int p0), .val (.int p1), .val (.int p2), .val (.int p3), .val (.int p4), .val (.int va), .val (.int vb), .val (.int vf), .val (.int z8), .val (.int (own_i nA)), .val (.int z10), .val (.int i), .val (.ref b2), .val (.int (own_i ((own_rl nA va vb).count p0))), .val (.int (own_bt p0 (own_rl nA va vb))), .val (.int (own_bt p0 ((own_rl nA va vb).erase p0))), .val (.ref b9), .val (.int (own_i (((own_fl z8 vf) ++ own_e1 nA va p0) ++ own_e2 nA vb p0).length)), .unset] [(.int i), (.ref b2)])) rfl (by rw [hml]; rfl) (argsL := [(.int i)]) (rest := []) (lenOf pd_6 rfl) rfl rfl (by show 2 * 0 + _ ≤ _; exact Nat.le_of_eq rfl) (hb hby at_331) (by decide) (by decide)
                                  obtain ⟨rfl, Nq10, hh10⟩ := q10
                                  have N10 := Fr.app N_s327 Nq10
                                  refine own_by st10 ?_
                                  show own_Go p.tables e below s _ _ _ (T10.setTop (mkF m 334 #[.val (.int p0), .val (.int p1), .val (.int p2), .val (.int p3), .val (.int p4), .val (.int va), .val (.int vb), .val (.int vf), .val (.int z8), .val (.int (own_i nA)), .val (.int z10), .val (.int i), .val (.ref b2), .val (.int (own_i ((own_rl nA va vb).count p0))), .val (.int (own_bt p0 (own_rl nA va vb))), .val (.int (own_bt p0 ((own_rl nA va vb).erase p0))), .val (.ref b9), .val (.int (own_i (((own_fl z8 vf) ++ own_e1 nA va p0) ++ own_e2 nA vb p0).length)), .unset] [(.int (own_i k8))]))
                                  refine own_by (fun _ kz => XS.iload X10.here hx rfl (hb hby at_334) rfl kz) ?_
                                  show own_Go p.tables e below s _ _ _ (T10.setTop (mkF m 336 #[.val (.int p0), .val (.int p1), .val (.int p2), .val (.int p3), .val (.int p4), .val (.int va), .val (.int vb), .val (.int vf), .val (.int z8), .val (.int (own_i nA)), .val (.int z10), .val (.int i), .val (.ref b2), .val (.int (own_i ((own_rl nA va vb).count p0))), .val (.int (own_bt p0 (own_rl nA va vb))), .val (.int (own_bt p0 ((own_rl nA va vb).erase p0))), .val (.ref b9), .val (.int (own_i (((own_fl z8 vf) ++ own_e1 nA va p0) ++ own_e2 nA vb p0).length)), .unset] [(.int (own_i (((own_fl z8 vf) ++ own_e1 nA va p0) ++ own_e2 nA vb p0).length)), (.int (own_i k8))]))
                                  refine own_by (fun _ kz => XS.icmpYes X10.here hx rfl (pc0 := 336) (pc' := 341) rfl (hb hby at_336) rfl (teq (show (own_i k8) = (own_i (((own_fl z8 vf) ++ own_e1 nA va p0) ++ own_e2 nA vb p0).length) by rw [hk3])).1 (by decide) (by decide) kz) ?_
                                  show own_Go p.tables e below s _ _ _ (T10.setTop (mkF m 341 #[.val (.int p0), .val (.int p1), .val (.int p2), .val (.int p3), .val (.int p4), .val (.int va), .val (.int vb), .val (.int vf), .val (.int z8), .val (.int (own_i nA)), .val (.int z10), .val (.int i), .val (.ref b2), .val (.int (own_i ((own_rl nA va vb).count p0))), .val (.int (own_bt p0 (own_rl nA va vb))), .val (.int (own_bt p0 ((own_rl nA va vb).erase p0))), .val (.ref b9), .val (.int (own_i (((own_fl z8 vf) ++ own_e1 nA va p0) ++ own_e2 nA vb p0).length)), .unset] []))
                                  refine own_by (fun _ kz => XS.iconst X10.here hx rfl (hb hby at_341) kz) ?_
                                  show own_Go p.tables e below s _ _ _ (T10.setTop (mkF m 342 #[.val (.int p0), .val (.int p1), .val (.int p2), .val (.int p3), .val (.int p4), .val (.int va), .val (.int vb), .val (.int vf), .val (.int z8), .val (.int (own_i nA)), .val (.int z10), .val (.int i), .val (.ref b2), .val (.int (own_i ((own_rl nA va vb).count p0))), .val (.int (own_bt p0 (own_rl nA va vb))), .val (.int (own_bt p0 ((own_rl nA va vb).erase p0))), .val (.ref b9), .val (.int (own_i (((own_fl z8 vf) ++ own_e1 nA va p0) ++ own_e2 nA vb p0).length)), .unset] [(.int (3 : Int32))]))
                                  obtain ⟨T11, h11, k11, X11, e11, E11, A11, st11⟩ := newP X10 hx hZ (hw _ (List.mem_of_getElem? (i := 24) rfl)) hh10 (g := (mkF m 342 #[.val (.int p0), .val (.int p1), .val (.int p2), .val (.int p3), .val (.int p4), .val (.int va), .val (.int vb), .val (.int vf), .val (.int z8), .val (.int (own_i nA)), .val (.int z10), .val (.int i), .val (.ref b2), .val (.int (own_i ((own_rl nA va vb).count p0))), .val (.int (own_bt p0 (own_rl nA va vb))), .val (.int (own_bt p0 ((own_rl nA va vb).erase p0))), .val (.ref b9), .val (.int (own_i (((own_fl z8 vf) ++ own_e1 nA va p0) ++ own_e2 nA vb p0).length)), .unset] [(.int (3 : Int32))])) rfl (hb hby at_342) rfl (by decide) (cap := 3) (by decide) (by decide) (by decide) (by decide)
                                  obtain ⟨b11, g11⟩ : ∃ z, z = T_s327.heap.size := ⟨_, rfl⟩
                                  rw [← g11] at A11 st11
                                  have ge_b11 : n0 ≤ b11 := Nat.le_trans Z_s327 (Nat.le_of_eq g11.symm)
                                  have Z11 : n0 ≤ h11.size := Nat.le_trans Z_s327 E11.1
                                  have V11 : Arv Z h11 b11 k11 .int (3 : Int32) [(.int (0 : Int32)), (.int (0 : Int32)), (.int (0 : Int32))] (.int (0 : Int32)) := (Arv.new A11 (by decide)).pad (fun i => pad_rep [] _ 3 i)
                                  have TBn11 := TB_s327.ext E11
                                  have frs11 := TB_s327.fresh (Nat.le_of_eq g11.symm)
                                  have Ven11 := Ve_s327.ext E11
                                  have neg : b9 ≠ b11 := by rw [g11]; exact Nat.ne_of_lt Ve_s327.lt
                                  rw [← e11] at TBn11 Z11 V11 Ven11
                                  refine own_by st11 ?_
                                  show own_Go p.tables e below s _ _ _ (T11.setTop (mkF m 344 #[.val (.int p0), .val (.int p1), .val (.int p2), .val (.int p3), .val (.int p4), .val (.int va), .val (.int vb), .val (.int vf), .val (.int z8), .val (.int (own_i nA)), .val (.int z10), .val (.int i), .val (.ref b2), .val (.int (own_i ((own_rl nA va vb).count p0))), .val (.int (own_bt p0 (own_rl nA va vb))), .val (.int (own_bt p0 ((own_rl nA va vb).erase p0))), .val (.ref b9), .val (.int (own_i (((own_fl z8 vf) ++ own_e1 nA va p0) ++ own_e2 nA vb p0).length)), .unset] [(.ref b11)]))
                                  refine own_by (fun _ kz => XS.astore X11.here hx rfl (hb hby at_344) rfl rfl (l' := #[.val (.int p0), .val (.int p1), .val (.int p2), .val (.int p3), .val (.int p4), .val (.int va), .val (.int vb), .val (.int vf), .val (.int z8), .val (.int (own_i nA)), .val (.int z10), .val (.int i), .val (.ref b2), .val (.int (own_i ((own_rl nA va vb).count p0))), .val (.int (own_bt p0 (own_rl nA va vb))), .val (.int (own_bt p0 ((own_rl nA va vb).erase p0))), .val (.ref b9), .val (.int (own_i (((own_fl z8 vf) ++ own_e1 nA va p0) ++ own_e2 nA vb p0).length)), .val (.ref b11)]) rfl kz) ?_
                                  show own_Go p.tables e below s _ _ _ (T11.setTop (mkF m 346 #[.val (.int p0), .val (.int p1), .val (.int p2), .val (.int p3), .val (.int p4), .val (.int va), .val (.int vb), .val (.int vf), .val (.int z8), .val (.int (own_i nA)), .val (.int z10), .val (.int i), .val (.ref b2), .val (.int (own_i ((own_rl nA va vb).count p0))), .val (.int (own_bt p0 (own_rl nA va vb))), .val (.int (own_bt p0 ((own_rl nA va vb).erase p0))), .val (.ref b9), .val (.int (own_i (((own_fl z8 vf) ++ own_e1 nA va p0) ++ own_e2 nA vb p0).length)), .val (.ref b11)] []))
                                  have hM : (((own_fl z8 vf) ++ own_e1 nA va p0) ++ own_e2 nA vb p0).length ≤ 3 := by rw [← hk3]; exact H8.2.2.1
                                  have s363 : ∀ (T_s363 : State) (L_s363 : List Loc), Stand p l e room_1 s m #[(.int p0), (.int p1), (.int p2), (.int p3), (.int p4)] below meth c T_s363 L_s363 10 31 → Fr n0 L_s363 → n0 ≤ T_s363.heap.size → own_Tab Z n0 N b2 ta ca fa i T_s363.heap r8 rr8 k8 kk8 x8 xx8 vs8 us8 → Arv Z T_s363.heap b9 k9 .int (3 : Int32) (own_iv (own_pad (((own_fl z8 vf) ++ own_e1 nA va p0) ++ own_e2 nA vb p0))) (.int (0 : Int32)) → Arv Z T_s363.heap b11 k11 .int (3 : Int32) [(.int (if 0 < k8 then vs8.getD 0 0 else 0)), (.int (0 : Int32)), (.int (0 : Int32))] (.int (0 : Int32)) → own_Go p.tables e below s (Q0 p0 p1 p2 p3 p4 h0 n0) room_1.cells room_1.slots (T_s363.setTop (mkF m 363 #[.val (.int p0), .val (.int p1), .val (.int p2), .val (.int p3), .val (.int p4), .val (.int va), .val (.int vb), .val (.int vf), .val (.int z8), .val (.int (own_i nA)), .val (.int z10), .val (.int i), .val (.ref b2), .val (.int (own_i ((own_rl nA va vb).count p0))), .val (.int (own_bt p0 (own_rl nA va vb))), .val (.int (own_bt p0 ((own_rl nA va vb).erase p0))), .val (.ref b9), .val (.int (own_i (((own_fl z8 vf) ++ own_e1 nA va p0) ++ own_e2 nA vb p0).length)), .val (.ref b11)] [])) := by
                                    intro T_s363 L_s363  X_s363 N_s363 Z_s363 TB_s363 Ve_s363 Vg_s363
                                    have s381 : ∀ (T_s381 : State) (L_s381 : List Loc), Stand p l e room_1 s m #[(.int p0), (.int p1), (.int p2), (.int p3), (.int p4)] below meth c T_s381 L_s381 10 31 → Fr n0 L_s381 → n0 ≤ T_s381.heap.size → own_Tab Z n0 N b2 ta ca fa i T_s381.heap r8 rr8 k8 kk8 x8 xx8 vs8 us8 → Arv Z T_s381.heap b9 k9 .int (3 : Int32) (own_iv (own_pad (((own_fl z8 vf) ++ own_e1 nA va p0) ++ own_e2 nA vb p0))) (.int (0 : Int32)) → Arv Z T_s381.heap b11 k11 .int (3 : Int32) [(.int (if 0 < k8 then vs8.getD 0 0 else 0)), (.int (if 1 < k8 then vs8.getD 1 0 else 0)), (.int (0 : Int32))] (.int (0 : Int32)) → own_Go p.tables e below s (Q0 p0 p1 p2 p3 p4 h0 n0) room_1.cells room_1.slots (T_s381.setTop (mkF m 381 #[.val (.int p0), .val (.int p1), .val (.int p2), .val (.int p3), .val (.int p4), .val (.int va), .val (.int vb), .val (.int vf), .val (.int z8), .val (.int (own_i nA)), .val (.int z10), .val (.int i), .val (.ref b2), .val (.int (own_i ((own_rl nA va vb).count p0))), .val (.int (own_bt p0 (own_rl nA va vb))), .val (.int (own_bt p0 ((own_rl nA va vb).erase p0))), .val (.ref b9), .val (.int (own_i (((own_fl z8 vf) ++ own_e1 nA va p0) ++ own_e2 nA vb p0).length)), .val (.ref b11)] [])) := by
                                      intro T_s381 L_s381  X_s381 N_s381 Z_s381 TB_s381 Ve_s381 Vg_s381
                                      have s399 : ∀ (T_s399 : State) (L_s399 : List Loc), Stand p l e room_1 s m #[(.int p0), (.int p1), (.int p2), (.int p3), (.int p4)] below meth c T_s399 L_s399 10 31 → Fr n0 L_s399 → n0 ≤ T_s399.heap.size → own_Tab Z n0 N b2 ta ca fa i T_s399.heap r8 rr8 k8 kk8 x8 xx8 vs8 us8 → Arv Z T_s399.heap b9 k9 .int (3 : Int32) (own_iv (own_pad (((own_fl z8 vf) ++ own_e1 nA va p0) ++ own_e2 nA vb p0))) (.int (0 : Int32)) → Arv Z T_s399.heap b11 k11 .int (3 : Int32) [(.int (if 0 < k8 then vs8.getD 0 0 else 0)), (.int (if 1 < k8 then vs8.getD 1 0 else 0)), (.int (if 2 < k8 then vs8.getD 2 0 else 0))] (.int (0 : Int32)) → own_Go p.tables e below s (Q0 p0 p1 p2 p3 p4 h0 n0) room_1.cells room_1.slots (T_s399.setTop (mkF m 399 #[.val (.int p0), .val (.int p1), .val (.int p2), .val (.int p3), .val (.int p4), .val (.int va), .val (.int vb), .val (.int vf), .val (.int z8), .val (.int (own_i nA)), .val (.int z10), .val (.int i), .val (.ref b2), .val (.int (own_i ((own_rl nA va vb).count p0))), .val (.int (own_bt p0 (own_rl nA va vb))), .val (.int (own_bt p0 ((own_rl nA va vb).erase p0))), .val (.ref b9), .val (.int (own_i (((own_fl z8 vf) ++ own_e1 nA va p0) ++ own_e2 nA vb p0).length)), .val (.ref b11)] [])) := by
                                        intro T_s399 L_s399  X_s399 N_s399 Z_s399 TB_s399 Ve_s399 Vg_s399
                                        refine own_by (fun _ kz => XS.aload X_s399.here hx rfl (hb hby at_399) rfl rfl kz) ?_
                                        show own_Go p.tables e below s _ _ _ (T_s399.setTop (mkF m 401 #[.val (.int p0), .val (.int p1), .val (.int p2), .val (.int p3), .val (.int p4), .val (.int va), .val (.int vb), .val (.int vf), .val (.int z8), .val (.int (own_i nA)), .val (.int z10), .val (.int i), .val (.ref b2), .val (.int (own_i ((own_rl nA va vb).count p0))), .val (.int (own_bt p0 (own_rl nA va vb))), .val (.int (own_bt p0 ((own_rl nA va vb).erase p0))), .val (.ref b9), .val (.int (own_i (((own_fl z8 vf) ++ own_e1 nA va p0) ++ own_e2 nA vb p0).length)), .val (.ref b11)] [(.ref b9)]))
                                        obtain ⟨y0, y1, y2, hy3⟩ := own_three _ (own_pad_len (((own_fl z8 vf) ++ own_e1 nA va p0) ++ own_e2 nA vb p0))
                                        have Vey := Ve_s399
                                        rw [hy3] at Vey
                                        have hS : own_s3 y0 y1 y2 = own_s3 (if 0 < k8 then vs8.getD 0 0 else 0) (if 1 < k8 then vs8.getD 1 0 else 0) (if 2 < k8 then vs8.getD 2 0 else 0) := by
                                          refine own_s3_perm ?_
                                          rw [← own_pad_take H8.1 H8.2.2.1, ← hy3]
                                          exact own_pad_perm hP hM
                                        obtain ⟨v12, T12, L12, X12, q12, st12⟩ := own_callS X_s399 hx hZ hown (hw _ (List.mem_of_getElem? (i := 39) rfl)) (hw _ (List.mem_of_getElem? (i := 40) rfl)) (hw _ (List.mem_of_getElem? (i := 41) rfl)) (hw _ (List.mem_of_getElem? (i := 42) rfl)) (by decide) (rm7 l Z a0 hw [] b9 T_s399.heap n0 Z_s399 k9 y0 y1 y2 Vey ge_b9) (W := 0) (by decide) (by decide) rfl (g := (mkF m 401 #[.val (.int p0), .val (.int p1), .val (.int p2), .val (.int p3), .val (.int p4), .val (.int va), .val (.int vb), .val (.int vf), .val (.int z8), .val (.int (own_i nA)), .val (.int z10), .val (.int i), .val (.ref b2), .val (.int (own_i ((own_rl nA va vb).count p0))), .val (.int (own_bt p0 (own_rl nA va vb))), .val (.int (own_bt p0 ((own_rl nA va vb).erase p0))), .val (.ref b9), .val (.int (own_i (((own_fl z8 vf) ++ own_e1 nA va p0) ++ own_e2 nA vb p0).length)), .val (.ref b11)] [(.ref b9)])) rfl (by rw [hml]; rfl) (argsL := [(.ref b9)]) (rest := []) (lenOf pd_7 rfl) rfl rfl (by show 2 * 0 + _ ≤ _; exact Nat.le_of_eq rfl) (hb hby at_401) (by decide) (by decide)
                                        obtain ⟨rfl, Nq12, Kq12, Vq12⟩ := q12
                                        have N12 := Fr.app N_s399 Nq12
                                        have Z12 : n0 ≤ T12.heap.size := Nat.le_trans Z_s399 Kq12.1
                                        have Vg_s399_h12 := Vg_s399.keep Kq12 (ninS (Ne.symm neg) nin0)
                                        refine own_by st12 ?_
                                        show own_Go p.tables e below s _ _ _ (T12.setTop (mkF m 404 #[.val (.int p0), .val (.int p1), .val (.int p2), .val (.int p3), .val (.int p4), .val (.int va), .val (.int vb), .val (.int vf), .val (.int z8), .val (.int (own_i nA)), .val (.int z10), .val (.int i), .val (.ref b2), .val (.int (own_i ((own_rl nA va vb).count p0))), .val (.int (own_bt p0 (own_rl nA va vb))), .val (.int (own_bt p0 ((own_rl nA va vb).erase p0))), .val (.ref b9), .val (.int (own_i (((own_fl z8 vf) ++ own_e1 nA va p0) ++ own_e2 nA vb p0).length)), .val (.ref b11)] []))
                                        refine own_by (fun _ kz => XS.aload X12.here hx rfl (hb hby at_404) rfl rfl kz) ?_
                                        show own_Go p.tables e below s _ _ _ (T12.setTop (mkF m 406 #[.val (.int p0), .val (.int p1), .val (.int p2), .val (.int p3), .val (.int p4), .val (.int va), .val (.int vb), .val (.int vf), .val (.int z8), .val (.int (own_i nA)), .val (.int z10), .val (.int i), .val (.ref b2), .val (.int (own_i ((own_rl nA va vb).count p0))), .val (.int (own_bt p0 (own_rl nA va vb))), .val (.int (own_bt p0 ((own_rl nA va vb).erase p0))), .val (.ref b9), .val (.int (own_i (((own_fl z8 vf) ++ own_e1 nA va p0) ++ own_e2 nA vb p0).length)), .val (.ref b11)] [(.ref b11)]))
                                        obtain ⟨v13, T13, L13, X13, q13, st13⟩ := own_callS X12 hx hZ hown (hw _ (List.mem_of_getElem? (i := 39) rfl)) (hw _ (List.mem_of_getElem? (i := 40) rfl)) (hw _ (List.mem_of_getElem? (i := 41) rfl)) (hw _ (List.mem_of_getElem? (i := 42) rfl)) (by decide) (rm7 l Z a0 hw [] b11 T12.heap n0 Z12 k11 (if 0 < k8 then vs8.getD 0 0 else 0) (if 1 < k8 then vs8.getD 1 0 else 0) (if 2 < k8 then vs8.getD 2 0 else 0) Vg_s399_h12 ge_b11) (W := 0) (by decide) (by decide) rfl (g := (mkF m 406 #[.val (.int p0), .val (.int p1), .val (.int p2), .val (.int p3), .val (.int p4), .val (.int va), .val (.int vb), .val (.int vf), .val (.int z8), .val (.int (own_i nA)), .val (.int z10), .val (.int i), .val (.ref b2), .val (.int (own_i ((own_rl nA va vb).count p0))), .val (.int (own_bt p0 (own_rl nA va vb))), .val (.int (own_bt p0 ((own_rl nA va vb).erase p0))), .val (.ref b9), .val (.int (own_i (((own_fl z8 vf) ++ own_e1 nA va p0) ++ own_e2 nA vb p0).length)), .val (.ref b11)] [(.ref b11)])) rfl (by rw [hml]; rfl) (argsL := [(.ref b11)]) (rest := []) (lenOf pd_7 rfl) rfl rfl (by show 2 * 0 + _ ≤ _; exact Nat.le_of_eq rfl) (hb hby at_406) (by decide) (by decide)
                                        obtain ⟨rfl, Nq13, Kq13, Vq13⟩ := q13
                                        have N13 := Fr.app N12 Nq13
                                        have Z13 : n0 ≤ T13.heap.size := Nat.le_trans Z12 Kq13.1
                                        have Vq12_h13 := Vq12.keep Kq13 (ninS neg nin0)
                                        refine own_by st13 ?_
                                        show own_Go p.tables e below s _ _ _ (T13.setTop (mkF m 409 #[.val (.int p0), .val (.int p1), .val (.int p2), .val (.int p3), .val (.int p4), .val (.int va), .val (.int vb), .val (.int vf), .val (.int z8), .val (.int (own_i nA)), .val (.int z10), .val (.int i), .val (.ref b2), .val (.int (own_i ((own_rl nA va vb).count p0))), .val (.int (own_bt p0 (own_rl nA va vb))), .val (.int (own_bt p0 ((own_rl nA va vb).erase p0))), .val (.ref b9), .val (.int (own_i (((own_fl z8 vf) ++ own_e1 nA va p0) ++ own_e2 nA vb p0).length)), .val (.ref b11)] []))
                                        refine own_by (fun _ kz => XS.aload X13.here hx rfl (hb hby at_409) rfl rfl kz) ?_
                                        show own_Go p.tables e below s _ _ _ (T13.setTop (mkF m 411 #[.val (.int p0), .val (.int p1), .val (.int p2), .val (.int p3), .val (.int p4), .val (.int va), .val (.int vb), .val (.int vf), .val (.int z8), .val (.int (own_i nA)), .val (.int z10), .val (.int i), .val (.ref b2), .val (.int (own_i ((own_rl nA va vb).count p0))), .val (.int (own_bt p0 (own_rl nA va vb))), .val (.int (own_bt p0 ((own_rl nA va vb).erase p0))), .val (.ref b9), .val (.int (own_i (((own_fl z8 vf) ++ own_e1 nA va p0) ++ own_e2 nA vb p0).length)), .val (.ref b11)] [(.ref b9)]))
                                        refine own_by (fun _ kz => XS.iconst X13.here hx rfl (hb hby at_411) kz) ?_
                                        show own_Go p.tables e below s _ _ _ (T13.setTop (mkF m 412 #[.val (.int p0), .val (.int p1), .val (.int p2), .val (.int p3), .val (.int p4), .val (.int va), .val (.int vb), .val (.int vf), .val (.int z8), .val (.int (own_i nA)), .val (.int z10), .val (.int i), .val (.ref b2), .val (.int (own_i ((own_rl nA va vb).count p0))), .val (.int (own_bt p0 (own_rl nA va vb))), .val (.int (own_bt p0 ((own_rl nA va vb).erase p0))), .val (.ref b9), .val (.int (own_i (((own_fl z8 vf) ++ own_e1 nA va p0) ++ own_e2 nA vb p0).length)), .val (.ref b11)] [(.int (0 : Int32)), (.ref b9)]))
                                        obtain ⟨cl14, Ar14, qk14, Sz14, Nn14, Hs14, Gt14⟩ := id Vq12_h13
                                        have hin14 : ¬ ((0 : Int32) < 0 ∨ cl14.slots.size ≤ ((0 : Int32)).toNatClampNeg) := inb_of Sz14 ⟨by decide, by decide⟩
                                        refine own_by (fun _ kz => X13.iaload hx (j := (0 : Int32)) (v := (.int (own_s3 y0 y1 y2).1)) (Ar14.1) (State.isArrayOf_alike hZ.alike Ar14.2.1) Ar14.2.2 hin14 (Hs14.at hin14 rfl) (g := (mkF m 412 #[.val (.int p0), .val (.int p1), .val (.int p2), .val (.int p3), .val (.int p4), .val (.int va), .val (.int vb), .val (.int vf), .val (.int z8), .val (.int (own_i nA)), .val (.int z10), .val (.int i), .val (.ref b2), .val (.int (own_i ((own_rl nA va vb).count p0))), .val (.int (own_bt p0 (own_rl nA va vb))), .val (.int (own_bt p0 ((own_rl nA va vb).erase p0))), .val (.ref b9), .val (.int (own_i (((own_fl z8 vf) ++ own_e1 nA va p0) ++ own_e2 nA vb p0).length)), .val (.ref b11)] [(.int (0 : Int32)), (.ref b9)])) rfl rfl (hb hby at_412) _ kz) ?_
                                        show own_Go p.tables e below s _ _ _ (T13.setTop (mkF m 413 #[.val (.int p0), .val (.int p1), .val (.int p2), .val (.int p3), .val (.int p4), .val (.int va), .val (.int vb), .val (.int vf), .val (.int z8), .val (.int (own_i nA)), .val (.int z10), .val (.int i), .val (.ref b2), .val (.int (own_i ((own_rl nA va vb).count p0))), .val (.int (own_bt p0 (own_rl nA va vb))), .val (.int (own_bt p0 ((own_rl nA va vb).erase p0))), .val (.ref b9), .val (.int (own_i (((own_fl z8 vf) ++ own_e1 nA va p0) ++ own_e2 nA vb p0).length)), .val (.ref b11)] [(.int (own_s3 y0 y1 y2).1)]))
                                        refine own_by (fun _ kz => XS.aload X13.here hx rfl (hb hby at_413) rfl rfl kz) ?_
                                        show own_Go p.tables e below s _ _ _ (T13.setTop (mkF m 415 #[.val (.int p0), .val (.int p1), .val (.int p2), .val (.int p3), .val (.int p4), .val (.int va), .val (.int vb), .val (.int vf), .val (.int z8), .val (.int (own_i nA)), .val (.int z10), .val (.int i), .val (.ref b2), .val (.int (own_i ((own_rl nA va vb).count p0))), .val (.int (own_bt p0 (own_rl nA va vb))), .val (.int (own_bt p0 ((own_rl nA va vb).erase p0))), .val (.ref b9), .val (.int (own_i (((own_fl z8 vf) ++ own_e1 nA va p0) ++ own_e2 nA vb p0).length)), .val (.ref b11)] [(.ref b11), (.int (own_s3 y0 y1 y2).1)]))
                                        refine own_by (fun _ kz => XS.iconst X13.here hx rfl (hb hby at_415) kz) ?_
                                        show own_Go p.tables e below s _ _ _ (T13.setTop (mkF m 416 #[.val (.int p0), .val (.int p1), .val (.int p2), .val (.int p3), .val (.int p4), .val (.int va), .val (.int vb), .val (.int vf), .val (.int z8), .val (.int (own_i nA)), .val (.int z10), .val (.int i), .val (.ref b2), .val (.int (own_i ((own_rl nA va vb).count p0))), .val (.int (own_bt p0 (own_rl nA va vb))), .val (.int (own_bt p0 ((own_rl nA va vb).erase p0))), .val (.ref b9), .val (.int (own_i (((own_fl z8 vf) ++ own_e1 nA va p0) ++ own_e2 nA vb p0).length)), .val (.ref b11)] [(.int (0 : Int32)), (.ref b11), (.int (own_s3 y0 y1 y2).1)]))
                                        obtain ⟨cl15, Ar15, qk15, Sz15, Nn15, Hs15, Gt15⟩ := id Vq13
                                        have hin15 : ¬ ((0 : Int32) < 0 ∨ cl15.slots.size ≤ ((0 : Int32)).toNatClampNeg) := inb_of Sz15 ⟨by decide, by decide⟩
                                        refine own_by (fun _ kz => X13.iaload hx (j := (0 : Int32)) (v := (.int (own_s3 (if 0 < k8 then vs8.getD 0 0 else 0) (if 1 < k8 then vs8.getD 1 0 else 0) (if 2 < k8 then vs8.getD 2 0 else 0)).1)) (Ar15.1) (State.isArrayOf_alike hZ.alike Ar15.2.1) Ar15.2.2 hin15 (Hs15.at hin15 rfl) (g := (mkF m 416 #[.val (.int p0), .val (.int p1), .val (.int p2), .val (.int p3), .val (.int p4), .val (.int va), .val (.int vb), .val (.int vf), .val (.int z8), .val (.int (own_i nA)), .val (.int z10), .val (.int i), .val (.ref b2), .val (.int (own_i ((own_rl nA va vb).count p0))), .val (.int (own_bt p0 (own_rl nA va vb))), .val (.int (own_bt p0 ((own_rl nA va vb).erase p0))), .val (.ref b9), .val (.int (own_i (((own_fl z8 vf) ++ own_e1 nA va p0) ++ own_e2 nA vb p0).length)), .val (.ref b11)] [(.int (0 : Int32)), (.ref b11), (.int (own_s3 y0 y1 y2).1)])) rfl rfl (hb hby at_416) _ kz) ?_
                                        show own_Go p.tables e below s _ _ _ (T13.setTop (mkF m 417 #[.val (.int p0), .val (.int p1), .val (.int p2), .val (.int p3), .val (.int p4), .val (.int va), .val (.int vb), .val (.int vf), .val (.int z8), .val (.int (own_i nA)), .val (.int z10), .val (.int i), .val (.ref b2), .val (.int (own_i ((own_rl nA va vb).count p0))), .val (.int (own_bt p0 (own_rl nA va vb))), .val (.int (own_bt p0 ((own_rl nA va vb).erase p0))), .val (.ref b9), .val (.int (own_i (((own_fl z8 vf) ++ own_e1 nA va p0) ++ own_e2 nA vb p0).length)), .val (.ref b11)] [(.int (own_s3 (if 0 < k8 then vs8.getD 0 0 else 0) (if 1 < k8 then vs8.getD 1 0 else 0) (if 2 < k8 then vs8.getD 2 0 else 0)).1), (.int (own_s3 y0 y1 y2).1)]))
                                        refine own_by (fun _ kz => XS.icmpNo X13.here hx rfl (hb hby at_417) rfl (teq (show (own_s3 y0 y1 y2).1 = (own_s3 (if 0 < k8 then vs8.getD 0 0 else 0) (if 1 < k8 then vs8.getD 1 0 else 0) (if 2 < k8 then vs8.getD 2 0 else 0)).1 by rw [hS])).2 kz) ?_
                                        show own_Go p.tables e below s _ _ _ (T13.setTop (mkF m 420 #[.val (.int p0), .val (.int p1), .val (.int p2), .val (.int p3), .val (.int p4), .val (.int va), .val (.int vb), .val (.int vf), .val (.int z8), .val (.int (own_i nA)), .val (.int z10), .val (.int i), .val (.ref b2), .val (.int (own_i ((own_rl nA va vb).count p0))), .val (.int (own_bt p0 (own_rl nA va vb))), .val (.int (own_bt p0 ((own_rl nA va vb).erase p0))), .val (.ref b9), .val (.int (own_i (((own_fl z8 vf) ++ own_e1 nA va p0) ++ own_e2 nA vb p0).length)), .val (.ref b11)] []))
                                        refine own_by (fun _ kz => XS.aload X13.here hx rfl (hb hby at_420) rfl rfl kz) ?_
                                        show own_Go p.tables e below s _ _ _ (T13.setTop (mkF m 422 #[.val (.int p0), .val (.int p1), .val (.int p2), .val (.int p3), .val (.int p4), .val (.int va), .val (.int vb), .val (.int vf), .val (.int z8), .val (.int (own_i nA)), .val (.int z10), .val (.int i), .val (.ref b2), .val (.int (own_i ((own_rl nA va vb).count p0))), .val (.int (own_bt p0 (own_rl nA va vb))), .val (.int (own_bt p0 ((own_rl nA va vb).erase p0))), .val (.ref b9), .val (.int (own_i (((own_fl z8 vf) ++ own_e1 nA va p0) ++ own_e2 nA vb p0).length)), .val (.ref b11)] [(.ref b9)]))
                                        refine own_by (fun _ kz => XS.iconst X13.here hx rfl (hb hby at_422) kz) ?_
                                        show own_Go p.tables e below s _ _ _ (T13.setTop (mkF m 423 #[.val (.int p0), .val (.int p1), .val (.int p2), .val (.int p3), .val (.int p4), .val (.int va), .val (.int vb), .val (.int vf), .val (.int z8), .val (.int (own_i nA)), .val (.int z10), .val (.int i), .val (.ref b2), .val (.int (own_i ((own_rl nA va vb).count p0))), .val (.int (own_bt p0 (own_rl nA va vb))), .val (.int (own_bt p0 ((own_rl nA va vb).erase p0))), .val (.ref b9), .val (.int (own_i (((own_fl z8 vf) ++ own_e1 nA va p0) ++ own_e2 nA vb p0).length)), .val (.ref b11)] [(.int (1 : Int32)), (.ref b9)]))
                                        obtain ⟨cl16, Ar16, qk16, Sz16, Nn16, Hs16, Gt16⟩ := id Vq12_h13
                                        have hin16 : ¬ ((1 : Int32) < 0 ∨ cl16.slots.size ≤ ((1 : Int32)).toNatClampNeg) := inb_of Sz16 ⟨by decide, by decide⟩
                                        refine own_by (fun _ kz => X13.iaload hx (j := (1 : Int32)) (v := (.int (own_s3 y0 y1 y2).2.1)) (Ar16.1) (State.isArrayOf_alike hZ.alike Ar16.2.1) Ar16.2.2 hin16 (Hs16.at hin16 rfl) (g := (mkF m 423 #[.val (.int p0), .val (.int p1), .val (.int p2), .val (.int p3), .val (.int p4), .val (.int va), .val (.int vb), .val (.int vf), .val (.int z8), .val (.int (own_i nA)), .val (.int z10), .val (.int i), .val (.ref b2), .val (.int (own_i ((own_rl nA va vb).count p0))), .val (.int (own_bt p0 (own_rl nA va vb))), .val (.int (own_bt p0 ((own_rl nA va vb).erase p0))), .val (.ref b9), .val (.int (own_i (((own_fl z8 vf) ++ own_e1 nA va p0) ++ own_e2 nA vb p0).length)), .val (.ref b11)] [(.int (1 : Int32)), (.ref b9)])) rfl rfl (hb hby at_423) _ kz) ?_
                                        show own_Go p.tables e below s _ _ _ (T13.setTop (mkF m 424 #[.val (.int p0), .val (.int p1), .val (.int p2), .val (.int p3), .val (.int p4), .val (.int va), .val (.int vb), .val (.int vf), .val (.int z8), .val (.int (own_i nA)), .val (.int z10), .val (.int i), .val (.ref b2), .val (.int (own_i ((own_rl nA va vb).count p0))), .val (.int (own_bt p0 (own_rl nA va vb))), .val (.int (own_bt p0 ((own_rl nA va vb).erase p0))), .val (.ref b9), .val (.int (own_i (((own_fl z8 vf) ++ own_e1 nA va p0) ++ own_e2 nA vb p0).length)), .val (.ref b11)] [(.int (own_s3 y0 y1 y2).2.1)]))
                                        refine own_by (fun _ kz => XS.aload X13.here hx rfl (hb hby at_424) rfl rfl kz) ?_
                                        show own_Go p.tables e below s _ _ _ (T13.setTop (mkF m 426 #[.val (.int p0), .val (.int p1), .val (.int p2), .val (.int p3), .val (.int p4), .val (.int va), .val (.int vb), .val (.int vf), .val (.int z8), .val (.int (own_i nA)), .val (.int z10), .val (.int i), .val (.ref b2), .val (.int (own_i ((own_rl nA va vb).count p0))), .val (.int (own_bt p0 (own_rl nA va vb))), .val (.int (own_bt p0 ((own_rl nA va vb).erase p0))), .val (.ref b9), .val (.int (own_i (((own_fl z8 vf) ++ own_e1 nA va p0) ++ own_e2 nA vb p0).length)), .val (.ref b11)] [(.ref b11), (.int (own_s3 y0 y1 y2).2.1)]))
                                        refine own_by (fun _ kz => XS.iconst X13.here hx rfl (hb hby at_426) kz) ?_
                                        show own_Go p.tables e below s _ _ _ (T13.setTop (mkF m 427 #[.val (.int p0), .val (.int p1), .val (.int p2), .val (.int p3), .val (.int p4), .val (.int va), .val (.int vb), .val (.int vf), .val (.int z8), .val (.int (own_i nA)), .val (.int z10), .val (.int i), .val (.ref b2), .val (.int (own_i ((own_rl nA va vb).count p0))), .val (.int (own_bt p0 (own_rl nA va vb))), .val (.int (own_bt p0 ((own_rl nA va vb).erase p0))), .val (.ref b9), .val (.int (own_i (((own_fl z8 vf) ++ own_e1 nA va p0) ++ own_e2 nA vb p0).length)), .val (.ref b11)] [(.int (1 : Int32)), (.ref b11), (.int (own_s3 y0 y1 y2).2.1)]))
                                        obtain ⟨cl17, Ar17, qk17, Sz17, Nn17, Hs17, Gt17⟩ := id Vq13
                                        have hin17 : ¬ ((1 : Int32) < 0 ∨ cl17.slots.size ≤ ((1 : Int32)).toNatClampNeg) := inb_of Sz17 ⟨by decide, by decide⟩
                                        refine own_by (fun _ kz => X13.iaload hx (j := (1 : Int32)) (v := (.int (own_s3 (if 0 < k8 then vs8.getD 0 0 else 0) (if 1 < k8 then vs8.getD 1 0 else 0) (if 2 < k8 then vs8.getD 2 0 else 0)).2.1)) (Ar17.1) (State.isArrayOf_alike hZ.alike Ar17.2.1) Ar17.2.2 hin17 (Hs17.at hin17 rfl) (g := (mkF m 427 #[.val (.int p0), .val (.int p1), .val (.int p2), .val (.int p3), .val (.int p4), .val (.int va), .val (.int vb), .val (.int vf), .val (.int z8), .val (.int (own_i nA)), .val (.int z10), .val (.int i), .val (.ref b2), .val (.int (own_i ((own_rl nA va vb).count p0))), .val (.int (own_bt p0 (own_rl nA va vb))), .val (.int (own_bt p0 ((own_rl nA va vb).erase p0))), .val (.ref b9), .val (.int (own_i (((own_fl z8 vf) ++ own_e1 nA va p0) ++ own_e2 nA vb p0).length)), .val (.ref b11)] [(.int (1 : Int32)), (.ref b11), (.int (own_s3 y0 y1 y2).2.1)])) rfl rfl (hb hby at_427) _ kz) ?_
                                        show own_Go p.tables e below s _ _ _ (T13.setTop (mkF m 428 #[.val (.int p0), .val (.int p1), .val (.int p2), .val (.int p3), .val (.int p4), .val (.int va), .val (.int vb), .val (.int vf), .val (.int z8), .val (.int (own_i nA)), .val (.int z10), .val (.int i), .val (.ref b2), .val (.int (own_i ((own_rl nA va vb).count p0))), .val (.int (own_bt p0 (own_rl nA va vb))), .val (.int (own_bt p0 ((own_rl nA va vb).erase p0))), .val (.ref b9), .val (.int (own_i (((own_fl z8 vf) ++ own_e1 nA va p0) ++ own_e2 nA vb p0).length)), .val (.ref b11)] [(.int (own_s3 (if 0 < k8 then vs8.getD 0 0 else 0) (if 1 < k8 then vs8.getD 1 0 else 0) (if 2 < k8 then vs8.getD 2 0 else 0)).2.1), (.int (own_s3 y0 y1 y2).2.1)]))
                                        refine own_by (fun _ kz => XS.icmpNo X13.here hx rfl (hb hby at_428) rfl (teq (show (own_s3 y0 y1 y2).2.1 = (own_s3 (if 0 < k8 then vs8.getD 0 0 else 0) (if 1 < k8 then vs8.getD 1 0 else 0) (if 2 < k8 then vs8.getD 2 0 else 0)).2.1 by rw [hS])).2 kz) ?_
                                        show own_Go p.tables e below s _ _ _ (T13.setTop (mkF m 431 #[.val (.int p0), .val (.int p1), .val (.int p2), .val (.int p3), .val (.int p4), .val (.int va), .val (.int vb), .val (.int vf), .val (.int z8), .val (.int (own_i nA)), .val (.int z10), .val (.int i), .val (.ref b2), .val (.int (own_i ((own_rl nA va vb).count p0))), .val (.int (own_bt p0 (own_rl nA va vb))), .val (.int (own_bt p0 ((own_rl nA va vb).erase p0))), .val (.ref b9), .val (.int (own_i (((own_fl z8 vf) ++ own_e1 nA va p0) ++ own_e2 nA vb p0).length)), .val (.ref b11)] []))
                                        refine own_by (fun _ kz => XS.aload X13.here hx rfl (hb hby at_431) rfl rfl kz) ?_
                                        show own_Go p.tables e below s _ _ _ (T13.setTop (mkF m 433 #[.val (.int p0), .val (.int p1), .val (.int p2), .val (.int p3), .val (.int p4), .val (.int va), .val (.int vb), .val (.int vf), .val (.int z8), .val (.int (own_i nA)), .val (.int z10), .val (.int i), .val (.ref b2), .val (.int (own_i ((own_rl nA va vb).count p0))), .val (.int (own_bt p0 (own_rl nA va vb))), .val (.int (own_bt p0 ((own_rl nA va vb).erase p0))), .val (.ref b9), .val (.int (own_i (((own_fl z8 vf) ++ own_e1 nA va p0) ++ own_e2 nA vb p0).length)), .val (.ref b11)] [(.ref b9)]))
                                        refine own_by (fun _ kz => XS.iconst X13.here hx rfl (hb hby at_433) kz) ?_
                                        show own_Go p.tables e below s _ _ _ (T13.setTop (mkF m 434 #[.val (.int p0), .val (.int p1), .val (.int p2), .val (.int p3), .val (.int p4), .val (.int va), .val (.int vb), .val (.int vf), .val (.int z8), .val (.int (own_i nA)), .val (.int z10), .val (.int i), .val (.ref b2), .val (.int (own_i ((own_rl nA va vb).count p0))), .val (.int (own_bt p0 (own_rl nA va vb))), .val (.int (own_bt p0 ((own_rl nA va vb).erase p0))), .val (.ref b9), .val (.int (own_i (((own_fl z8 vf) ++ own_e1 nA va p0) ++ own_e2 nA vb p0).length)), .val (.ref b11)] [(.int (2 : Int32)), (.ref b9)]))
                                        obtain ⟨cl18, Ar18, qk18, Sz18, Nn18, Hs18, Gt18⟩ := id Vq12_h13
                                        have hin18 : ¬ ((2 : Int32) < 0 ∨ cl18.slots.size ≤ ((2 : Int32)).toNatClampNeg) := inb_of Sz18 ⟨by decide, by decide⟩
                                        refine own_by (fun _ kz => X13.iaload hx (j := (2 : Int32)) (v := (.int (own_s3 y0 y1 y2).2.2)) (Ar18.1) (State.isArrayOf_alike hZ.alike Ar18.2.1) Ar18.2.2 hin18 (Hs18.at hin18 rfl) (g := (mkF m 434 #[.val (.int p0), .val (.int p1), .val (.int p2), .val (.int p3), .val (.int p4), .val (.int va), .val (.int vb), .val (.int vf), .val (.int z8), .val (.int (own_i nA)), .val (.int z10), .val (.int i), .val (.ref b2), .val (.int (own_i ((own_rl nA va vb).count p0))), .val (.int (own_bt p0 (own_rl nA va vb))), .val (.int (own_bt p0 ((own_rl nA va vb).erase p0))), .val (.ref b9), .val (.int (own_i (((own_fl z8 vf) ++ own_e1 nA va p0) ++ own_e2 nA vb p0).length)), .val (.ref b11)] [(.int (2 : Int32)), (.ref b9)])) rfl rfl (hb hby at_434) _ kz) ?_
                                        show own_Go p.tables e below s _ _ _ (T13.setTop (mkF m 435 #[.val (.int p0), .val (.int p1), .val (.int p2), .val (.int p3), .val (.int p4), .val (.int va), .val (.int vb), .val (.int vf), .val (.int z8), .val (.int (own_i nA)), .val (.int z10), .val (.int i), .val (.ref b2), .val (.int (own_i ((own_rl nA va vb).count p0))), .val (.int (own_bt p0 (own_rl nA va vb))), .val (.int (own_bt p0 ((own_rl nA va vb).erase p0))), .val (.ref b9), .val (.int (own_i (((own_fl z8 vf) ++ own_e1 nA va p0) ++ own_e2 nA vb p0).length)), .val (.ref b11)] [(.int (own_s3 y0 y1 y2).2.2)]))
                                        refine own_by (fun _ kz => XS.aload X13.here hx rfl (hb hby at_435) rfl rfl kz) ?_
                                        show own_Go p.tables e below s _ _ _ (T13.setTop (mkF m 437 #[.val (.int p0), .val (.int p1), .val (.int p2), .val (.int p3), .val (.int p4), .val (.int va), .val (.int vb), .val (.int vf), .val (.int z8), .val (.int (own_i nA)), .val (.int z10), .val (.int i), .val (.ref b2), .val (.int (own_i ((own_rl nA va vb).count p0))), .val (.int (own_bt p0 (own_rl nA va vb))), .val (.int (own_bt p0 ((own_rl nA va vb).erase p0))), .val (.ref b9), .val (.int (own_i (((own_fl z8 vf) ++ own_e1 nA va p0) ++ own_e2 nA vb p0).length)), .val (.ref b11)] [(.ref b11), (.int (own_s3 y0 y1 y2).2.2)]))
                                        refine own_by (fun _ kz => XS.iconst X13.here hx rfl (hb hby at_437) kz) ?_
                                        show own_Go p.tables e below s _ _ _ (T13.setTop (mkF m 438 #[.val (.int p0), .val (.int p1), .val (.int p2), .val (.int p3), .val (.int p4), .val (.int va), .val (.int vb), .val (.int vf), .val (.int z8), .val (.int (own_i nA)), .val (.int z10), .val (.int i), .val (.ref b2), .val (.int (own_i ((own_rl nA va vb).count p0))), .val (.int (own_bt p0 (own_rl nA va vb))), .val (.int (own_bt p0 ((own_rl nA va vb).erase p0))), .val (.ref b9), .val (.int (own_i (((own_fl z8 vf) ++ own_e1 nA va p0) ++ own_e2 nA vb p0).length)), .val (.ref b11)] [(.int (2 : Int32)), (.ref b11), (.int (own_s3 y0 y1 y2).2.2)]))
                                        obtain ⟨cl19, Ar19, qk19, Sz19, Nn19, Hs19, Gt19⟩ := id Vq13
                                        have hin19 : ¬ ((2 : Int32) < 0 ∨ cl19.slots.size ≤ ((2 : Int32)).toNatClampNeg) := inb_of Sz19 ⟨by decide, by decide⟩
                                        refine own_by (fun _ kz => X13.iaload hx (j := (2 : Int32)) (v := (.int (own_s3 (if 0 < k8 then vs8.getD 0 0 else 0) (if 1 < k8 then vs8.getD 1 0 else 0) (if 2 < k8 then vs8.getD 2 0 else 0)).2.2)) (Ar19.1) (State.isArrayOf_alike hZ.alike Ar19.2.1) Ar19.2.2 hin19 (Hs19.at hin19 rfl) (g := (mkF m 438 #[.val (.int p0), .val (.int p1), .val (.int p2), .val (.int p3), .val (.int p4), .val (.int va), .val (.int vb), .val (.int vf), .val (.int z8), .val (.int (own_i nA)), .val (.int z10), .val (.int i), .val (.ref b2), .val (.int (own_i ((own_rl nA va vb).count p0))), .val (.int (own_bt p0 (own_rl nA va vb))), .val (.int (own_bt p0 ((own_rl nA va vb).erase p0))), .val (.ref b9), .val (.int (own_i (((own_fl z8 vf) ++ own_e1 nA va p0) ++ own_e2 nA vb p0).length)), .val (.ref b11)] [(.int (2 : Int32)), (.ref b11), (.int (own_s3 y0 y1 y2).2.2)])) rfl rfl (hb hby at_438) _ kz) ?_
                                        show own_Go p.tables e below s _ _ _ (T13.setTop (mkF m 439 #[.val (.int p0), .val (.int p1), .val (.int p2), .val (.int p3), .val (.int p4), .val (.int va), .val (.int vb), .val (.int vf), .val (.int z8), .val (.int (own_i nA)), .val (.int z10), .val (.int i), .val (.ref b2), .val (.int (own_i ((own_rl nA va vb).count p0))), .val (.int (own_bt p0 (own_rl nA va vb))), .val (.int (own_bt p0 ((own_rl nA va vb).erase p0))), .val (.ref b9), .val (.int (own_i (((own_fl z8 vf) ++ own_e1 nA va p0) ++ own_e2 nA vb p0).length)), .val (.ref b11)] [(.int (own_s3 (if 0 < k8 then vs8.getD 0 0 else 0) (if 1 < k8 then vs8.getD 1 0 else 0) (if 2 < k8 then vs8.getD 2 0 else 0)).2.2), (.int (own_s3 y0 y1 y2).2.2)]))
                                        refine own_by (fun _ kz => XS.icmpNo X13.here hx rfl (hb hby at_439) rfl (teq (show (own_s3 y0 y1 y2).2.2 = (own_s3 (if 0 < k8 then vs8.getD 0 0 else 0) (if 1 < k8 then vs8.getD 1 0 else 0) (if 2 < k8 then vs8.getD 2 0 else 0)).2.2 by rw [hS])).2 kz) ?_
                                        show own_Go p.tables e below s _ _ _ (T13.setTop (mkF m 442 #[.val (.int p0), .val (.int p1), .val (.int p2), .val (.int p3), .val (.int p4), .val (.int va), .val (.int vb), .val (.int vf), .val (.int z8), .val (.int (own_i nA)), .val (.int z10), .val (.int i), .val (.ref b2), .val (.int (own_i ((own_rl nA va vb).count p0))), .val (.int (own_bt p0 (own_rl nA va vb))), .val (.int (own_bt p0 ((own_rl nA va vb).erase p0))), .val (.ref b9), .val (.int (own_i (((own_fl z8 vf) ++ own_e1 nA va p0) ++ own_e2 nA vb p0).length)), .val (.ref b11)] []))
                                        refine own_by (fun _ kz => XS.iconst X13.here hx rfl (hb hby at_442) kz) ?_
                                        show own_Go p.tables e below s _ _ _ (T13.setTop (mkF m 443 #[.val (.int p0), .val (.int p1), .val (.int p2), .val (.int p3), .val (.int p4), .val (.int va), .val (.int vb), .val (.int vf), .val (.int z8), .val (.int (own_i nA)), .val (.int z10), .val (.int i), .val (.ref b2), .val (.int (own_i ((own_rl nA va vb).count p0))), .val (.int (own_bt p0 (own_rl nA va vb))), .val (.int (own_bt p0 ((own_rl nA va vb).erase p0))), .val (.ref b9), .val (.int (own_i (((own_fl z8 vf) ++ own_e1 nA va p0) ++ own_e2 nA vb p0).length)), .val (.ref b11)] [(.int (1 : Int32))]))
                                        refine own_by (fun _ kz => XS.goto X13.here hx rfl (pc0 := 443) (pc' := 447) rfl (hb hby at_443) (by decide) (by decide) kz) ?_
                                        show own_Go p.tables e below s _ _ _ (T13.setTop (mkF m 447 #[.val (.int p0), .val (.int p1), .val (.int p2), .val (.int p3), .val (.int p4), .val (.int va), .val (.int vb), .val (.int vf), .val (.int z8), .val (.int (own_i nA)), .val (.int z10), .val (.int i), .val (.ref b2), .val (.int (own_i ((own_rl nA va vb).count p0))), .val (.int (own_bt p0 (own_rl nA va vb))), .val (.int (own_bt p0 ((own_rl nA va vb).erase p0))), .val (.ref b9), .val (.int (own_i (((own_fl z8 vf) ++ own_e1 nA va p0) ++ own_e2 nA vb p0).length)), .val (.ref b11)] [(.int (1 : Int32))]))
                                        exact own_retZ X13 hx hlk Bd.returns (hb hby at_447) (by decide) (by decide) ⟨rfl, N13⟩
                                      refine own_by (fun _ kz => XS.iload X_s381.here hx rfl (hb hby at_381) rfl kz) ?_
                                      show own_Go p.tables e below s _ _ _ (T_s381.setTop (mkF m 383 #[.val (.int p0), .val (.int p1), .val (.int p2), .val (.int p3), .val (.int p4), .val (.int va), .val (.int vb), .val (.int vf), .val (.int z8), .val (.int (own_i nA)), .val (.int z10), .val (.int i), .val (.ref b2), .val (.int (own_i ((own_rl nA va vb).count p0))), .val (.int (own_bt p0 (own_rl nA va vb))), .val (.int (own_bt p0 ((own_rl nA va vb).erase p0))), .val (.ref b9), .val (.int (own_i (((own_fl z8 vf) ++ own_e1 nA va p0) ++ own_e2 nA vb p0).length)), .val (.ref b11)] [(.int (own_i (((own_fl z8 vf) ++ own_e1 nA va p0) ++ own_e2 nA vb p0).length))]))
                                      refine own_by (fun _ kz => XS.iconst X_s381.here hx rfl (hb hby at_383) kz) ?_
                                      show own_Go p.tables e below s _ _ _ (T_s381.setTop (mkF m 384 #[.val (.int p0), .val (.int p1), .val (.int p2), .val (.int p3), .val (.int p4), .val (.int va), .val (.int vb), .val (.int vf), .val (.int z8), .val (.int (own_i nA)), .val (.int z10), .val (.int i), .val (.ref b2), .val (.int (own_i ((own_rl nA va vb).count p0))), .val (.int (own_bt p0 (own_rl nA va vb))), .val (.int (own_bt p0 ((own_rl nA va vb).erase p0))), .val (.ref b9), .val (.int (own_i (((own_fl z8 vf) ++ own_e1 nA va p0) ++ own_e2 nA vb p0).length)), .val (.ref b11)] [(.int (2 : Int32)), (.int (own_i (((own_fl z8 vf) ++ own_e1 nA va p0) ++ own_e2 nA vb p0).length))]))
                                      by_cases hc384_20 : (2 : Int32) < (own_i (((own_fl z8 vf) ++ own_e1 nA va p0) ++ own_e2 nA vb p0).length)
                                      · refine own_by (fun _ kz => XS.icmpNo X_s381.here hx rfl (hb hby at_384) rfl (tlt hc384_20).2.2.2 kz) ?_
                                        show own_Go p.tables e below s _ _ _ (T_s381.setTop (mkF m 387 #[.val (.int p0), .val (.int p1), .val (.int p2), .val (.int p3), .val (.int p4), .val (.int va), .val (.int vb), .val (.int vf), .val (.int z8), .val (.int (own_i nA)), .val (.int z10), .val (.int i), .val (.ref b2), .val (.int (own_i ((own_rl nA va vb).count p0))), .val (.int (own_bt p0 (own_rl nA va vb))), .val (.int (own_bt p0 ((own_rl nA va vb).erase p0))), .val (.ref b9), .val (.int (own_i (((own_fl z8 vf) ++ own_e1 nA va p0) ++ own_e2 nA vb p0).length)), .val (.ref b11)] []))
                                        refine own_by (fun _ kz => XS.aload X_s381.here hx rfl (hb hby at_387) rfl rfl kz) ?_
                                        show own_Go p.tables e below s _ _ _ (T_s381.setTop (mkF m 389 #[.val (.int p0), .val (.int p1), .val (.int p2), .val (.int p3), .val (.int p4), .val (.int va), .val (.int vb), .val (.int vf), .val (.int z8), .val (.int (own_i nA)), .val (.int z10), .val (.int i), .val (.ref b2), .val (.int (own_i ((own_rl nA va vb).count p0))), .val (.int (own_bt p0 (own_rl nA va vb))), .val (.int (own_bt p0 ((own_rl nA va vb).erase p0))), .val (.ref b9), .val (.int (own_i (((own_fl z8 vf) ++ own_e1 nA va p0) ++ own_e2 nA vb p0).length)), .val (.ref b11)] [(.ref b11)]))
                                        refine own_by (fun _ kz => XS.iconst X_s381.here hx rfl (hb hby at_389) kz) ?_
                                        show own_Go p.tables e below s _ _ _ (T_s381.setTop (mkF m 390 #[.val (.int p0), .val (.int p1), .val (.int p2), .val (.int p3), .val (.int p4), .val (.int va), .val (.int vb), .val (.int vf), .val (.int z8), .val (.int (own_i nA)), .val (.int z10), .val (.int i), .val (.ref b2), .val (.int (own_i ((own_rl nA va vb).count p0))), .val (.int (own_bt p0 (own_rl nA va vb))), .val (.int (own_bt p0 ((own_rl nA va vb).erase p0))), .val (.ref b9), .val (.int (own_i (((own_fl z8 vf) ++ own_e1 nA va p0) ++ own_e2 nA vb p0).length)), .val (.ref b11)] [(.int (2 : Int32)), (.ref b11)]))
                                        refine own_by (fun _ kz => XS.aload X_s381.here hx rfl (hb hby at_390) rfl rfl kz) ?_
                                        show own_Go p.tables e below s _ _ _ (T_s381.setTop (mkF m 392 #[.val (.int p0), .val (.int p1), .val (.int p2), .val (.int p3), .val (.int p4), .val (.int va), .val (.int vb), .val (.int vf), .val (.int z8), .val (.int (own_i nA)), .val (.int z10), .val (.int i), .val (.ref b2), .val (.int (own_i ((own_rl nA va vb).count p0))), .val (.int (own_bt p0 (own_rl nA va vb))), .val (.int (own_bt p0 ((own_rl nA va vb).erase p0))), .val (.ref b9), .val (.int (own_i (((own_fl z8 vf) ++ own_e1 nA va p0) ++ own_e2 nA vb p0).length)), .val (.ref b11)] [(.ref b2), (.int (2 : Int32)), (.ref b11)]))
                                        refine own_by (fun _ kz => XS.iload X_s381.here hx rfl (hb hby at_392) rfl kz) ?_
                                        show own_Go p.tables e below s _ _ _ (T_s381.setTop (mkF m 394 #[.val (.int p0), .val (.int p1), .val (.int p2), .val (.int p3), .val (.int p4), .val (.int va), .val (.int vb), .val (.int vf), .val (.int z8), .val (.int (own_i nA)), .val (.int z10), .val (.int i), .val (.ref b2), .val (.int (own_i ((own_rl nA va vb).count p0))), .val (.int (own_bt p0 (own_rl nA va vb))), .val (.int (own_bt p0 ((own_rl nA va vb).erase p0))), .val (.ref b9), .val (.int (own_i (((own_fl z8 vf) ++ own_e1 nA va p0) ++ own_e2 nA vb p0).length)), .val (.ref b11)] [(.int i), (.ref b2), (.int (2 : Int32)), (.ref b11)]))
                                        refine own_by (fun _ kz => XS.iconst X_s381.here hx rfl (hb hby at_394) kz) ?_
                                        show own_Go p.tables e below s _ _ _ (T_s381.setTop (mkF m 395 #[.val (.int p0), .val (.int p1), .val (.int p2), .val (.int p3), .val (.int p4), .val (.int va), .val (.int vb), .val (.int vf), .val (.int z8), .val (.int (own_i nA)), .val (.int z10), .val (.int i), .val (.ref b2), .val (.int (own_i ((own_rl nA va vb).count p0))), .val (.int (own_bt p0 (own_rl nA va vb))), .val (.int (own_bt p0 ((own_rl nA va vb).erase p0))), .val (.ref b9), .val (.int (own_i (((own_fl z8 vf) ++ own_e1 nA va p0) ++ own_e2 nA vb p0).length)), .val (.ref b11)] [(.int (2 : Int32)), (.int i), (.ref b2), (.int (2 : Int32)), (.ref b11)]))
                                        obtain ⟨v21, T21, L21, X21, q21, st21⟩ := own_callV X_s381 hx hZ hown (hw _ (List.mem_of_getElem? (i := 68) rfl)) (hw _ (List.mem_of_getElem? (i := 69) rfl)) (hw _ (List.mem_of_getElem? (i := 71) rfl)) (hw _ (List.mem_of_getElem? (i := 70) rfl)) (hw _ (List.mem_of_getElem? (i := 6) rfl)) (hw _ (List.mem_of_getElem? (i := 72) rfl)) (by decide) (rm13 l Z a0 hw [] b2 i (2 : Int32) T_s381.heap n0 Z_s381 N ta ca fa r8 rr8 k8 kk8 x8 xx8 vs8 us8 hi TB_s381 2 rfl (by rw [hk3]; exact (own_i_lt 2 (by omega) (((own_fl z8 vf) ++ own_e1 nA va p0) ++ own_e2 nA vb p0).length (by omega)).mp hc384_20) (by omega)) (W := 2) (by decide) (by decide) rfl TB_s381.exa (g := (mkF m 395 #[.val (.int p0), .val (.int p1), .val (.int p2), .val (.int p3), .val (.int p4), .val (.int va), .val (.int vb), .val (.int vf), .val (.int z8), .val (.int (own_i nA)), .val (.int z10), .val (.int i), .val (.ref b2), .val (.int (own_i ((own_rl nA va vb).count p0))), .val (.int (own_bt p0 (own_rl nA va vb))), .val (.int (own_bt p0 ((own_rl nA va vb).erase p0))), .val (.ref b9), .val (.int (own_i (((own_fl z8 vf) ++ own_e1 nA va p0) ++ own_e2 nA vb p0).length)), .val (.ref b11)] [(.int (2 : Int32)), (.int i), (.ref b2), (.int (2 : Int32)), (.ref b11)])) rfl (by rw [hml]; rfl) (argsL := [(.int i), (.int (2 : Int32))]) (rest := [(.int (2 : Int32)), (.ref b11)]) (lenOf pd_13 rfl) rfl rfl (by show 2 * 0 + _ ≤ _; exact Nat.le_of_eq rfl) (hb hby at_395) (by decide) (by decide)
                                        obtain ⟨rfl, Nq21, hh21⟩ := q21
                                        have N21 := Fr.app N_s381 Nq21
                                        refine own_by st21 ?_
                                        show own_Go p.tables e below s _ _ _ (T21.setTop (mkF m 398 #[.val (.int p0), .val (.int p1), .val (.int p2), .val (.int p3), .val (.int p4), .val (.int va), .val (.int vb), .val (.int vf), .val (.int z8), .val (.int (own_i nA)), .val (.int z10), .val (.int i), .val (.ref b2), .val (.int (own_i ((own_rl nA va vb).count p0))), .val (.int (own_bt p0 (own_rl nA va vb))), .val (.int (own_bt p0 ((own_rl nA va vb).erase p0))), .val (.ref b9), .val (.int (own_i (((own_fl z8 vf) ++ own_e1 nA va p0) ++ own_e2 nA vb p0).length)), .val (.ref b11)] [(.int (vs8.getD 2 0)), (.int (2 : Int32)), (.ref b11)]))
                                        obtain ⟨T22, h22, X22, e22, W22, st22⟩ := own_st X21 hx hZ hh21 Vg_s381 (j := (2 : Int32)) (by decide) (g := (mkF m 398 #[.val (.int p0), .val (.int p1), .val (.int p2), .val (.int p3), .val (.int p4), .val (.int va), .val (.int vb), .val (.int vf), .val (.int z8), .val (.int (own_i nA)), .val (.int z10), .val (.int i), .val (.ref b2), .val (.int (own_i ((own_rl nA va vb).count p0))), .val (.int (own_bt p0 (own_rl nA va vb))), .val (.int (own_bt p0 ((own_rl nA va vb).erase p0))), .val (.ref b9), .val (.int (own_i (((own_fl z8 vf) ++ own_e1 nA va p0) ++ own_e2 nA vb p0).length)), .val (.ref b11)] [(.int (vs8.getD 2 0)), (.int (2 : Int32)), (.ref b11)])) rfl rfl (hb hby at_398)
                                        have N22 := Fr.snoc X22 N21 ge_b11
                                        have Z22 : n0 ≤ h22.size := by rw [W22.size]; exact Z_s381
                                        have TBw22 := TB_s381.wr W22 frs11
                                        have Vew22 := Ve_s381.other W22 neg
                                        have Vg22 : Arv Z h22 b11 k11 .int (3 : Int32) [(.int (if 0 < k8 then vs8.getD 0 0 else 0)), (.int (if 1 < k8 then vs8.getD 1 0 else 0)), (.int (vs8.getD 2 0))] (.int (0 : Int32)) := own_set Vg_s381 (own_fit_int _) W22 (i := 2) rfl (Nat.le_of_ble_eq_true rfl)
                                        rw [← e22] at TBw22 Vew22 Vg22 Z22
                                        refine own_by st22 ?_
                                        show own_Go p.tables e below s _ _ _ (T22.setTop (mkF m 399 #[.val (.int p0), .val (.int p1), .val (.int p2), .val (.int p3), .val (.int p4), .val (.int va), .val (.int vb), .val (.int vf), .val (.int z8), .val (.int (own_i nA)), .val (.int z10), .val (.int i), .val (.ref b2), .val (.int (own_i ((own_rl nA va vb).count p0))), .val (.int (own_bt p0 (own_rl nA va vb))), .val (.int (own_bt p0 ((own_rl nA va vb).erase p0))), .val (.ref b9), .val (.int (own_i (((own_fl z8 vf) ++ own_e1 nA va p0) ++ own_e2 nA vb p0).length)), .val (.ref b11)] []))
                                        exact s399 T22 _  (X22.more (by decide) (by decide)) N22 Z22 TBw22 Vew22 (by rw [show (if 2 < k8 then vs8.getD 2 0 else 0) = _ from if_pos (show 2 < k8 by rw [hk3]; exact (own_i_lt 2 (by omega) (((own_fl z8 vf) ++ own_e1 nA va p0) ++ own_e2 nA vb p0).length (by omega)).mp hc384_20)]; exact Vg22)
                                      · refine own_by (fun _ kz => XS.icmpYes X_s381.here hx rfl (pc0 := 384) (pc' := 399) rfl (hb hby at_384) rfl (flt hc384_20).2.2.2 (by decide) (by decide) kz) ?_
                                        show own_Go p.tables e below s _ _ _ (T_s381.setTop (mkF m 399 #[.val (.int p0), .val (.int p1), .val (.int p2), .val (.int p3), .val (.int p4), .val (.int va), .val (.int vb), .val (.int vf), .val (.int z8), .val (.int (own_i nA)), .val (.int z10), .val (.int i), .val (.ref b2), .val (.int (own_i ((own_rl nA va vb).count p0))), .val (.int (own_bt p0 (own_rl nA va vb))), .val (.int (own_bt p0 ((own_rl nA va vb).erase p0))), .val (.ref b9), .val (.int (own_i (((own_fl z8 vf) ++ own_e1 nA va p0) ++ own_e2 nA vb p0).length)), .val (.ref b11)] []))
                                        exact s399 T_s381 _  (X_s381.more (by decide) (by decide)) N_s381 Z_s381 TB_s381 Ve_s381 (by rw [show (if 2 < k8 then vs8.getD 2 0 else 0) = _ from if_neg (show ¬ 2 < k8 from fun u => hc384_20 ((own_i_lt 2 (by omega) (((own_fl z8 vf) ++ own_e1 nA va p0) ++ own_e2 nA vb p0).length (by omega)).mpr (by rw [← hk3]; exact u)))]; exact Vg_s381)
                                    refine own_by (fun _ kz => XS.iload X_s363.here hx rfl (hb hby at_363) rfl kz) ?_
                                    show own_Go p.tables e below s _ _ _ (T_s363.setTop (mkF m 365 #[.val (.int p0), .val (.int p1), .val (.int p2), .val (.int p3), .val (.int p4), .val (.int va), .val (.int vb), .val (.int vf), .val (.int z8), .val (.int (own_i nA)), .val (.int z10), .val (.int i), .val (.ref b2), .val (.int (own_i ((own_rl nA va vb).count p0))), .val (.int (own_bt p0 (own_rl nA va vb))), .val (.int (own_bt p0 ((own_rl nA va vb).erase p0))), .val (.ref b9), .val (.int (own_i (((own_fl z8 vf) ++ own_e1 nA va p0) ++ own_e2 nA vb p0).length)), .val (.ref b11)] [(.int (own_i (((own_fl z8 vf) ++ own_e1 nA va p0) ++ own_e2 nA vb p0).length))]))
                                    refine own_by (fun _ kz => XS.iconst X_s363.here hx rfl (hb hby at_365) kz) ?_
                                    show own_Go p.tables e below s _ _ _ (T_s363.setTop (mkF m 366 #[.val (.int p0), .val (.int p1), .val (.int p2), .val (.int p3), .val (.int p4), .val (.int va), .val (.int vb), .val (.int vf), .val (.int z8), .val (.int (own_i nA)), .val (.int z10), .val (.int i), .val (.ref b2), .val (.int (own_i ((own_rl nA va vb).count p0))), .val (.int (own_bt p0 (own_rl nA va vb))), .val (.int (own_bt p0 ((own_rl nA va vb).erase p0))), .val (.ref b9), .val (.int (own_i (((own_fl z8 vf) ++ own_e1 nA va p0) ++ own_e2 nA vb p0).length)), .val (.ref b11)] [(.int (1 : Int32)), (.int (own_i (((own_fl z8 vf) ++ own_e1 nA va p0) ++ own_e2 nA vb p0).length))]))
                                    by_cases hc366_23 : (1 : Int32) < (own_i (((own_fl z8 vf) ++ own_e1 nA va p0) ++ own_e2 nA vb p0).length)
                                    · refine own_by (fun _ kz => XS.icmpNo X_s363.here hx rfl (hb hby at_366) rfl (tlt hc366_23).2.2.2 kz) ?_
                                      show own_Go p.tables e below s _ _ _ (T_s363.setTop (mkF m 369 #[.val (.int p0), .val (.int p1), .val (.int p2), .val (.int p3), .val (.int p4), .val (.int va), .val (.int vb), .val (.int vf), .val (.int z8), .val (.int (own_i nA)), .val (.int z10), .val (.int i), .val (.ref b2), .val (.int (own_i ((own_rl nA va vb).count p0))), .val (.int (own_bt p0 (own_rl nA va vb))), .val (.int (own_bt p0 ((own_rl nA va vb).erase p0))), .val (.ref b9), .val (.int (own_i (((own_fl z8 vf) ++ own_e1 nA va p0) ++ own_e2 nA vb p0).length)), .val (.ref b11)] []))
                                      refine own_by (fun _ kz => XS.aload X_s363.here hx rfl (hb hby at_369) rfl rfl kz) ?_
                                      show own_Go p.tables e below s _ _ _ (T_s363.setTop (mkF m 371 #[.val (.int p0), .val (.int p1), .val (.int p2), .val (.int p3), .val (.int p4), .val (.int va), .val (.int vb), .val (.int vf), .val (.int z8), .val (.int (own_i nA)), .val (.int z10), .val (.int i), .val (.ref b2), .val (.int (own_i ((own_rl nA va vb).count p0))), .val (.int (own_bt p0 (own_rl nA va vb))), .val (.int (own_bt p0 ((own_rl nA va vb).erase p0))), .val (.ref b9), .val (.int (own_i (((own_fl z8 vf) ++ own_e1 nA va p0) ++ own_e2 nA vb p0).length)), .val (.ref b11)] [(.ref b11)]))
                                      refine own_by (fun _ kz => XS.iconst X_s363.here hx rfl (hb hby at_371) kz) ?_
                                      show own_Go p.tables e below s _ _ _ (T_s363.setTop (mkF m 372 #[.val (.int p0), .val (.int p1), .val (.int p2), .val (.int p3), .val (.int p4), .val (.int va), .val (.int vb), .val (.int vf), .val (.int z8), .val (.int (own_i nA)), .val (.int z10), .val (.int i), .val (.ref b2), .val (.int (own_i ((own_rl nA va vb).count p0))), .val (.int (own_bt p0 (own_rl nA va vb))), .val (.int (own_bt p0 ((own_rl nA va vb).erase p0))), .val (.ref b9), .val (.int (own_i (((own_fl z8 vf) ++ own_e1 nA va p0) ++ own_e2 nA vb p0).length)), .val (.ref b11)] [(.int (1 : Int32)), (.ref b11)]))
                                      refine own_by (fun _ kz => XS.aload X_s363.here hx rfl (hb hby at_372) rfl rfl kz) ?_
                                      show own_Go p.tables e below s _ _ _ (T_s363.setTop (mkF m 374 #[.val (.int p0), .val (.int p1), .val (.int p2), .val (.int p3), .val (.int p4), .val (.int va), .val (.int vb), .val (.int vf), .val (.int z8), .val (.int (own_i nA)), .val (.int z10), .val (.int i), .val (.ref b2), .val (.int (own_i ((own_rl nA va vb).count p0))), .val (.int (own_bt p0 (own_rl nA va vb))), .val (.int (own_bt p0 ((own_rl nA va vb).erase p0))), .val (.ref b9), .val (.int (own_i (((own_fl z8 vf) ++ own_e1 nA va p0) ++ own_e2 nA vb p0).length)), .val (.ref b11)] [(.ref b2), (.int (1 : Int32)), (.ref b11)]))
                                      refine own_by (fun _ kz => XS.iload X_s363.here hx rfl (hb hby at_374) rfl kz) ?_
                                      show own_Go p.tables e below s _ _ _ (T_s363.setTop (mkF m 376 #[.val (.int p0), .val (.int p1), .val (.int p2), .val (.int p3), .val (.int p4), .val (.int va), .val (.int vb), .val (.int vf), .val (.int z8), .val (.int (own_i nA)), .val (.int z10), .val (.int i), .val (.ref b2), .val (.int (own_i ((own_rl nA va vb).count p0))), .val (.int (own_bt p0 (own_rl nA va vb))), .val (.int (own_bt p0 ((own_rl nA va vb).erase p0))), .val (.ref b9), .val (.int (own_i (((own_fl z8 vf) ++ own_e1 nA va p0) ++ own_e2 nA vb p0).length)), .val (.ref b11)] [(.int i), (.ref b2), (.int (1 : Int32)), (.ref b11)]))
                                      refine own_by (fun _ kz => XS.iconst X_s363.here hx rfl (hb hby at_376) kz) ?_
                                      show own_Go p.tables e below s _ _ _ (T_s363.setTop (mkF m 377 #[.val (.int p0), .val (.int p1), .val (.int p2), .val (.int p3), .val (.int p4), .val (.int va), .val (.int vb), .val (.int vf), .val (.int z8), .val (.int (own_i nA)), .val (.int z10), .val (.int i), .val (.ref b2), .val (.int (own_i ((own_rl nA va vb).count p0))), .val (.int (own_bt p0 (own_rl nA va vb))), .val (.int (own_bt p0 ((own_rl nA va vb).erase p0))), .val (.ref b9), .val (.int (own_i (((own_fl z8 vf) ++ own_e1 nA va p0) ++ own_e2 nA vb p0).length)), .val (.ref b11)] [(.int (1 : Int32)), (.int i), (.ref b2), (.int (1 : Int32)), (.ref b11)]))
                                      obtain ⟨v24, T24, L24, X24, q24, st24⟩ := own_callV X_s363 hx hZ hown (hw _ (List.mem_of_getElem? (i := 68) rfl)) (hw _ (List.mem_of_getElem? (i := 69) rfl)) (hw _ (List.mem_of_getElem? (i := 71) rfl)) (hw _ (List.mem_of_getElem? (i := 70) rfl)) (hw _ (List.mem_of_getElem? (i := 6) rfl)) (hw _ (List.mem_of_getElem? (i := 72) rfl)) (by decide) (rm13 l Z a0 hw [] b2 i (1 : Int32) T_s363.heap n0 Z_s363 N ta ca fa r8 rr8 k8 kk8 x8 xx8 vs8 us8 hi TB_s363 1 rfl (by rw [hk3]; exact (own_i_lt 1 (by omega) (((own_fl z8 vf) ++ own_e1 nA va p0) ++ own_e2 nA vb p0).length (by omega)).mp hc366_23) (by omega)) (W := 2) (by decide) (by decide) rfl TB_s363.exa (g := (mkF m 377 #[.val (.int p0), .val (.int p1), .val (.int p2), .val (.int p3), .val (.int p4), .val (.int va), .val (.int vb), .val (.int vf), .val (.int z8), .val (.int (own_i nA)), .val (.int z10), .val (.int i), .val (.ref b2), .val (.int (own_i ((own_rl nA va vb).count p0))), .val (.int (own_bt p0 (own_rl nA va vb))), .val (.int (own_bt p0 ((own_rl nA va vb).erase p0))), .val (.ref b9), .val (.int (own_i (((own_fl z8 vf) ++ own_e1 nA va p0) ++ own_e2 nA vb p0).length)), .val (.ref b11)] [(.int (1 : Int32)), (.int i), (.ref b2), (.int (1 : Int32)), (.ref b11)])) rfl (by rw [hml]; rfl) (argsL := [(.int i), (.int (1 : Int32))]) (rest := [(.int (1 : Int32)), (.ref b11)]) (lenOf pd_13 rfl) rfl rfl (by show 2 * 0 + _ ≤ _; exact Nat.le_of_eq rfl) (hb hby at_377) (by decide) (by decide)
                                      obtain ⟨rfl, Nq24, hh24⟩ := q24
                                      have N24 := Fr.app N_s363 Nq24
                                      refine own_by st24 ?_
                                      show own_Go p.tables e below s _ _ _ (T24.setTop (mkF m 380 #[.val (.int p0), .val (.int p1), .val (.int p2), .val (.int p3), .val (.int p4), .val (.int va), .val (.int vb), .val (.int vf), .val (.int z8), .val (.int (own_i nA)), .val (.int z10), .val (.int i), .val (.ref b2), .val (.int (own_i ((own_rl nA va vb).count p0))), .val (.int (own_bt p0 (own_rl nA va vb))), .val (.int (own_bt p0 ((own_rl nA va vb).erase p0))), .val (.ref b9), .val (.int (own_i (((own_fl z8 vf) ++ own_e1 nA va p0) ++ own_e2 nA vb p0).length)), .val (.ref b11)] [(.int (vs8.getD 1 0)), (.int (1 : Int32)), (.ref b11)]))
                                      obtain ⟨T25, h25, X25, e25, W25, st25⟩ := own_st X24 hx hZ hh24 Vg_s363 (j := (1 : Int32)) (by decide) (g := (mkF m 380 #[.val (.int p0), .val (.int p1), .val (.int p2), .val (.int p3), .val (.int p4), .val (.int va), .val (.int vb), .val (.int vf), .val (.int z8), .val (.int (own_i nA)), .val (.int z10), .val (.int i), .val (.ref b2), .val (.int (own_i ((own_rl nA va vb).count p0))), .val (.int (own_bt p0 (own_rl nA va vb))), .val (.int (own_bt p0 ((own_rl nA va vb).erase p0))), .val (.ref b9), .val (.int (own_i (((own_fl z8 vf) ++ own_e1 nA va p0) ++ own_e2 nA vb p0).length)), .val (.ref b11)] [(.int (vs8.getD 1 0)), (.int (1 : Int32)), (.ref b11)])) rfl rfl (hb hby at_380)
                                      have N25 := Fr.snoc X25 N24 ge_b11
                                      have Z25 : n0 ≤ h25.size := by rw [W25.size]; exact Z_s363
                                      have TBw25 := TB_s363.wr W25 frs11
                                      have Vew25 := Ve_s363.other W25 neg
                                      have Vg25 : Arv Z h25 b11 k11 .int (3 : Int32) [(.int (if 0 < k8 then vs8.getD 0 0 else 0)), (.int (vs8.getD 1 0)), (.int (0 : Int32))] (.int (0 : Int32)) := own_set Vg_s363 (own_fit_int _) W25 (i := 1) rfl (Nat.le_of_ble_eq_true rfl)
                                      rw [← e25] at TBw25 Vew25 Vg25 Z25
                                      refine own_by st25 ?_
                                      show own_Go p.tables e below s _ _ _ (T25.setTop (mkF m 381 #[.val (.int p0), .val (.int p1), .val (.int p2), .val (.int p3), .val (.int p4), .val (.int va), .val (.int vb), .val (.int vf), .val (.int z8), .val (.int (own_i nA)), .val (.int z10), .val (.int i), .val (.ref b2), .val (.int (own_i ((own_rl nA va vb).count p0))), .val (.int (own_bt p0 (own_rl nA va vb))), .val (.int (own_bt p0 ((own_rl nA va vb).erase p0))), .val (.ref b9), .val (.int (own_i (((own_fl z8 vf) ++ own_e1 nA va p0) ++ own_e2 nA vb p0).length)), .val (.ref b11)] []))
                                      exact s381 T25 _  (X25.more (by decide) (by decide)) N25 Z25 TBw25 Vew25 (by rw [show (if 1 < k8 then vs8.getD 1 0 else 0) = _ from if_pos (show 1 < k8 by rw [hk3]; exact (own_i_lt 1 (by omega) (((own_fl z8 vf) ++ own_e1 nA va p0) ++ own_e2 nA vb p0).length (by omega)).mp hc366_23)]; exact Vg25)
                                    · refine own_by (fun _ kz => XS.icmpYes X_s363.here hx rfl (pc0 := 366) (pc' := 381) rfl (hb hby at_366) rfl (flt hc366_23).2.2.2 (by decide) (by decide) kz) ?_
                                      show own_Go p.tables e below s _ _ _ (T_s363.setTop (mkF m 381 #[.val (.int p0), .val (.int p1), .val (.int p2), .val (.int p3), .val (.int p4), .val (.int va), .val (.int vb), .val (.int vf), .val (.int z8), .val (.int (own_i nA)), .val (.int z10), .val (.int i), .val (.ref b2), .val (.int (own_i ((own_rl nA va vb).count p0))), .val (.int (own_bt p0 (own_rl nA va vb))), .val (.int (own_bt p0 ((own_rl nA va vb).erase p0))), .val (.ref b9), .val (.int (own_i (((own_fl z8 vf) ++ own_e1 nA va p0) ++ own_e2 nA vb p0).length)), .val (.ref b11)] []))
                                      exact s381 T_s363 _  (X_s363.more (by decide) (by decide)) N_s363 Z_s363 TB_s363 Ve_s363 (by rw [show (if 1 < k8 then vs8.getD 1 0 else 0) = _ from if_neg (show ¬ 1 < k8 from fun u => hc366_23 ((own_i_lt 1 (by omega) (((own_fl z8 vf) ++ own_e1 nA va p0) ++ own_e2 nA vb p0).length (by omega)).mpr (by rw [← hk3]; exact u)))]; exact Vg_s363)
                                  refine own_by (fun _ kz => XS.iload X11.here hx rfl (hb hby at_346) rfl kz) ?_
                                  show own_Go p.tables e below s _ _ _ (T11.setTop (mkF m 348 #[.val (.int p0), .val (.int p1), .val (.int p2), .val (.int p3), .val (.int p4), .val (.int va), .val (.int vb), .val (.int vf), .val (.int z8), .val (.int (own_i nA)), .val (.int z10), .val (.int i), .val (.ref b2), .val (.int (own_i ((own_rl nA va vb).count p0))), .val (.int (own_bt p0 (own_rl nA va vb))), .val (.int (own_bt p0 ((own_rl nA va vb).erase p0))), .val (.ref b9), .val (.int (own_i (((own_fl z8 vf) ++ own_e1 nA va p0) ++ own_e2 nA vb p0).length)), .val (.ref b11)] [(.int (own_i (((own_fl z8 vf) ++ own_e1 nA va p0) ++ own_e2 nA vb p0).length))]))
                                  by_cases hc348_26 : (0 : Int32) < (own_i (((own_fl z8 vf) ++ own_e1 nA va p0) ++ own_e2 nA vb p0).length)
                                  · refine own_by (fun _ kz => XS.ifNo X11.here hx rfl (hb hby at_348) rfl ((if0 _ _).trans (tlt hc348_26).2.2.2) kz) ?_
                                    show own_Go p.tables e below s _ _ _ (T11.setTop (mkF m 351 #[.val (.int p0), .val (.int p1), .val (.int p2), .val (.int p3), .val (.int p4), .val (.int va), .val (.int vb), .val (.int vf), .val (.int z8), .val (.int (own_i nA)), .val (.int z10), .val (.int i), .val (.ref b2), .val (.int (own_i ((own_rl nA va vb).count p0))), .val (.int (own_bt p0 (own_rl nA va vb))), .val (.int (own_bt p0 ((own_rl nA va vb).erase p0))), .val (.ref b9), .val (.int (own_i (((own_fl z8 vf) ++ own_e1 nA va p0) ++ own_e2 nA vb p0).length)), .val (.ref b11)] []))
                                    refine own_by (fun _ kz => XS.aload X11.here hx rfl (hb hby at_351) rfl rfl kz) ?_
                                    show own_Go p.tables e below s _ _ _ (T11.setTop (mkF m 353 #[.val (.int p0), .val (.int p1), .val (.int p2), .val (.int p3), .val (.int p4), .val (.int va), .val (.int vb), .val (.int vf), .val (.int z8), .val (.int (own_i nA)), .val (.int z10), .val (.int i), .val (.ref b2), .val (.int (own_i ((own_rl nA va vb).count p0))), .val (.int (own_bt p0 (own_rl nA va vb))), .val (.int (own_bt p0 ((own_rl nA va vb).erase p0))), .val (.ref b9), .val (.int (own_i (((own_fl z8 vf) ++ own_e1 nA va p0) ++ own_e2 nA vb p0).length)), .val (.ref b11)] [(.ref b11)]))
                                    refine own_by (fun _ kz => XS.iconst X11.here hx rfl (hb hby at_353) kz) ?_
                                    show own_Go p.tables e below s _ _ _ (T11.setTop (mkF m 354 #[.val (.int p0), .val (.int p1), .val (.int p2), .val (.int p3), .val (.int p4), .val (.int va), .val (.int vb), .val (.int vf), .val (.int z8), .val (.int (own_i nA)), .val (.int z10), .val (.int i), .val (.ref b2), .val (.int (own_i ((own_rl nA va vb).count p0))), .val (.int (own_bt p0 (own_rl nA va vb))), .val (.int (own_bt p0 ((own_rl nA va vb).erase p0))), .val (.ref b9), .val (.int (own_i (((own_fl z8 vf) ++ own_e1 nA va p0) ++ own_e2 nA vb p0).length)), .val (.ref b11)] [(.int (0 : Int32)), (.ref b11)]))
                                    refine own_by (fun _ kz => XS.aload X11.here hx rfl (hb hby at_354) rfl rfl kz) ?_
                                    show own_Go p.tables e below s _ _ _ (T11.setTop (mkF m 356 #[.val (.int p0), .val (.int p1), .val (.int p2), .val (.int p3), .val (.int p4), .val (.int va), .val (.int vb), .val (.int vf), .val (.int z8), .val (.int (own_i nA)), .val (.int z10), .val (.int i), .val (.ref b2), .val (.int (own_i ((own_rl nA va vb).count p0))), .val (.int (own_bt p0 (own_rl nA va vb))), .val (.int (own_bt p0 ((own_rl nA va vb).erase p0))), .val (.ref b9), .val (.int (own_i (((own_fl z8 vf) ++ own_e1 nA va p0) ++ own_e2 nA vb p0).length)), .val (.ref b11)] [(.ref b2), (.int (0 : Int32)), (.ref b11)]))
                                    refine own_by (fun _ kz => XS.iload X11.here hx rfl (hb hby at_356) rfl kz) ?_
                                    show own_Go p.tables e below s _ _ _ (T11.setTop (mkF m 358 #[.val (.int p0), .val (.int p1), .val (.int p2), .val (.int p3), .val (.int p4), .val (.int va), .val (.int vb), .val (.int vf), .val (.int z8), .val (.int (own_i nA)), .val (.int z10), .val (.int i), .val (.ref b2), .val (.int (own_i ((own_rl nA va vb).count p0))), .val (.int (own_bt p0 (own_rl nA va vb))), .val (.int (own_bt p0 ((own_rl nA va vb).erase p0))), .val (.ref b9), .val (.int (own_i (((own_fl z8 vf) ++ own_e1 nA va p0) ++ own_e2 nA vb p0).length)), .val (.ref b11)] [(.int i), (.ref b2), (.int (0 : Int32)), (.ref b11)]))
                                    refine own_by (fun _ kz => XS.iconst X11.here hx rfl (hb hby at_358) kz) ?_
                                    show own_Go p.tables e below s _ _ _ (T11.setTop (mkF m 359 #[.val (.int p0), .val (.int p1), .val (.int p2), .val (.int p3), .val (.int p4), .val (.int va), .val (.int vb), .val (.int vf), .val (.int z8), .val (.int (own_i nA)), .val (.int z10), .val (.int i), .val (.ref b2), .val (.int (own_i ((own_rl nA va vb).count p0))), .val (.int (own_bt p0 (own_rl nA va vb))), .val (.int (own_bt p0 ((own_rl nA va vb).erase p0))), .val (.ref b9), .val (.int (own_i (((own_fl z8 vf) ++ own_e1 nA va p0) ++ own_e2 nA vb p0).length)), .val (.ref b11)] [(.int (0 : Int32)), (.int i), (.ref b2), (.int (0 : Int32)), (.ref b11)]))
                                    obtain ⟨v27, T27, L27, X27, q27, st27⟩ := own_callV X11 hx hZ hown (hw _ (List.mem_of_getElem? (i := 68) rfl)) (hw _ (List.mem_of_getElem? (i := 69) rfl)) (hw _ (List.mem_of_getElem? (i := 71) rfl)) (hw _ (List.mem_of_getElem? (i := 70) rfl)) (hw _ (List.mem_of_getElem? (i := 6) rfl)) (hw _ (List.mem_of_getElem? (i := 72) rfl)) (by decide) (rm13 l Z a0 hw [] b2 i (0 : Int32) T11.heap n0 Z11 N ta ca fa r8 rr8 k8 kk8 x8 xx8 vs8 us8 hi TBn11 0 rfl (by rw [hk3]; exact (own_i_lt 0 (by omega) (((own_fl z8 vf) ++ own_e1 nA va p0) ++ own_e2 nA vb p0).length (by omega)).mp hc348_26) (by omega)) (W := 2) (by decide) (by decide) rfl TBn11.exa (g := (mkF m 359 #[.val (.int p0), .val (.int p1), .val (.int p2), .val (.int p3), .val (.int p4), .val (.int va), .val (.int vb), .val (.int vf), .val (.int z8), .val (.int (own_i nA)), .val (.int z10), .val (.int i), .val (.ref b2), .val (.int (own_i ((own_rl nA va vb).count p0))), .val (.int (own_bt p0 (own_rl nA va vb))), .val (.int (own_bt p0 ((own_rl nA va vb).erase p0))), .val (.ref b9), .val (.int (own_i (((own_fl z8 vf) ++ own_e1 nA va p0) ++ own_e2 nA vb p0).length)), .val (.ref b11)] [(.int (0 : Int32)), (.int i), (.ref b2), (.int (0 : Int32)), (.ref b11)])) rfl (by rw [hml]; rfl) (argsL := [(.int i), (.int (0 : Int32))]) (rest := [(.int (0 : Int32)), (.ref b11)]) (lenOf pd_13 rfl) rfl rfl (by show 2 * 0 + _ ≤ _; exact Nat.le_of_eq rfl) (hb hby at_359) (by decide) (by decide)
                                    obtain ⟨rfl, Nq27, hh27⟩ := q27
                                    have N27 := Fr.app N10 Nq27
                                    refine own_by st27 ?_
                                    show own_Go p.tables e below s _ _ _ (T27.setTop (mkF m 362 #[.val (.int p0), .val (.int p1), .val (.int p2), .val (.int p3), .val (.int p4), .val (.int va), .val (.int vb), .val (.int vf), .val (.int z8), .val (.int (own_i nA)), .val (.int z10), .val (.int i), .val (.ref b2), .val (.int (own_i ((own_rl nA va vb).count p0))), .val (.int (own_bt p0 (own_rl nA va vb))), .val (.int (own_bt p0 ((own_rl nA va vb).erase p0))), .val (.ref b9), .val (.int (own_i (((own_fl z8 vf) ++ own_e1 nA va p0) ++ own_e2 nA vb p0).length)), .val (.ref b11)] [(.int (vs8.getD 0 0)), (.int (0 : Int32)), (.ref b11)]))
                                    obtain ⟨T28, h28, X28, e28, W28, st28⟩ := own_st X27 hx hZ hh27 V11 (j := (0 : Int32)) (by decide) (g := (mkF m 362 #[.val (.int p0), .val (.int p1), .val (.int p2), .val (.int p3), .val (.int p4), .val (.int va), .val (.int vb), .val (.int vf), .val (.int z8), .val (.int (own_i nA)), .val (.int z10), .val (.int i), .val (.ref b2), .val (.int (own_i ((own_rl nA va vb).count p0))), .val (.int (own_bt p0 (own_rl nA va vb))), .val (.int (own_bt p0 ((own_rl nA va vb).erase p0))), .val (.ref b9), .val (.int (own_i (((own_fl z8 vf) ++ own_e1 nA va p0) ++ own_e2 nA vb p0).length)), .val (.ref b11)] [(.int (vs8.getD 0 0)), (.int (0 : Int32)), (.ref b11)])) rfl rfl (hb hby at_362)
                                    have N28 := Fr.snoc X28 N27 ge_b11
                                    have Z28 : n0 ≤ h28.size := by rw [W28.size]; exact Z11
                                    have TBw28 := TBn11.wr W28 frs11
                                    have Vew28 := Ven11.other W28 neg
                                    have Vg28 : Arv Z h28 b11 k11 .int (3 : Int32) [(.int (vs8.getD 0 0)), (.int (0 : Int32)), (.int (0 : Int32))] (.int (0 : Int32)) := own_set V11 (own_fit_int _) W28 (i := 0) rfl (Nat.le_of_ble_eq_true rfl)
                                    rw [← e28] at TBw28 Vew28 Vg28 Z28
                                    refine own_by st28 ?_
                                    show own_Go p.tables e below s _ _ _ (T28.setTop (mkF m 363 #[.val (.int p0), .val (.int p1), .val (.int p2), .val (.int p3), .val (.int p4), .val (.int va), .val (.int vb), .val (.int vf), .val (.int z8), .val (.int (own_i nA)), .val (.int z10), .val (.int i), .val (.ref b2), .val (.int (own_i ((own_rl nA va vb).count p0))), .val (.int (own_bt p0 (own_rl nA va vb))), .val (.int (own_bt p0 ((own_rl nA va vb).erase p0))), .val (.ref b9), .val (.int (own_i (((own_fl z8 vf) ++ own_e1 nA va p0) ++ own_e2 nA vb p0).length)), .val (.ref b11)] []))
                                    exact s363 T28 _  (X28.more (by decide) (by decide)) N28 Z28 TBw28 Vew28 (by rw [show (if 0 < k8 then vs8.getD 0 0 else 0) = _ from if_pos (show 0 < k8 by rw [hk3]; exact (own_i_lt 0 (by omega) (((own_fl z8 vf) ++ own_e1 nA va p0) ++ own_e2 nA vb p0).length (by omega)).mp hc348_26)]; exact Vg28)
                                  · refine own_by (fun _ kz => XS.ifYes X11.here hx rfl (pc0 := 348) (pc' := 363) rfl (hb hby at_348) rfl ((if0 _ _).trans (flt hc348_26).2.2.2) (by decide) (by decide) kz) ?_
                                    show own_Go p.tables e below s _ _ _ (T11.setTop (mkF m 363 #[.val (.int p0), .val (.int p1), .val (.int p2), .val (.int p3), .val (.int p4), .val (.int va), .val (.int vb), .val (.int vf), .val (.int z8), .val (.int (own_i nA)), .val (.int z10), .val (.int i), .val (.ref b2), .val (.int (own_i ((own_rl nA va vb).count p0))), .val (.int (own_bt p0 (own_rl nA va vb))), .val (.int (own_bt p0 ((own_rl nA va vb).erase p0))), .val (.ref b9), .val (.int (own_i (((own_fl z8 vf) ++ own_e1 nA va p0) ++ own_e2 nA vb p0).length)), .val (.ref b11)] []))
                                    exact s363 T11 _  (X11.more (by decide) (by decide)) N10 Z11 TBn11 Ven11 (by rw [show (if 0 < k8 then vs8.getD 0 0 else 0) = _ from if_neg (show ¬ 0 < k8 from fun u => hc348_26 ((own_i_lt 0 (by omega) (((own_fl z8 vf) ++ own_e1 nA va p0) ++ own_e2 nA vb p0).length (by omega)).mpr (by rw [← hk3]; exact u)))]; exact V11)
                                refine own_by (fun _ kz => XS.iload X_s305.here hx rfl (hb hby at_305) rfl kz) ?_
                                show own_Go p.tables e below s _ _ _ (T_s305.setTop (mkF m 307 #[.val (.int p0), .val (.int p1), .val (.int p2), .val (.int p3), .val (.int p4), .val (.int va), .val (.int vb), .val (.int vf), .val (.int z8), .val (.int (own_i nA)), .val (.int z10), .val (.int i), .val (.ref b2), .val (.int (own_i ((own_rl nA va vb).count p0))), .val (.int (own_bt p0 (own_rl nA va vb))), .val (.int (own_bt p0 ((own_rl nA va vb).erase p0))), .val (.ref b9), .val (.int (own_i ((own_fl z8 vf) ++ own_e1 nA va p0).length)), .unset] [(.int (own_i nA))]))
                                refine own_by (fun _ kz => XS.iconst X_s305.here hx rfl (hb hby at_307) kz) ?_
                                show own_Go p.tables e below s _ _ _ (T_s305.setTop (mkF m 308 #[.val (.int p0), .val (.int p1), .val (.int p2), .val (.int p3), .val (.int p4), .val (.int va), .val (.int vb), .val (.int vf), .val (.int z8), .val (.int (own_i nA)), .val (.int z10), .val (.int i), .val (.ref b2), .val (.int (own_i ((own_rl nA va vb).count p0))), .val (.int (own_bt p0 (own_rl nA va vb))), .val (.int (own_bt p0 ((own_rl nA va vb).erase p0))), .val (.ref b9), .val (.int (own_i ((own_fl z8 vf) ++ own_e1 nA va p0).length)), .unset] [(.int (2 : Int32)), (.int (own_i nA))]))
                                by_cases hc308_29 : (own_i nA) < (2 : Int32)
                                · refine own_by (fun _ kz => XS.icmpYes X_s305.here hx rfl (pc0 := 308) (pc' := 327) rfl (hb hby at_308) rfl (tlt hc308_29).1 (by decide) (by decide) kz) ?_
                                  show own_Go p.tables e below s _ _ _ (T_s305.setTop (mkF m 327 #[.val (.int p0), .val (.int p1), .val (.int p2), .val (.int p3), .val (.int p4), .val (.int va), .val (.int vb), .val (.int vf), .val (.int z8), .val (.int (own_i nA)), .val (.int z10), .val (.int i), .val (.ref b2), .val (.int (own_i ((own_rl nA va vb).count p0))), .val (.int (own_bt p0 (own_rl nA va vb))), .val (.int (own_bt p0 ((own_rl nA va vb).erase p0))), .val (.ref b9), .val (.int (own_i ((own_fl z8 vf) ++ own_e1 nA va p0).length)), .unset] []))
                                  exact s327 T_s305 _ _ (X_s305.more (by decide) (by decide)) N_s305 Z_s305 TB_s305 (by rw [own_e2n (Or.inl ((own_ilt2 hnA).mp hc308_29)), List.append_nil]; exact Ve_s305) (by rw [own_e2n (Or.inl ((own_ilt2 hnA).mp hc308_29)), List.append_nil])
                                · refine own_by (fun _ kz => XS.icmpNo X_s305.here hx rfl (hb hby at_308) rfl (flt hc308_29).1 kz) ?_
                                  show own_Go p.tables e below s _ _ _ (T_s305.setTop (mkF m 311 #[.val (.int p0), .val (.int p1), .val (.int p2), .val (.int p3), .val (.int p4), .val (.int va), .val (.int vb), .val (.int vf), .val (.int z8), .val (.int (own_i nA)), .val (.int z10), .val (.int i), .val (.ref b2), .val (.int (own_i ((own_rl nA va vb).count p0))), .val (.int (own_bt p0 (own_rl nA va vb))), .val (.int (own_bt p0 ((own_rl nA va vb).erase p0))), .val (.ref b9), .val (.int (own_i ((own_fl z8 vf) ++ own_e1 nA va p0).length)), .unset] []))
                                  refine own_by (fun _ kz => XS.iload X_s305.here hx rfl (hb hby at_311) rfl kz) ?_
                                  show own_Go p.tables e below s _ _ _ (T_s305.setTop (mkF m 313 #[.val (.int p0), .val (.int p1), .val (.int p2), .val (.int p3), .val (.int p4), .val (.int va), .val (.int vb), .val (.int vf), .val (.int z8), .val (.int (own_i nA)), .val (.int z10), .val (.int i), .val (.ref b2), .val (.int (own_i ((own_rl nA va vb).count p0))), .val (.int (own_bt p0 (own_rl nA va vb))), .val (.int (own_bt p0 ((own_rl nA va vb).erase p0))), .val (.ref b9), .val (.int (own_i ((own_fl z8 vf) ++ own_e1 nA va p0).length)), .unset] [(.int vb)]))
                                  refine own_by (fun _ kz => XS.iloadN X_s305.here hx rfl (hb hby at_313) rfl kz) ?_
                                  show own_Go p.tables e below s _ _ _ (T_s305.setTop (mkF m 314 #[.val (.int p0), .val (.int p1), .val (.int p2), .val (.int p3), .val (.int p4), .val (.int va), .val (.int vb), .val (.int vf), .val (.int z8), .val (.int (own_i nA)), .val (.int z10), .val (.int i), .val (.ref b2), .val (.int (own_i ((own_rl nA va vb).count p0))), .val (.int (own_bt p0 (own_rl nA va vb))), .val (.int (own_bt p0 ((own_rl nA va vb).erase p0))), .val (.ref b9), .val (.int (own_i ((own_fl z8 vf) ++ own_e1 nA va p0).length)), .unset] [(.int p0), (.int vb)]))
                                  by_cases hc314_30 : vb = p0
                                  · refine own_by (fun _ kz => XS.icmpYes X_s305.here hx rfl (pc0 := 314) (pc' := 327) rfl (hb hby at_314) rfl (teq hc314_30).1 (by decide) (by decide) kz) ?_
                                    show own_Go p.tables e below s _ _ _ (T_s305.setTop (mkF m 327 #[.val (.int p0), .val (.int p1), .val (.int p2), .val (.int p3), .val (.int p4), .val (.int va), .val (.int vb), .val (.int vf), .val (.int z8), .val (.int (own_i nA)), .val (.int z10), .val (.int i), .val (.ref b2), .val (.int (own_i ((own_rl nA va vb).count p0))), .val (.int (own_bt p0 (own_rl nA va vb))), .val (.int (own_bt p0 ((own_rl nA va vb).erase p0))), .val (.ref b9), .val (.int (own_i ((own_fl z8 vf) ++ own_e1 nA va p0).length)), .unset] []))
                                    exact s327 T_s305 _ _ (X_s305.more (by decide) (by decide)) N_s305 Z_s305 TB_s305 (by rw [own_e2n (Or.inr hc314_30), List.append_nil]; exact Ve_s305) (by rw [own_e2n (Or.inr hc314_30), List.append_nil])
                                  · refine own_by (fun _ kz => XS.icmpNo X_s305.here hx rfl (hb hby at_314) rfl (feq hc314_30).1 kz) ?_
                                    show own_Go p.tables e below s _ _ _ (T_s305.setTop (mkF m 317 #[.val (.int p0), .val (.int p1), .val (.int p2), .val (.int p3), .val (.int p4), .val (.int va), .val (.int vb), .val (.int vf), .val (.int z8), .val (.int (own_i nA)), .val (.int z10), .val (.int i), .val (.ref b2), .val (.int (own_i ((own_rl nA va vb).count p0))), .val (.int (own_bt p0 (own_rl nA va vb))), .val (.int (own_bt p0 ((own_rl nA va vb).erase p0))), .val (.ref b9), .val (.int (own_i ((own_fl z8 vf) ++ own_e1 nA va p0).length)), .unset] []))
                                    refine own_by (fun _ kz => XS.aload X_s305.here hx rfl (hb hby at_317) rfl rfl kz) ?_
                                    show own_Go p.tables e below s _ _ _ (T_s305.setTop (mkF m 319 #[.val (.int p0), .val (.int p1), .val (.int p2), .val (.int p3), .val (.int p4), .val (.int va), .val (.int vb), .val (.int vf), .val (.int z8), .val (.int (own_i nA)), .val (.int z10), .val (.int i), .val (.ref b2), .val (.int (own_i ((own_rl nA va vb).count p0))), .val (.int (own_bt p0 (own_rl nA va vb))), .val (.int (own_bt p0 ((own_rl nA va vb).erase p0))), .val (.ref b9), .val (.int (own_i ((own_fl z8 vf) ++ own_e1 nA va p0).length)), .unset] [(.ref b9)]))
                                    refine own_by (fun _ kz => XS.iload X_s305.here hx rfl (hb hby at_319) rfl kz) ?_
                                    show own_Go p.tables e below s _ _ _ (T_s305.setTop (mkF m 321 #[.val (.int p0), .val (.int p1), .val (.int p2), .val (.int p3), .val (.int p4), .val (.int va), .val (.int vb), .val (.int vf), .val (.int z8), .val (.int (own_i nA)), .val (.int z10), .val (.int i), .val (.ref b2), .val (.int (own_i ((own_rl nA va vb).count p0))), .val (.int (own_bt p0 (own_rl nA va vb))), .val (.int (own_bt p0 ((own_rl nA va vb).erase p0))), .val (.ref b9), .val (.int (own_i ((own_fl z8 vf) ++ own_e1 nA va p0).length)), .unset] [(.int (own_i ((own_fl z8 vf) ++ own_e1 nA va p0).length)), (.ref b9)]))
                                    refine own_by (fun _ kz => XS.iload X_s305.here hx rfl (hb hby at_321) rfl kz) ?_
                                    show own_Go p.tables e below s _ _ _ (T_s305.setTop (mkF m 323 #[.val (.int p0), .val (.int p1), .val (.int p2), .val (.int p3), .val (.int p4), .val (.int va), .val (.int vb), .val (.int vf), .val (.int z8), .val (.int (own_i nA)), .val (.int z10), .val (.int i), .val (.ref b2), .val (.int (own_i ((own_rl nA va vb).count p0))), .val (.int (own_bt p0 (own_rl nA va vb))), .val (.int (own_bt p0 ((own_rl nA va vb).erase p0))), .val (.ref b9), .val (.int (own_i ((own_fl z8 vf) ++ own_e1 nA va p0).length)), .unset] [(.int vb), (.int (own_i ((own_fl z8 vf) ++ own_e1 nA va p0).length)), (.ref b9)]))
                                    have hq31 : ((own_fl z8 vf) ++ own_e1 nA va p0).length < 3 := by have q1 := own_fl_len z8 vf; have q2 := own_e1_len nA va p0; have q3 := own_e2_len nA vb p0; simp only [List.length_append, List.length_nil] at *; omega
                                    obtain ⟨T31, h31, X31, e31, W31, st31⟩ := own_st X_s305 hx hZ rfl Ve_s305 (j := (own_i ((own_fl z8 vf) ++ own_e1 nA va p0).length)) (own_i_lt3 hq31) (g := (mkF m 323 #[.val (.int p0), .val (.int p1), .val (.int p2), .val (.int p3), .val (.int p4), .val (.int va), .val (.int vb), .val (.int vf), .val (.int z8), .val (.int (own_i nA)), .val (.int z10), .val (.int i), .val (.ref b2), .val (.int (own_i ((own_rl nA va vb).count p0))), .val (.int (own_bt p0 (own_rl nA va vb))), .val (.int (own_bt p0 ((own_rl nA va vb).erase p0))), .val (.ref b9), .val (.int (own_i ((own_fl z8 vf) ++ own_e1 nA va p0).length)), .unset] [(.int vb), (.int (own_i ((own_fl z8 vf) ++ own_e1 nA va p0).length)), (.ref b9)])) rfl rfl (hb hby at_323)
                                    have N31 := Fr.snoc X31 N_s305 ge_b9
                                    have Z31 : n0 ≤ h31.size := by rw [W31.size]; exact Z_s305
                                    have TBw31 := TB_s305.wr W31 frs9
                                    have Ve31 : Arv Z h31 b9 k9 .int (3 : Int32) (own_iv (own_pad (((own_fl z8 vf) ++ own_e1 nA va p0) ++ [vb]))) (.int (0 : Int32)) := by rw [← own_pad_set ((own_fl z8 vf) ++ own_e1 nA va p0) vb hq31, ← own_iv_set]; exact own_set Ve_s305 (own_fit_int _) W31 (own_i_clamp _ (by omega)) (by rw [own_iv_len, own_pad_len]; exact hq31)
                                    rw [← e31] at TBw31 Ve31 Z31
                                    refine own_by st31 ?_
                                    show own_Go p.tables e below s _ _ _ (T31.setTop (mkF m 324 #[.val (.int p0), .val (.int p1), .val (.int p2), .val (.int p3), .val (.int p4), .val (.int va), .val (.int vb), .val (.int vf), .val (.int z8), .val (.int (own_i nA)), .val (.int z10), .val (.int i), .val (.ref b2), .val (.int (own_i ((own_rl nA va vb).count p0))), .val (.int (own_bt p0 (own_rl nA va vb))), .val (.int (own_bt p0 ((own_rl nA va vb).erase p0))), .val (.ref b9), .val (.int (own_i ((own_fl z8 vf) ++ own_e1 nA va p0).length)), .unset] []))
                                    refine own_by (fun _ kz => XS.iinc X31.here hx rfl (hb hby at_324) rfl (l' := #[.val (.int p0), .val (.int p1), .val (.int p2), .val (.int p3), .val (.int p4), .val (.int va), .val (.int vb), .val (.int vf), .val (.int z8), .val (.int (own_i nA)), .val (.int z10), .val (.int i), .val (.ref b2), .val (.int (own_i ((own_rl nA va vb).count p0))), .val (.int (own_bt p0 (own_rl nA va vb))), .val (.int (own_bt p0 ((own_rl nA va vb).erase p0))), .val (.ref b9), .val (.int ((own_i ((own_fl z8 vf) ++ own_e1 nA va p0).length) + (1 : Int32))), .unset]) rfl kz) ?_
                                    show own_Go p.tables e below s _ _ _ (T31.setTop (mkF m 327 #[.val (.int p0), .val (.int p1), .val (.int p2), .val (.int p3), .val (.int p4), .val (.int va), .val (.int vb), .val (.int vf), .val (.int z8), .val (.int (own_i nA)), .val (.int z10), .val (.int i), .val (.ref b2), .val (.int (own_i ((own_rl nA va vb).count p0))), .val (.int (own_bt p0 (own_rl nA va vb))), .val (.int (own_bt p0 ((own_rl nA va vb).erase p0))), .val (.ref b9), .val (.int ((own_i ((own_fl z8 vf) ++ own_e1 nA va p0).length) + (1 : Int32))), .unset] []))
                                    rw [own_i_succ (((own_fl z8 vf) ++ own_e1 nA va p0).length) (by have q1 := own_fl_len z8 vf; have q2 := own_e1_len nA va p0; rw [List.length_append]; omega)]
                                    show own_Go p.tables e below s _ _ _ (T31.setTop (mkF m 327 #[.val (.int p0), .val (.int p1), .val (.int p2), .val (.int p3), .val (.int p4), .val (.int va), .val (.int vb), .val (.int vf), .val (.int z8), .val (.int (own_i nA)), .val (.int z10), .val (.int i), .val (.ref b2), .val (.int (own_i ((own_rl nA va vb).count p0))), .val (.int (own_bt p0 (own_rl nA va vb))), .val (.int (own_bt p0 ((own_rl nA va vb).erase p0))), .val (.ref b9), .val (.int (own_i (((own_fl z8 vf) ++ own_e1 nA va p0).length + 1))), .unset] []))
                                    exact s327 T31 _ _ (X31.more (by decide) (by decide)) N31 Z31 TBw31 (by rw [own_e2y (fun q => hc308_29 ((own_ilt2 hnA).mpr q)) hc314_30]; exact Ve31) (by rw [own_e2y (fun q => hc308_29 ((own_ilt2 hnA).mpr q)) hc314_30, List.length_append (bs := [vb])]; rfl)
                              refine own_by (fun _ kz => XS.iload X_s283.here hx rfl (hb hby at_283) rfl kz) ?_
                              show own_Go p.tables e below s _ _ _ (T_s283.setTop (mkF m 285 #[.val (.int p0), .val (.int p1), .val (.int p2), .val (.int p3), .val (.int p4), .val (.int va), .val (.int vb), .val (.int vf), .val (.int z8), .val (.int (own_i nA)), .val (.int z10), .val (.int i), .val (.ref b2), .val (.int (own_i ((own_rl nA va vb).count p0))), .val (.int (own_bt p0 (own_rl nA va vb))), .val (.int (own_bt p0 ((own_rl nA va vb).erase p0))), .val (.ref b9), .val (.int (own_i (own_fl z8 vf).length)), .unset] [(.int (own_i nA))]))
                              refine own_by (fun _ kz => XS.iconst X_s283.here hx rfl (hb hby at_285) kz) ?_
                              show own_Go p.tables e below s _ _ _ (T_s283.setTop (mkF m 286 #[.val (.int p0), .val (.int p1), .val (.int p2), .val (.int p3), .val (.int p4), .val (.int va), .val (.int vb), .val (.int vf), .val (.int z8), .val (.int (own_i nA)), .val (.int z10), .val (.int i), .val (.ref b2), .val (.int (own_i ((own_rl nA va vb).count p0))), .val (.int (own_bt p0 (own_rl nA va vb))), .val (.int (own_bt p0 ((own_rl nA va vb).erase p0))), .val (.ref b9), .val (.int (own_i (own_fl z8 vf).length)), .unset] [(.int (1 : Int32)), (.int (own_i nA))]))
                              by_cases hc286_32 : (own_i nA) < (1 : Int32)
                              · refine own_by (fun _ kz => XS.icmpYes X_s283.here hx rfl (pc0 := 286) (pc' := 305) rfl (hb hby at_286) rfl (tlt hc286_32).1 (by decide) (by decide) kz) ?_
                                show own_Go p.tables e below s _ _ _ (T_s283.setTop (mkF m 305 #[.val (.int p0), .val (.int p1), .val (.int p2), .val (.int p3), .val (.int p4), .val (.int va), .val (.int vb), .val (.int vf), .val (.int z8), .val (.int (own_i nA)), .val (.int z10), .val (.int i), .val (.ref b2), .val (.int (own_i ((own_rl nA va vb).count p0))), .val (.int (own_bt p0 (own_rl nA va vb))), .val (.int (own_bt p0 ((own_rl nA va vb).erase p0))), .val (.ref b9), .val (.int (own_i (own_fl z8 vf).length)), .unset] []))
                                exact s305 T_s283 _ _ (X_s283.more (by decide) (by decide)) N_s283 Z_s283 TB_s283 (by rw [own_e1n (Or.inl ((own_ilt1 hnA).mp hc286_32)), List.append_nil]; exact Ve_s283) (by rw [own_e1n (Or.inl ((own_ilt1 hnA).mp hc286_32)), List.append_nil])
                              · refine own_by (fun _ kz => XS.icmpNo X_s283.here hx rfl (hb hby at_286) rfl (flt hc286_32).1 kz) ?_
                                show own_Go p.tables e below s _ _ _ (T_s283.setTop (mkF m 289 #[.val (.int p0), .val (.int p1), .val (.int p2), .val (.int p3), .val (.int p4), .val (.int va), .val (.int vb), .val (.int vf), .val (.int z8), .val (.int (own_i nA)), .val (.int z10), .val (.int i), .val (.ref b2), .val (.int (own_i ((own_rl nA va vb).count p0))), .val (.int (own_bt p0 (own_rl nA va vb))), .val (.int (own_bt p0 ((own_rl nA va vb).erase p0))), .val (.ref b9), .val (.int (own_i (own_fl z8 vf).length)), .unset] []))
                                refine own_by (fun _ kz => XS.iload X_s283.here hx rfl (hb hby at_289) rfl kz) ?_
                                show own_Go p.tables e below s _ _ _ (T_s283.setTop (mkF m 291 #[.val (.int p0), .val (.int p1), .val (.int p2), .val (.int p3), .val (.int p4), .val (.int va), .val (.int vb), .val (.int vf), .val (.int z8), .val (.int (own_i nA)), .val (.int z10), .val (.int i), .val (.ref b2), .val (.int (own_i ((own_rl nA va vb).count p0))), .val (.int (own_bt p0 (own_rl nA va vb))), .val (.int (own_bt p0 ((own_rl nA va vb).erase p0))), .val (.ref b9), .val (.int (own_i (own_fl z8 vf).length)), .unset] [(.int va)]))
                                refine own_by (fun _ kz => XS.iloadN X_s283.here hx rfl (hb hby at_291) rfl kz) ?_
                                show own_Go p.tables e below s _ _ _ (T_s283.setTop (mkF m 292 #[.val (.int p0), .val (.int p1), .val (.int p2), .val (.int p3), .val (.int p4), .val (.int va), .val (.int vb), .val (.int vf), .val (.int z8), .val (.int (own_i nA)), .val (.int z10), .val (.int i), .val (.ref b2), .val (.int (own_i ((own_rl nA va vb).count p0))), .val (.int (own_bt p0 (own_rl nA va vb))), .val (.int (own_bt p0 ((own_rl nA va vb).erase p0))), .val (.ref b9), .val (.int (own_i (own_fl z8 vf).length)), .unset] [(.int p0), (.int va)]))
                                by_cases hc292_33 : va = p0
                                · refine own_by (fun _ kz => XS.icmpYes X_s283.here hx rfl (pc0 := 292) (pc' := 305) rfl (hb hby at_292) rfl (teq hc292_33).1 (by decide) (by decide) kz) ?_
                                  show own_Go p.tables e below s _ _ _ (T_s283.setTop (mkF m 305 #[.val (.int p0), .val (.int p1), .val (.int p2), .val (.int p3), .val (.int p4), .val (.int va), .val (.int vb), .val (.int vf), .val (.int z8), .val (.int (own_i nA)), .val (.int z10), .val (.int i), .val (.ref b2), .val (.int (own_i ((own_rl nA va vb).count p0))), .val (.int (own_bt p0 (own_rl nA va vb))), .val (.int (own_bt p0 ((own_rl nA va vb).erase p0))), .val (.ref b9), .val (.int (own_i (own_fl z8 vf).length)), .unset] []))
                                  exact s305 T_s283 _ _ (X_s283.more (by decide) (by decide)) N_s283 Z_s283 TB_s283 (by rw [own_e1n (Or.inr hc292_33), List.append_nil]; exact Ve_s283) (by rw [own_e1n (Or.inr hc292_33), List.append_nil])
                                · refine own_by (fun _ kz => XS.icmpNo X_s283.here hx rfl (hb hby at_292) rfl (feq hc292_33).1 kz) ?_
                                  show own_Go p.tables e below s _ _ _ (T_s283.setTop (mkF m 295 #[.val (.int p0), .val (.int p1), .val (.int p2), .val (.int p3), .val (.int p4), .val (.int va), .val (.int vb), .val (.int vf), .val (.int z8), .val (.int (own_i nA)), .val (.int z10), .val (.int i), .val (.ref b2), .val (.int (own_i ((own_rl nA va vb).count p0))), .val (.int (own_bt p0 (own_rl nA va vb))), .val (.int (own_bt p0 ((own_rl nA va vb).erase p0))), .val (.ref b9), .val (.int (own_i (own_fl z8 vf).length)), .unset] []))
                                  refine own_by (fun _ kz => XS.aload X_s283.here hx rfl (hb hby at_295) rfl rfl kz) ?_
                                  show own_Go p.tables e below s _ _ _ (T_s283.setTop (mkF m 297 #[.val (.int p0), .val (.int p1), .val (.int p2), .val (.int p3), .val (.int p4), .val (.int va), .val (.int vb), .val (.int vf), .val (.int z8), .val (.int (own_i nA)), .val (.int z10), .val (.int i), .val (.ref b2), .val (.int (own_i ((own_rl nA va vb).count p0))), .val (.int (own_bt p0 (own_rl nA va vb))), .val (.int (own_bt p0 ((own_rl nA va vb).erase p0))), .val (.ref b9), .val (.int (own_i (own_fl z8 vf).length)), .unset] [(.ref b9)]))
                                  refine own_by (fun _ kz => XS.iload X_s283.here hx rfl (hb hby at_297) rfl kz) ?_
                                  show own_Go p.tables e below s _ _ _ (T_s283.setTop (mkF m 299 #[.val (.int p0), .val (.int p1), .val (.int p2), .val (.int p3), .val (.int p4), .val (.int va), .val (.int vb), .val (.int vf), .val (.int z8), .val (.int (own_i nA)), .val (.int z10), .val (.int i), .val (.ref b2), .val (.int (own_i ((own_rl nA va vb).count p0))), .val (.int (own_bt p0 (own_rl nA va vb))), .val (.int (own_bt p0 ((own_rl nA va vb).erase p0))), .val (.ref b9), .val (.int (own_i (own_fl z8 vf).length)), .unset] [(.int (own_i (own_fl z8 vf).length)), (.ref b9)]))
                                  refine own_by (fun _ kz => XS.iload X_s283.here hx rfl (hb hby at_299) rfl kz) ?_
                                  show own_Go p.tables e below s _ _ _ (T_s283.setTop (mkF m 301 #[.val (.int p0), .val (.int p1), .val (.int p2), .val (.int p3), .val (.int p4), .val (.int va), .val (.int vb), .val (.int vf), .val (.int z8), .val (.int (own_i nA)), .val (.int z10), .val (.int i), .val (.ref b2), .val (.int (own_i ((own_rl nA va vb).count p0))), .val (.int (own_bt p0 (own_rl nA va vb))), .val (.int (own_bt p0 ((own_rl nA va vb).erase p0))), .val (.ref b9), .val (.int (own_i (own_fl z8 vf).length)), .unset] [(.int va), (.int (own_i (own_fl z8 vf).length)), (.ref b9)]))
                                  have hq34 : (own_fl z8 vf).length < 3 := by have q1 := own_fl_len z8 vf; have q2 := own_e1_len nA va p0; have q3 := own_e2_len nA vb p0; simp only [List.length_append, List.length_nil] at *; omega
                                  obtain ⟨T34, h34, X34, e34, W34, st34⟩ := own_st X_s283 hx hZ rfl Ve_s283 (j := (own_i (own_fl z8 vf).length)) (own_i_lt3 hq34) (g := (mkF m 301 #[.val (.int p0), .val (.int p1), .val (.int p2), .val (.int p3), .val (.int p4), .val (.int va), .val (.int vb), .val (.int vf), .val (.int z8), .val (.int (own_i nA)), .val (.int z10), .val (.int i), .val (.ref b2), .val (.int (own_i ((own_rl nA va vb).count p0))), .val (.int (own_bt p0 (own_rl nA va vb))), .val (.int (own_bt p0 ((own_rl nA va vb).erase p0))), .val (.ref b9), .val (.int (own_i (own_fl z8 vf).length)), .unset] [(.int va), (.int (own_i (own_fl z8 vf).length)), (.ref b9)])) rfl rfl (hb hby at_301)
                                  have N34 := Fr.snoc X34 N_s283 ge_b9
                                  have Z34 : n0 ≤ h34.size := by rw [W34.size]; exact Z_s283
                                  have TBw34 := TB_s283.wr W34 frs9
                                  have Ve34 : Arv Z h34 b9 k9 .int (3 : Int32) (own_iv (own_pad ((own_fl z8 vf) ++ [va]))) (.int (0 : Int32)) := by rw [← own_pad_set (own_fl z8 vf) va hq34, ← own_iv_set]; exact own_set Ve_s283 (own_fit_int _) W34 (own_i_clamp _ (by omega)) (by rw [own_iv_len, own_pad_len]; exact hq34)
                                  rw [← e34] at TBw34 Ve34 Z34
                                  refine own_by st34 ?_
                                  show own_Go p.tables e below s _ _ _ (T34.setTop (mkF m 302 #[.val (.int p0), .val (.int p1), .val (.int p2), .val (.int p3), .val (.int p4), .val (.int va), .val (.int vb), .val (.int vf), .val (.int z8), .val (.int (own_i nA)), .val (.int z10), .val (.int i), .val (.ref b2), .val (.int (own_i ((own_rl nA va vb).count p0))), .val (.int (own_bt p0 (own_rl nA va vb))), .val (.int (own_bt p0 ((own_rl nA va vb).erase p0))), .val (.ref b9), .val (.int (own_i (own_fl z8 vf).length)), .unset] []))
                                  refine own_by (fun _ kz => XS.iinc X34.here hx rfl (hb hby at_302) rfl (l' := #[.val (.int p0), .val (.int p1), .val (.int p2), .val (.int p3), .val (.int p4), .val (.int va), .val (.int vb), .val (.int vf), .val (.int z8), .val (.int (own_i nA)), .val (.int z10), .val (.int i), .val (.ref b2), .val (.int (own_i ((own_rl nA va vb).count p0))), .val (.int (own_bt p0 (own_rl nA va vb))), .val (.int (own_bt p0 ((own_rl nA va vb).erase p0))), .val (.ref b9), .val (.int ((own_i (own_fl z8 vf).length) + (1 : Int32))), .unset]) rfl kz) ?_
                                  show own_Go p.tables e below s _ _ _ (T34.setTop (mkF m 305 #[.val (.int p0), .val (.int p1), .val (.int p2), .val (.int p3), .val (.int p4), .val (.int va), .val (.int vb), .val (.int vf), .val (.int z8), .val (.int (own_i nA)), .val (.int z10), .val (.int i), .val (.ref b2), .val (.int (own_i ((own_rl nA va vb).count p0))), .val (.int (own_bt p0 (own_rl nA va vb))), .val (.int (own_bt p0 ((own_rl nA va vb).erase p0))), .val (.ref b9), .val (.int ((own_i (own_fl z8 vf).length) + (1 : Int32))), .unset] []))
                                  rw [own_i_succ ((own_fl z8 vf).length) (by have q1 := own_fl_len z8 vf; omega)]
                                  show own_Go p.tables e below s _ _ _ (T34.setTop (mkF m 305 #[.val (.int p0), .val (.int p1), .val (.int p2), .val (.int p3), .val (.int p4), .val (.int va), .val (.int vb), .val (.int vf), .val (.int z8), .val (.int (own_i nA)), .val (.int z10), .val (.int i), .val (.ref b2), .val (.int (own_i ((own_rl nA va vb).count p0))), .val (.int (own_bt p0 (own_rl nA va vb))), .val (.int (own_bt p0 ((own_rl nA va vb).erase p0))), .val (.ref b9), .val (.int (own_i ((own_fl z8 vf).length + 1))), .unset] []))
                                  exact s305 T34 _ _ (X34.more (by decide) (by decide)) N34 Z34 TBw34 (by rw [own_e1y (fun q => hc286_32 ((own_ilt1 hnA).mpr q)) hc292_33]; exact Ve34) (by rw [own_e1y (fun q => hc286_32 ((own_ilt1 hnA).mpr q)) hc292_33, List.length_append]; rfl)
                            show own_Go p.tables e below s _ _ _ (T9.setTop (mkF m 268 #[.val (.int p0), .val (.int p1), .val (.int p2), .val (.int p3), .val (.int p4), .val (.int va), .val (.int vb), .val (.int vf), .val (.int z8), .val (.int (own_i nA)), .val (.int z10), .val (.int i), .val (.ref b2), .val (.int (own_i ((own_rl nA va vb).count p0))), .val (.int (own_bt p0 (own_rl nA va vb))), .val (.int (own_bt p0 ((own_rl nA va vb).erase p0))), .val (.ref b9), .val (.int (own_i ([] : List Int32).length)), .unset] []))
                            refine own_by (fun _ kz => XS.iload X9.here hx rfl (hb hby at_268) rfl kz) ?_
                            show own_Go p.tables e below s _ _ _ (T9.setTop (mkF m 270 #[.val (.int p0), .val (.int p1), .val (.int p2), .val (.int p3), .val (.int p4), .val (.int va), .val (.int vb), .val (.int vf), .val (.int z8), .val (.int (own_i nA)), .val (.int z10), .val (.int i), .val (.ref b2), .val (.int (own_i ((own_rl nA va vb).count p0))), .val (.int (own_bt p0 (own_rl nA va vb))), .val (.int (own_bt p0 ((own_rl nA va vb).erase p0))), .val (.ref b9), .val (.int (own_i ([] : List Int32).length)), .unset] [(.int z8)]))
                            by_cases hc270_35 : z8 = (0 : Int32)
                            · refine own_by (fun _ kz => XS.ifYes X9.here hx rfl (pc0 := 270) (pc' := 283) rfl (hb hby at_270) rfl ((if0 _ _).trans (teq hc270_35).1) (by decide) (by decide) kz) ?_
                              show own_Go p.tables e below s _ _ _ (T9.setTop (mkF m 283 #[.val (.int p0), .val (.int p1), .val (.int p2), .val (.int p3), .val (.int p4), .val (.int va), .val (.int vb), .val (.int vf), .val (.int z8), .val (.int (own_i nA)), .val (.int z10), .val (.int i), .val (.ref b2), .val (.int (own_i ((own_rl nA va vb).count p0))), .val (.int (own_bt p0 (own_rl nA va vb))), .val (.int (own_bt p0 ((own_rl nA va vb).erase p0))), .val (.ref b9), .val (.int (own_i ([] : List Int32).length)), .unset] []))
                              exact s283 T9 _ _ (X9.more (by decide) (by decide)) N7 Z9 TBn9 (by rw [own_fl0 hc270_35]; exact Vp9) (by rw [own_fl0 hc270_35]; first | done | rfl)
                            · refine own_by (fun _ kz => XS.ifNo X9.here hx rfl (hb hby at_270) rfl ((if0 _ _).trans (feq hc270_35).1) kz) ?_
                              show own_Go p.tables e below s _ _ _ (T9.setTop (mkF m 273 #[.val (.int p0), .val (.int p1), .val (.int p2), .val (.int p3), .val (.int p4), .val (.int va), .val (.int vb), .val (.int vf), .val (.int z8), .val (.int (own_i nA)), .val (.int z10), .val (.int i), .val (.ref b2), .val (.int (own_i ((own_rl nA va vb).count p0))), .val (.int (own_bt p0 (own_rl nA va vb))), .val (.int (own_bt p0 ((own_rl nA va vb).erase p0))), .val (.ref b9), .val (.int (own_i ([] : List Int32).length)), .unset] []))
                              refine own_by (fun _ kz => XS.aload X9.here hx rfl (hb hby at_273) rfl rfl kz) ?_
                              show own_Go p.tables e below s _ _ _ (T9.setTop (mkF m 275 #[.val (.int p0), .val (.int p1), .val (.int p2), .val (.int p3), .val (.int p4), .val (.int va), .val (.int vb), .val (.int vf), .val (.int z8), .val (.int (own_i nA)), .val (.int z10), .val (.int i), .val (.ref b2), .val (.int (own_i ((own_rl nA va vb).count p0))), .val (.int (own_bt p0 (own_rl nA va vb))), .val (.int (own_bt p0 ((own_rl nA va vb).erase p0))), .val (.ref b9), .val (.int (own_i ([] : List Int32).length)), .unset] [(.ref b9)]))
                              refine own_by (fun _ kz => XS.iload X9.here hx rfl (hb hby at_275) rfl kz) ?_
                              show own_Go p.tables e below s _ _ _ (T9.setTop (mkF m 277 #[.val (.int p0), .val (.int p1), .val (.int p2), .val (.int p3), .val (.int p4), .val (.int va), .val (.int vb), .val (.int vf), .val (.int z8), .val (.int (own_i nA)), .val (.int z10), .val (.int i), .val (.ref b2), .val (.int (own_i ((own_rl nA va vb).count p0))), .val (.int (own_bt p0 (own_rl nA va vb))), .val (.int (own_bt p0 ((own_rl nA va vb).erase p0))), .val (.ref b9), .val (.int (own_i ([] : List Int32).length)), .unset] [(.int (own_i ([] : List Int32).length)), (.ref b9)]))
                              refine own_by (fun _ kz => XS.iload X9.here hx rfl (hb hby at_277) rfl kz) ?_
                              show own_Go p.tables e below s _ _ _ (T9.setTop (mkF m 279 #[.val (.int p0), .val (.int p1), .val (.int p2), .val (.int p3), .val (.int p4), .val (.int va), .val (.int vb), .val (.int vf), .val (.int z8), .val (.int (own_i nA)), .val (.int z10), .val (.int i), .val (.ref b2), .val (.int (own_i ((own_rl nA va vb).count p0))), .val (.int (own_bt p0 (own_rl nA va vb))), .val (.int (own_bt p0 ((own_rl nA va vb).erase p0))), .val (.ref b9), .val (.int (own_i ([] : List Int32).length)), .unset] [(.int vf), (.int (own_i ([] : List Int32).length)), (.ref b9)]))
                              have hq36 : ([] : List Int32).length < 3 := by decide
                              obtain ⟨T36, h36, X36, e36, W36, st36⟩ := own_st X9 hx hZ rfl Vp9 (j := (own_i ([] : List Int32).length)) (own_i_lt3 hq36) (g := (mkF m 279 #[.val (.int p0), .val (.int p1), .val (.int p2), .val (.int p3), .val (.int p4), .val (.int va), .val (.int vb), .val (.int vf), .val (.int z8), .val (.int (own_i nA)), .val (.int z10), .val (.int i), .val (.ref b2), .val (.int (own_i ((own_rl nA va vb).count p0))), .val (.int (own_bt p0 (own_rl nA va vb))), .val (.int (own_bt p0 ((own_rl nA va vb).erase p0))), .val (.ref b9), .val (.int (own_i ([] : List Int32).length)), .unset] [(.int vf), (.int (own_i ([] : List Int32).length)), (.ref b9)])) rfl rfl (hb hby at_279)
                              have N36 := Fr.snoc X36 N7 ge_b9
                              have Z36 : n0 ≤ h36.size := by rw [W36.size]; exact Z9
                              have TBw36 := TBn9.wr W36 frs9
                              have Ve36 : Arv Z h36 b9 k9 .int (3 : Int32) (own_iv (own_pad (([] : List Int32) ++ [vf]))) (.int (0 : Int32)) := by rw [← own_pad_set ([] : List Int32) vf hq36, ← own_iv_set]; exact own_set Vp9 (own_fit_int _) W36 (own_i_clamp _ (by omega)) (by rw [own_iv_len, own_pad_len]; exact hq36)
                              rw [← e36] at TBw36 Ve36 Z36
                              refine own_by st36 ?_
                              show own_Go p.tables e below s _ _ _ (T36.setTop (mkF m 280 #[.val (.int p0), .val (.int p1), .val (.int p2), .val (.int p3), .val (.int p4), .val (.int va), .val (.int vb), .val (.int vf), .val (.int z8), .val (.int (own_i nA)), .val (.int z10), .val (.int i), .val (.ref b2), .val (.int (own_i ((own_rl nA va vb).count p0))), .val (.int (own_bt p0 (own_rl nA va vb))), .val (.int (own_bt p0 ((own_rl nA va vb).erase p0))), .val (.ref b9), .val (.int (own_i ([] : List Int32).length)), .unset] []))
                              refine own_by (fun _ kz => XS.iinc X36.here hx rfl (hb hby at_280) rfl (l' := #[.val (.int p0), .val (.int p1), .val (.int p2), .val (.int p3), .val (.int p4), .val (.int va), .val (.int vb), .val (.int vf), .val (.int z8), .val (.int (own_i nA)), .val (.int z10), .val (.int i), .val (.ref b2), .val (.int (own_i ((own_rl nA va vb).count p0))), .val (.int (own_bt p0 (own_rl nA va vb))), .val (.int (own_bt p0 ((own_rl nA va vb).erase p0))), .val (.ref b9), .val (.int ((own_i ([] : List Int32).length) + (1 : Int32))), .unset]) rfl kz) ?_
                              show own_Go p.tables e below s _ _ _ (T36.setTop (mkF m 283 #[.val (.int p0), .val (.int p1), .val (.int p2), .val (.int p3), .val (.int p4), .val (.int va), .val (.int vb), .val (.int vf), .val (.int z8), .val (.int (own_i nA)), .val (.int z10), .val (.int i), .val (.ref b2), .val (.int (own_i ((own_rl nA va vb).count p0))), .val (.int (own_bt p0 (own_rl nA va vb))), .val (.int (own_bt p0 ((own_rl nA va vb).erase p0))), .val (.ref b9), .val (.int ((own_i ([] : List Int32).length) + (1 : Int32))), .unset] []))
                              rw [own_i_succ (([] : List Int32).length) (by first | decide | (have q1 := own_fl_len z8 vf; omega))]
                              show own_Go p.tables e below s _ _ _ (T36.setTop (mkF m 283 #[.val (.int p0), .val (.int p1), .val (.int p2), .val (.int p3), .val (.int p4), .val (.int va), .val (.int vb), .val (.int vf), .val (.int z8), .val (.int (own_i nA)), .val (.int z10), .val (.int i), .val (.ref b2), .val (.int (own_i ((own_rl nA va vb).count p0))), .val (.int (own_bt p0 (own_rl nA va vb))), .val (.int (own_bt p0 ((own_rl nA va vb).erase p0))), .val (.ref b9), .val (.int (own_i (([] : List Int32).length + 1))), .unset] []))
                              exact s283 T36 _ _ (X36.more (by decide) (by decide)) N36 Z36 TBw36 (by rw [own_fl1 hc270_35]; exact Ve36) (by rw [own_fl1 hc270_35]; first | done | rfl)
                          refine own_by (fun _ kz => XS.iload X7.here hx rfl (hb hby at_242) rfl kz) ?_
                          show own_Go p.tables e below s _ _ _ (T7.setTop (mkF m 244 #[.val (.int p0), .val (.int p1), .val (.int p2), .val (.int p3), .val (.int p4), .val (.int va), .val (.int vb), .val (.int vf), .val (.int z8), .val (.int (own_i nA)), .val (.int z10), .val (.int i), .val (.ref b2), .val (.int (own_i ((own_rl nA va vb).count p0))), .val (.int (own_bt p0 (own_rl nA va vb))), .val (.int (own_bt p0 ((own_rl nA va vb).erase p0))), .unset, .unset, .unset] [(.int (own_bt p0 ((own_rl nA va vb).erase p0)))]))
                          refine own_by (fun _ kz => XS.iload X7.here hx rfl (hb hby at_244) rfl kz) ?_
                          show own_Go p.tables e below s _ _ _ (T7.setTop (mkF m 246 #[.val (.int p0), .val (.int p1), .val (.int p2), .val (.int p3), .val (.int p4), .val (.int va), .val (.int vb), .val (.int vf), .val (.int z8), .val (.int (own_i nA)), .val (.int z10), .val (.int i), .val (.ref b2), .val (.int (own_i ((own_rl nA va vb).count p0))), .val (.int (own_bt p0 (own_rl nA va vb))), .val (.int (own_bt p0 ((own_rl nA va vb).erase p0))), .unset, .unset, .unset] [(.int (own_i ((own_rl nA va vb).count p0))), (.int (own_bt p0 ((own_rl nA va vb).erase p0)))]))
                          refine own_by (fun _ kz => XS.iconst X7.here hx rfl (hb hby at_246) kz) ?_
                          show own_Go p.tables e below s _ _ _ (T7.setTop (mkF m 247 #[.val (.int p0), .val (.int p1), .val (.int p2), .val (.int p3), .val (.int p4), .val (.int va), .val (.int vb), .val (.int vf), .val (.int z8), .val (.int (own_i nA)), .val (.int z10), .val (.int i), .val (.ref b2), .val (.int (own_i ((own_rl nA va vb).count p0))), .val (.int (own_bt p0 (own_rl nA va vb))), .val (.int (own_bt p0 ((own_rl nA va vb).erase p0))), .unset, .unset, .unset] [(.int (2 : Int32)), (.int (own_i ((own_rl nA va vb).count p0))), (.int (own_bt p0 ((own_rl nA va vb).erase p0)))]))
                          by_cases hc247_37 : (own_i ((own_rl nA va vb).count p0)) < (2 : Int32)
                          · refine own_by (fun _ kz => XS.icmpYes X7.here hx rfl (pc0 := 247) (pc' := 254) rfl (hb hby at_247) rfl (tlt hc247_37).1 (by decide) (by decide) kz) ?_
                            show own_Go p.tables e below s _ _ _ (T7.setTop (mkF m 254 #[.val (.int p0), .val (.int p1), .val (.int p2), .val (.int p3), .val (.int p4), .val (.int va), .val (.int vb), .val (.int vf), .val (.int z8), .val (.int (own_i nA)), .val (.int z10), .val (.int i), .val (.ref b2), .val (.int (own_i ((own_rl nA va vb).count p0))), .val (.int (own_bt p0 (own_rl nA va vb))), .val (.int (own_bt p0 ((own_rl nA va vb).erase p0))), .unset, .unset, .unset] [(.int (own_bt p0 ((own_rl nA va vb).erase p0)))]))
                            refine own_by (fun _ kz => XS.iconst X7.here hx rfl (hb hby at_254) kz) ?_
                            show own_Go p.tables e below s _ _ _ (T7.setTop (mkF m 255 #[.val (.int p0), .val (.int p1), .val (.int p2), .val (.int p3), .val (.int p4), .val (.int va), .val (.int vb), .val (.int vf), .val (.int z8), .val (.int (own_i nA)), .val (.int z10), .val (.int i), .val (.ref b2), .val (.int (own_i ((own_rl nA va vb).count p0))), .val (.int (own_bt p0 (own_rl nA va vb))), .val (.int (own_bt p0 ((own_rl nA va vb).erase p0))), .unset, .unset, .unset] [(.int (0 : Int32)), (.int (own_bt p0 ((own_rl nA va vb).erase p0)))]))
                            have hz255 : (own_bt p0 ((own_rl nA va vb).erase p0)) = (0 : Int32) := (own_bt2_iff p0 (own_rl nA va vb)).2 ((own_ilt2 (own_ctl _ _ (own_rl_len nA va vb))).mp hc247_37)
                            refine own_by (fun _ kz => XS.icmpYes X7.here hx rfl (pc0 := 255) (pc' := 260) rfl (hb hby at_255) rfl (teq hz255).1 (by decide) (by decide) kz) ?_
                            show own_Go p.tables e below s _ _ _ (T7.setTop (mkF m 260 #[.val (.int p0), .val (.int p1), .val (.int p2), .val (.int p3), .val (.int p4), .val (.int va), .val (.int vb), .val (.int vf), .val (.int z8), .val (.int (own_i nA)), .val (.int z10), .val (.int i), .val (.ref b2), .val (.int (own_i ((own_rl nA va vb).count p0))), .val (.int (own_bt p0 (own_rl nA va vb))), .val (.int (own_bt p0 ((own_rl nA va vb).erase p0))), .unset, .unset, .unset] []))
                            exact j260 trivial
                          · refine own_by (fun _ kz => XS.icmpNo X7.here hx rfl (hb hby at_247) rfl (flt hc247_37).1 kz) ?_
                            show own_Go p.tables e below s _ _ _ (T7.setTop (mkF m 250 #[.val (.int p0), .val (.int p1), .val (.int p2), .val (.int p3), .val (.int p4), .val (.int va), .val (.int vb), .val (.int vf), .val (.int z8), .val (.int (own_i nA)), .val (.int z10), .val (.int i), .val (.ref b2), .val (.int (own_i ((own_rl nA va vb).count p0))), .val (.int (own_bt p0 (own_rl nA va vb))), .val (.int (own_bt p0 ((own_rl nA va vb).erase p0))), .unset, .unset, .unset] [(.int (own_bt p0 ((own_rl nA va vb).erase p0)))]))
                            refine own_by (fun _ kz => XS.iconst X7.here hx rfl (hb hby at_250) kz) ?_
                            show own_Go p.tables e below s _ _ _ (T7.setTop (mkF m 251 #[.val (.int p0), .val (.int p1), .val (.int p2), .val (.int p3), .val (.int p4), .val (.int va), .val (.int vb), .val (.int vf), .val (.int z8), .val (.int (own_i nA)), .val (.int z10), .val (.int i), .val (.ref b2), .val (.int (own_i ((own_rl nA va vb).count p0))), .val (.int (own_bt p0 (own_rl nA va vb))), .val (.int (own_bt p0 ((own_rl nA va vb).erase p0))), .unset, .unset, .unset] [(.int (1 : Int32)), (.int (own_bt p0 ((own_rl nA va vb).erase p0)))]))
                            refine own_by (fun _ kz => XS.goto X7.here hx rfl (pc0 := 251) (pc' := 255) rfl (hb hby at_251) (by decide) (by decide) kz) ?_
                            show own_Go p.tables e below s _ _ _ (T7.setTop (mkF m 255 #[.val (.int p0), .val (.int p1), .val (.int p2), .val (.int p3), .val (.int p4), .val (.int va), .val (.int vb), .val (.int vf), .val (.int z8), .val (.int (own_i nA)), .val (.int z10), .val (.int i), .val (.ref b2), .val (.int (own_i ((own_rl nA va vb).count p0))), .val (.int (own_bt p0 (own_rl nA va vb))), .val (.int (own_bt p0 ((own_rl nA va vb).erase p0))), .unset, .unset, .unset] [(.int (1 : Int32)), (.int (own_bt p0 ((own_rl nA va vb).erase p0)))]))
                            have hz255 : (own_bt p0 ((own_rl nA va vb).erase p0)) = (1 : Int32) := (own_bt2_iff p0 (own_rl nA va vb)).1 (Nat.le_of_not_lt fun q => hc247_37 ((own_ilt2 (own_ctl _ _ (own_rl_len nA va vb))).mpr q))
                            refine own_by (fun _ kz => XS.icmpYes X7.here hx rfl (pc0 := 255) (pc' := 260) rfl (hb hby at_255) rfl (teq hz255).1 (by decide) (by decide) kz) ?_
                            show own_Go p.tables e below s _ _ _ (T7.setTop (mkF m 260 #[.val (.int p0), .val (.int p1), .val (.int p2), .val (.int p3), .val (.int p4), .val (.int va), .val (.int vb), .val (.int vf), .val (.int z8), .val (.int (own_i nA)), .val (.int z10), .val (.int i), .val (.ref b2), .val (.int (own_i ((own_rl nA va vb).count p0))), .val (.int (own_bt p0 (own_rl nA va vb))), .val (.int (own_bt p0 ((own_rl nA va vb).erase p0))), .unset, .unset, .unset] []))
                            exact j260 trivial
                        refine own_by (fun _ kz => XS.iload X7.here hx rfl (hb hby at_224) rfl kz) ?_
                        show own_Go p.tables e below s _ _ _ (T7.setTop (mkF m 226 #[.val (.int p0), .val (.int p1), .val (.int p2), .val (.int p3), .val (.int p4), .val (.int va), .val (.int vb), .val (.int vf), .val (.int z8), .val (.int (own_i nA)), .val (.int z10), .val (.int i), .val (.ref b2), .val (.int (own_i ((own_rl nA va vb).count p0))), .val (.int (own_bt p0 (own_rl nA va vb))), .val (.int (own_bt p0 ((own_rl nA va vb).erase p0))), .unset, .unset, .unset] [(.int (own_bt p0 (own_rl nA va vb)))]))
                        refine own_by (fun _ kz => XS.iload X7.here hx rfl (hb hby at_226) rfl kz) ?_
                        show own_Go p.tables e below s _ _ _ (T7.setTop (mkF m 228 #[.val (.int p0), .val (.int p1), .val (.int p2), .val (.int p3), .val (.int p4), .val (.int va), .val (.int vb), .val (.int vf), .val (.int z8), .val (.int (own_i nA)), .val (.int z10), .val (.int i), .val (.ref b2), .val (.int (own_i ((own_rl nA va vb).count p0))), .val (.int (own_bt p0 (own_rl nA va vb))), .val (.int (own_bt p0 ((own_rl nA va vb).erase p0))), .unset, .unset, .unset] [(.int (own_i ((own_rl nA va vb).count p0))), (.int (own_bt p0 (own_rl nA va vb)))]))
                        refine own_by (fun _ kz => XS.iconst X7.here hx rfl (hb hby at_228) kz) ?_
                        show own_Go p.tables e below s _ _ _ (T7.setTop (mkF m 229 #[.val (.int p0), .val (.int p1), .val (.int p2), .val (.int p3), .val (.int p4), .val (.int va), .val (.int vb), .val (.int vf), .val (.int z8), .val (.int (own_i nA)), .val (.int z10), .val (.int i), .val (.ref b2), .val (.int (own_i ((own_rl nA va vb).count p0))), .val (.int (own_bt p0 (own_rl nA va vb))), .val (.int (own_bt p0 ((own_rl nA va vb).erase p0))), .unset, .unset, .unset] [(.int (1 : Int32)), (.int (own_i ((own_rl nA va vb).count p0))), (.int (own_bt p0 (own_rl nA va vb)))]))
                        by_cases hc229_38 : (own_i ((own_rl nA va vb).count p0)) < (1 : Int32)
                        · refine own_by (fun _ kz => XS.icmpYes X7.here hx rfl (pc0 := 229) (pc' := 236) rfl (hb hby at_229) rfl (tlt hc229_38).1 (by decide) (by decide) kz) ?_
                          show own_Go p.tables e below s _ _ _ (T7.setTop (mkF m 236 #[.val (.int p0), .val (.int p1), .val (.int p2), .val (.int p3), .val (.int p4), .val (.int va), .val (.int vb), .val (.int vf), .val (.int z8), .val (.int (own_i nA)), .val (.int z10), .val (.int i), .val (.ref b2), .val (.int (own_i ((own_rl nA va vb).count p0))), .val (.int (own_bt p0 (own_rl nA va vb))), .val (.int (own_bt p0 ((own_rl nA va vb).erase p0))), .unset, .unset, .unset] [(.int (own_bt p0 (own_rl nA va vb)))]))
                          refine own_by (fun _ kz => XS.iconst X7.here hx rfl (hb hby at_236) kz) ?_
                          show own_Go p.tables e below s _ _ _ (T7.setTop (mkF m 237 #[.val (.int p0), .val (.int p1), .val (.int p2), .val (.int p3), .val (.int p4), .val (.int va), .val (.int vb), .val (.int vf), .val (.int z8), .val (.int (own_i nA)), .val (.int z10), .val (.int i), .val (.ref b2), .val (.int (own_i ((own_rl nA va vb).count p0))), .val (.int (own_bt p0 (own_rl nA va vb))), .val (.int (own_bt p0 ((own_rl nA va vb).erase p0))), .unset, .unset, .unset] [(.int (0 : Int32)), (.int (own_bt p0 (own_rl nA va vb)))]))
                          have hz237 : (own_bt p0 (own_rl nA va vb)) = (0 : Int32) := (own_bt_iff p0 (own_rl nA va vb)).2 ((own_ilt1 (own_ctl _ _ (own_rl_len nA va vb))).mp hc229_38)
                          refine own_by (fun _ kz => XS.icmpYes X7.here hx rfl (pc0 := 237) (pc' := 242) rfl (hb hby at_237) rfl (teq hz237).1 (by decide) (by decide) kz) ?_
                          show own_Go p.tables e below s _ _ _ (T7.setTop (mkF m 242 #[.val (.int p0), .val (.int p1), .val (.int p2), .val (.int p3), .val (.int p4), .val (.int va), .val (.int vb), .val (.int vf), .val (.int z8), .val (.int (own_i nA)), .val (.int z10), .val (.int i), .val (.ref b2), .val (.int (own_i ((own_rl nA va vb).count p0))), .val (.int (own_bt p0 (own_rl nA va vb))), .val (.int (own_bt p0 ((own_rl nA va vb).erase p0))), .unset, .unset, .unset] []))
                          exact j242 trivial
                        · refine own_by (fun _ kz => XS.icmpNo X7.here hx rfl (hb hby at_229) rfl (flt hc229_38).1 kz) ?_
                          show own_Go p.tables e below s _ _ _ (T7.setTop (mkF m 232 #[.val (.int p0), .val (.int p1), .val (.int p2), .val (.int p3), .val (.int p4), .val (.int va), .val (.int vb), .val (.int vf), .val (.int z8), .val (.int (own_i nA)), .val (.int z10), .val (.int i), .val (.ref b2), .val (.int (own_i ((own_rl nA va vb).count p0))), .val (.int (own_bt p0 (own_rl nA va vb))), .val (.int (own_bt p0 ((own_rl nA va vb).erase p0))), .unset, .unset, .unset] [(.int (own_bt p0 (own_rl nA va vb)))]))
                          refine own_by (fun _ kz => XS.iconst X7.here hx rfl (hb hby at_232) kz) ?_
                          show own_Go p.tables e below s _ _ _ (T7.setTop (mkF m 233 #[.val (.int p0), .val (.int p1), .val (.int p2), .val (.int p3), .val (.int p4), .val (.int va), .val (.int vb), .val (.int vf), .val (.int z8), .val (.int (own_i nA)), .val (.int z10), .val (.int i), .val (.ref b2), .val (.int (own_i ((own_rl nA va vb).count p0))), .val (.int (own_bt p0 (own_rl nA va vb))), .val (.int (own_bt p0 ((own_rl nA va vb).erase p0))), .unset, .unset, .unset] [(.int (1 : Int32)), (.int (own_bt p0 (own_rl nA va vb)))]))
                          refine own_by (fun _ kz => XS.goto X7.here hx rfl (pc0 := 233) (pc' := 237) rfl (hb hby at_233) (by decide) (by decide) kz) ?_
                          show own_Go p.tables e below s _ _ _ (T7.setTop (mkF m 237 #[.val (.int p0), .val (.int p1), .val (.int p2), .val (.int p3), .val (.int p4), .val (.int va), .val (.int vb), .val (.int vf), .val (.int z8), .val (.int (own_i nA)), .val (.int z10), .val (.int i), .val (.ref b2), .val (.int (own_i ((own_rl nA va vb).count p0))), .val (.int (own_bt p0 (own_rl nA va vb))), .val (.int (own_bt p0 ((own_rl nA va vb).erase p0))), .unset, .unset, .unset] [(.int (1 : Int32)), (.int (own_bt p0 (own_rl nA va vb)))]))
                          have hz237 : (own_bt p0 (own_rl nA va vb)) = (1 : Int32) := (own_bt_iff p0 (own_rl nA va vb)).1 (Nat.le_of_not_lt fun q => hc229_38 ((own_ilt1 (own_ctl _ _ (own_rl_len nA va vb))).mpr q))
                          refine own_by (fun _ kz => XS.icmpYes X7.here hx rfl (pc0 := 237) (pc' := 242) rfl (hb hby at_237) rfl (teq hz237).1 (by decide) (by decide) kz) ?_
                          show own_Go p.tables e below s _ _ _ (T7.setTop (mkF m 242 #[.val (.int p0), .val (.int p1), .val (.int p2), .val (.int p3), .val (.int p4), .val (.int va), .val (.int vb), .val (.int vf), .val (.int z8), .val (.int (own_i nA)), .val (.int z10), .val (.int i), .val (.ref b2), .val (.int (own_i ((own_rl nA va vb).count p0))), .val (.int (own_bt p0 (own_rl nA va vb))), .val (.int (own_bt p0 ((own_rl nA va vb).erase p0))), .unset, .unset, .unset] []))
                          exact j242 trivial
                      refine own_by (fun _ kz => XS.iload X_s171.here hx rfl (hb hby at_189) rfl kz) ?_
                      show own_Go p.tables e below s _ _ _ (T_s171.setTop (mkF m 191 #[.val (.int p0), .val (.int p1), .val (.int p2), .val (.int p3), .val (.int p4), .val (.int va), .val (.int vb), .val (.int vf), .val (.int z8), .val (.int (own_i nA)), .val (.int z10), .val (.int i), .val (.ref b2), .val (.int (own_i ((own_rl1 nA va).count p0))), .unset, .unset, .unset, .unset, .unset] [(.int (own_i nA))]))
                      refine own_by (fun _ kz => XS.iconst X_s171.here hx rfl (hb hby at_191) kz) ?_
                      show own_Go p.tables e below s _ _ _ (T_s171.setTop (mkF m 192 #[.val (.int p0), .val (.int p1), .val (.int p2), .val (.int p3), .val (.int p4), .val (.int va), .val (.int vb), .val (.int vf), .val (.int z8), .val (.int (own_i nA)), .val (.int z10), .val (.int i), .val (.ref b2), .val (.int (own_i ((own_rl1 nA va).count p0))), .unset, .unset, .unset, .unset, .unset] [(.int (2 : Int32)), (.int (own_i nA))]))
                      by_cases hc192_39 : (own_i nA) < (2 : Int32)
                      · refine own_by (fun _ kz => XS.icmpYes X_s171.here hx rfl (pc0 := 192) (pc' := 204) rfl (hb hby at_192) rfl (tlt hc192_39).1 (by decide) (by decide) kz) ?_
                        show own_Go p.tables e below s _ _ _ (T_s171.setTop (mkF m 204 #[.val (.int p0), .val (.int p1), .val (.int p2), .val (.int p3), .val (.int p4), .val (.int va), .val (.int vb), .val (.int vf), .val (.int z8), .val (.int (own_i nA)), .val (.int z10), .val (.int i), .val (.ref b2), .val (.int (own_i ((own_rl1 nA va).count p0))), .unset, .unset, .unset, .unset, .unset] []))
                        exact j204 _ (by rw [own_rl_lt ((own_ilt2 hnA).mp hc192_39)])
                      · refine own_by (fun _ kz => XS.icmpNo X_s171.here hx rfl (hb hby at_192) rfl (flt hc192_39).1 kz) ?_
                        show own_Go p.tables e below s _ _ _ (T_s171.setTop (mkF m 195 #[.val (.int p0), .val (.int p1), .val (.int p2), .val (.int p3), .val (.int p4), .val (.int va), .val (.int vb), .val (.int vf), .val (.int z8), .val (.int (own_i nA)), .val (.int z10), .val (.int i), .val (.ref b2), .val (.int (own_i ((own_rl1 nA va).count p0))), .unset, .unset, .unset, .unset, .unset] []))
                        refine own_by (fun _ kz => XS.iload X_s171.here hx rfl (hb hby at_195) rfl kz) ?_
                        show own_Go p.tables e below s _ _ _ (T_s171.setTop (mkF m 197 #[.val (.int p0), .val (.int p1), .val (.int p2), .val (.int p3), .val (.int p4), .val (.int va), .val (.int vb), .val (.int vf), .val (.int z8), .val (.int (own_i nA)), .val (.int z10), .val (.int i), .val (.ref b2), .val (.int (own_i ((own_rl1 nA va).count p0))), .unset, .unset, .unset, .unset, .unset] [(.int vb)]))
                        refine own_by (fun _ kz => XS.iloadN X_s171.here hx rfl (hb hby at_197) rfl kz) ?_
                        show own_Go p.tables e below s _ _ _ (T_s171.setTop (mkF m 198 #[.val (.int p0), .val (.int p1), .val (.int p2), .val (.int p3), .val (.int p4), .val (.int va), .val (.int vb), .val (.int vf), .val (.int z8), .val (.int (own_i nA)), .val (.int z10), .val (.int i), .val (.ref b2), .val (.int (own_i ((own_rl1 nA va).count p0))), .unset, .unset, .unset, .unset, .unset] [(.int p0), (.int vb)]))
                        by_cases hc198_40 : vb = p0
                        · refine own_by (fun _ kz => XS.icmpNo X_s171.here hx rfl (hb hby at_198) rfl (teq hc198_40).2 kz) ?_
                          show own_Go p.tables e below s _ _ _ (T_s171.setTop (mkF m 201 #[.val (.int p0), .val (.int p1), .val (.int p2), .val (.int p3), .val (.int p4), .val (.int va), .val (.int vb), .val (.int vf), .val (.int z8), .val (.int (own_i nA)), .val (.int z10), .val (.int i), .val (.ref b2), .val (.int (own_i ((own_rl1 nA va).count p0))), .unset, .unset, .unset, .unset, .unset] []))
                          refine own_by (fun _ kz => XS.iinc X_s171.here hx rfl (hb hby at_201) rfl (l' := #[.val (.int p0), .val (.int p1), .val (.int p2), .val (.int p3), .val (.int p4), .val (.int va), .val (.int vb), .val (.int vf), .val (.int z8), .val (.int (own_i nA)), .val (.int z10), .val (.int i), .val (.ref b2), .val (.int ((own_i ((own_rl1 nA va).count p0)) + (1 : Int32))), .unset, .unset, .unset, .unset, .unset]) rfl kz) ?_
                          show own_Go p.tables e below s _ _ _ (T_s171.setTop (mkF m 204 #[.val (.int p0), .val (.int p1), .val (.int p2), .val (.int p3), .val (.int p4), .val (.int va), .val (.int vb), .val (.int vf), .val (.int z8), .val (.int (own_i nA)), .val (.int z10), .val (.int i), .val (.ref b2), .val (.int ((own_i ((own_rl1 nA va).count p0)) + (1 : Int32))), .unset, .unset, .unset, .unset, .unset] []))
                          rw [own_i_succ (((own_rl1 nA va).count p0)) (by have q := own_rl1_len nA va; have q2 := List.count_le_length (a := p0) (l := own_rl1 nA va); omega)]
                          show own_Go p.tables e below s _ _ _ (T_s171.setTop (mkF m 204 #[.val (.int p0), .val (.int p1), .val (.int p2), .val (.int p3), .val (.int p4), .val (.int va), .val (.int vb), .val (.int vf), .val (.int z8), .val (.int (own_i nA)), .val (.int z10), .val (.int i), .val (.ref b2), .val (.int (own_i (((own_rl1 nA va).count p0) + 1))), .unset, .unset, .unset, .unset, .unset] []))
                          exact j204 _ (by rw [own_rl_2 (fun q => hc192_39 ((own_ilt2 hnA).mpr q)), hc198_40, List.count_cons_self])
                        · refine own_by (fun _ kz => XS.icmpYes X_s171.here hx rfl (pc0 := 198) (pc' := 204) rfl (hb hby at_198) rfl (feq hc198_40).2 (by decide) (by decide) kz) ?_
                          show own_Go p.tables e below s _ _ _ (T_s171.setTop (mkF m 204 #[.val (.int p0), .val (.int p1), .val (.int p2), .val (.int p3), .val (.int p4), .val (.int va), .val (.int vb), .val (.int vf), .val (.int z8), .val (.int (own_i nA)), .val (.int z10), .val (.int i), .val (.ref b2), .val (.int (own_i ((own_rl1 nA va).count p0))), .unset, .unset, .unset, .unset, .unset] []))
                          exact j204 _ (by rw [own_rl_2 (fun q => hc192_39 ((own_ilt2 hnA).mpr q)), List.count_cons_of_ne hc198_40])
                    refine own_by (fun _ kz => XS.iload X_s171.here hx rfl (hb hby at_174) rfl kz) ?_
                    show own_Go p.tables e below s _ _ _ (T_s171.setTop (mkF m 176 #[.val (.int p0), .val (.int p1), .val (.int p2), .val (.int p3), .val (.int p4), .val (.int va), .val (.int vb), .val (.int vf), .val (.int z8), .val (.int (own_i nA)), .val (.int z10), .val (.int i), .val (.ref b2), .val (.int (0 : Int32)), .unset, .unset, .unset, .unset, .unset] [(.int (own_i nA))]))
                    refine own_by (fun _ kz => XS.iconst X_s171.here hx rfl (hb hby at_176) kz) ?_
                    show own_Go p.tables e below s _ _ _ (T_s171.setTop (mkF m 177 #[.val (.int p0), .val (.int p1), .val (.int p2), .val (.int p3), .val (.int p4), .val (.int va), .val (.int vb), .val (.int vf), .val (.int z8), .val (.int (own_i nA)), .val (.int z10), .val (.int i), .val (.ref b2), .val (.int (0 : Int32)), .unset, .unset, .unset, .unset, .unset] [(.int (1 : Int32)), (.int (own_i nA))]))
                    by_cases hc177_41 : (own_i nA) < (1 : Int32)
                    · refine own_by (fun _ kz => XS.icmpYes X_s171.here hx rfl (pc0 := 177) (pc' := 189) rfl (hb hby at_177) rfl (tlt hc177_41).1 (by decide) (by decide) kz) ?_
                      show own_Go p.tables e below s _ _ _ (T_s171.setTop (mkF m 189 #[.val (.int p0), .val (.int p1), .val (.int p2), .val (.int p3), .val (.int p4), .val (.int va), .val (.int vb), .val (.int vf), .val (.int z8), .val (.int (own_i nA)), .val (.int z10), .val (.int i), .val (.ref b2), .val (.int (0 : Int32)), .unset, .unset, .unset, .unset, .unset] []))
                      exact j189 _ (by rw [own_rl1_0 ((own_ilt1 hnA).mp hc177_41)]; rfl)
                    · refine own_by (fun _ kz => XS.icmpNo X_s171.here hx rfl (hb hby at_177) rfl (flt hc177_41).1 kz) ?_
                      show own_Go p.tables e below s _ _ _ (T_s171.setTop (mkF m 180 #[.val (.int p0), .val (.int p1), .val (.int p2), .val (.int p3), .val (.int p4), .val (.int va), .val (.int vb), .val (.int vf), .val (.int z8), .val (.int (own_i nA)), .val (.int z10), .val (.int i), .val (.ref b2), .val (.int (0 : Int32)), .unset, .unset, .unset, .unset, .unset] []))
                      refine own_by (fun _ kz => XS.iload X_s171.here hx rfl (hb hby at_180) rfl kz) ?_
                      show own_Go p.tables e below s _ _ _ (T_s171.setTop (mkF m 182 #[.val (.int p0), .val (.int p1), .val (.int p2), .val (.int p3), .val (.int p4), .val (.int va), .val (.int vb), .val (.int vf), .val (.int z8), .val (.int (own_i nA)), .val (.int z10), .val (.int i), .val (.ref b2), .val (.int (0 : Int32)), .unset, .unset, .unset, .unset, .unset] [(.int va)]))
                      refine own_by (fun _ kz => XS.iloadN X_s171.here hx rfl (hb hby at_182) rfl kz) ?_
                      show own_Go p.tables e below s _ _ _ (T_s171.setTop (mkF m 183 #[.val (.int p0), .val (.int p1), .val (.int p2), .val (.int p3), .val (.int p4), .val (.int va), .val (.int vb), .val (.int vf), .val (.int z8), .val (.int (own_i nA)), .val (.int z10), .val (.int i), .val (.ref b2), .val (.int (0 : Int32)), .unset, .unset, .unset, .unset, .unset] [(.int p0), (.int va)]))
                      by_cases hc183_42 : va = p0
                      · refine own_by (fun _ kz => XS.icmpNo X_s171.here hx rfl (hb hby at_183) rfl (teq hc183_42).2 kz) ?_
                        show own_Go p.tables e below s _ _ _ (T_s171.setTop (mkF m 186 #[.val (.int p0), .val (.int p1), .val (.int p2), .val (.int p3), .val (.int p4), .val (.int va), .val (.int vb), .val (.int vf), .val (.int z8), .val (.int (own_i nA)), .val (.int z10), .val (.int i), .val (.ref b2), .val (.int (0 : Int32)), .unset, .unset, .unset, .unset, .unset] []))
                        refine own_by (fun _ kz => XS.iinc X_s171.here hx rfl (hb hby at_186) rfl (l' := #[.val (.int p0), .val (.int p1), .val (.int p2), .val (.int p3), .val (.int p4), .val (.int va), .val (.int vb), .val (.int vf), .val (.int z8), .val (.int (own_i nA)), .val (.int z10), .val (.int i), .val (.ref b2), .val (.int (1 : Int32)), .unset, .unset, .unset, .unset, .unset]) rfl kz) ?_
                        show own_Go p.tables e below s _ _ _ (T_s171.setTop (mkF m 189 #[.val (.int p0), .val (.int p1), .val (.int p2), .val (.int p3), .val (.int p4), .val (.int va), .val (.int vb), .val (.int vf), .val (.int z8), .val (.int (own_i nA)), .val (.int z10), .val (.int i), .val (.ref b2), .val (.int (1 : Int32)), .unset, .unset, .unset, .unset, .unset] []))
                        exact j189 _ (by rw [own_rl1_1 (fun q => hc177_41 ((own_ilt1 hnA).mpr q)), hc183_42]; first | done | rfl | (simp only [List.count_cons_self, List.count_nil]; first | done | rfl))
                      · refine own_by (fun _ kz => XS.icmpYes X_s171.here hx rfl (pc0 := 183) (pc' := 189) rfl (hb hby at_183) rfl (feq hc183_42).2 (by decide) (by decide) kz) ?_
                        show own_Go p.tables e below s _ _ _ (T_s171.setTop (mkF m 189 #[.val (.int p0), .val (.int p1), .val (.int p2), .val (.int p3), .val (.int p4), .val (.int va), .val (.int vb), .val (.int vf), .val (.int z8), .val (.int (own_i nA)), .val (.int z10), .val (.int i), .val (.ref b2), .val (.int (0 : Int32)), .unset, .unset, .unset, .unset, .unset] []))
                        exact j189 _ (by rw [own_rl1_1 (fun q => hc177_41 ((own_ilt1 hnA).mpr q)), List.count_cons_of_ne hc183_42]; rfl)
                  refine own_by (fun _ kz => XS.iload X_s152.here hx rfl (hb hby at_152) rfl kz) ?_
                  show own_Go p.tables e below s _ _ _ (T_s152.setTop (mkF m 154 #[.val (.int p0), .val (.int p1), .val (.int p2), .val (.int p3), .val (.int p4), .val (.int va), .val (.int vb), .val (.int vf), .val (.int z8), .val (.int (own_i nA)), .val (.int z10), .val (.int i), .val (.ref b2), .unset, .unset, .unset, .unset, .unset, .unset] [(.int z8)]))
                  by_cases hc154_43 : z8 = (0 : Int32)
                  · refine own_by (fun _ kz => XS.ifYes X_s152.here hx rfl (pc0 := 154) (pc' := 171) rfl (hb hby at_154) rfl ((if0 _ _).trans (teq hc154_43).1) (by decide) (by decide) kz) ?_
                    show own_Go p.tables e below s _ _ _ (T_s152.setTop (mkF m 171 #[.val (.int p0), .val (.int p1), .val (.int p2), .val (.int p3), .val (.int p4), .val (.int va), .val (.int vb), .val (.int vf), .val (.int z8), .val (.int (own_i nA)), .val (.int z10), .val (.int i), .val (.ref b2), .unset, .unset, .unset, .unset, .unset, .unset] []))
                    exact s171 T_s152 _  (X_s152.more (by decide) (by decide)) N_s152 Z_s152 (by rw [own_fl0 hc154_43, ← show (own_f0 z8 z10 vf) = [] from if_neg (fun q => q.1 hc154_43)]; exact A152)
                  · refine own_by (fun _ kz => XS.ifNo X_s152.here hx rfl (hb hby at_154) rfl ((if0 _ _).trans (feq hc154_43).1) kz) ?_
                    show own_Go p.tables e below s _ _ _ (T_s152.setTop (mkF m 157 #[.val (.int p0), .val (.int p1), .val (.int p2), .val (.int p3), .val (.int p4), .val (.int va), .val (.int vb), .val (.int vf), .val (.int z8), .val (.int (own_i nA)), .val (.int z10), .val (.int i), .val (.ref b2), .unset, .unset, .unset, .unset, .unset, .unset] []))
                    refine own_by (fun _ kz => XS.iload X_s152.here hx rfl (hb hby at_157) rfl kz) ?_
                    show own_Go p.tables e below s _ _ _ (T_s152.setTop (mkF m 159 #[.val (.int p0), .val (.int p1), .val (.int p2), .val (.int p3), .val (.int p4), .val (.int va), .val (.int vb), .val (.int vf), .val (.int z8), .val (.int (own_i nA)), .val (.int z10), .val (.int i), .val (.ref b2), .unset, .unset, .unset, .unset, .unset, .unset] [(.int z10)]))
                    by_cases hc159_44 : z10 = (0 : Int32)
                    · refine own_by (fun _ kz => XS.ifYes X_s152.here hx rfl (pc0 := 159) (pc' := 171) rfl (hb hby at_159) rfl ((if0 _ _).trans (teq hc159_44).1) (by decide) (by decide) kz) ?_
                      show own_Go p.tables e below s _ _ _ (T_s152.setTop (mkF m 171 #[.val (.int p0), .val (.int p1), .val (.int p2), .val (.int p3), .val (.int p4), .val (.int va), .val (.int vb), .val (.int vf), .val (.int z8), .val (.int (own_i nA)), .val (.int z10), .val (.int i), .val (.ref b2), .unset, .unset, .unset, .unset, .unset, .unset] []))
                      exact s171 T_s152 _  (X_s152.more (by decide) (by decide)) N_s152 Z_s152 (by rw [own_fl1 hc154_43, ← show (own_f0 z8 z10 vf) = [vf] from if_pos ⟨hc154_43, hc159_44⟩]; exact A152)
                    · refine own_by (fun _ kz => XS.ifNo X_s152.here hx rfl (hb hby at_159) rfl ((if0 _ _).trans (feq hc159_44).1) kz) ?_
                      show own_Go p.tables e below s _ _ _ (T_s152.setTop (mkF m 162 #[.val (.int p0), .val (.int p1), .val (.int p2), .val (.int p3), .val (.int p4), .val (.int va), .val (.int vb), .val (.int vf), .val (.int z8), .val (.int (own_i nA)), .val (.int z10), .val (.int i), .val (.ref b2), .unset, .unset, .unset, .unset, .unset, .unset] []))
                      refine own_by (fun _ kz => XS.aload X_s152.here hx rfl (hb hby at_162) rfl rfl kz) ?_
                      show own_Go p.tables e below s _ _ _ (T_s152.setTop (mkF m 164 #[.val (.int p0), .val (.int p1), .val (.int p2), .val (.int p3), .val (.int p4), .val (.int va), .val (.int vb), .val (.int vf), .val (.int z8), .val (.int (own_i nA)), .val (.int z10), .val (.int i), .val (.ref b2), .unset, .unset, .unset, .unset, .unset, .unset] [(.ref b2)]))
                      refine own_by (fun _ kz => XS.iload X_s152.here hx rfl (hb hby at_164) rfl kz) ?_
                      show own_Go p.tables e below s _ _ _ (T_s152.setTop (mkF m 166 #[.val (.int p0), .val (.int p1), .val (.int p2), .val (.int p3), .val (.int p4), .val (.int va), .val (.int vb), .val (.int vf), .val (.int z8), .val (.int (own_i nA)), .val (.int z10), .val (.int i), .val (.ref b2), .unset, .unset, .unset, .unset, .unset, .unset] [(.int i), (.ref b2)]))
                      refine own_by (fun _ kz => XS.iload X_s152.here hx rfl (hb hby at_166) rfl kz) ?_
                      show own_Go p.tables e below s _ _ _ (T_s152.setTop (mkF m 168 #[.val (.int p0), .val (.int p1), .val (.int p2), .val (.int p3), .val (.int p4), .val (.int va), .val (.int vb), .val (.int vf), .val (.int z8), .val (.int (own_i nA)), .val (.int z10), .val (.int i), .val (.ref b2), .unset, .unset, .unset, .unset, .unset, .unset] [(.int vf), (.int i), (.ref b2)]))
                      obtain ⟨r45, rr45, k45, kk45, x45, xx45, vs45, us45, TBs45, H45, hf45, hr45⟩ := A152
                      have hl45 := own_A_len H45 hf45 hr45
                      have hf0 : own_f0 z8 z10 vf = [] := if_neg fun q => hc159_44 q.2
                      rw [hf0] at hf45 hl45
                      have hk45 : k45 < 3 := by first | omega | (have q1 := own_f0_len z8 z10 vf; have q2 := own_rl1_len nA va; have q3 := own_rl_len nA va vb; (try simp only [List.length_nil] at hl45); omega)
                      obtain ⟨v46, T46, L46, X46, q46, st46⟩ := own_callV X_s152 hx hZ hown (hw _ (List.mem_of_getElem? (i := 43) rfl)) (hw _ (List.mem_of_getElem? (i := 44) rfl)) (hw _ (List.mem_of_getElem? (i := 46) rfl)) (hw _ (List.mem_of_getElem? (i := 45) rfl)) (hw _ (List.mem_of_getElem? (i := 6) rfl)) (hw _ (List.mem_of_getElem? (i := 47) rfl)) (by decide) (rm8 l Z a0 hw [] b2 i vf T_s152.heap n0 Z_s152 N ta ca fa r45 rr45 k45 kk45 x45 xx45 vs45 us45 hi TBs45 (by omega) H45.2.1) (W := 0) (by decide) (by decide) rfl TBs45.exa (g := (mkF m 168 #[.val (.int p0), .val (.int p1), .val (.int p2), .val (.int p3), .val (.int p4), .val (.int va), .val (.int vb), .val (.int vf), .val (.int z8), .val (.int (own_i nA)), .val (.int z10), .val (.int i), .val (.ref b2), .unset, .unset, .unset, .unset, .unset, .unset] [(.int vf), (.int i), (.ref b2)])) rfl (by rw [hml]; rfl) (argsL := [(.int i), (.int vf)]) (rest := []) (lenOf pd_8 rfl) rfl rfl (by show 2 * 0 + _ ≤ _; exact Nat.le_of_eq rfl) (hb hby at_168) (by decide) (by decide)
                      obtain ⟨rfl, Nq46, Zq46, r346, TB46⟩ := q46
                      have N46 := Fr.app N_s152 Nq46
                      refine own_by st46 ?_
                      show own_Go p.tables e below s _ _ _ (T46.setTop (mkF m 171 #[.val (.int p0), .val (.int p1), .val (.int p2), .val (.int p3), .val (.int p4), .val (.int va), .val (.int vb), .val (.int vf), .val (.int z8), .val (.int (own_i nA)), .val (.int z10), .val (.int i), .val (.ref b2), .unset, .unset, .unset, .unset, .unset, .unset] []))
                      have A46 := own_A_fix H45 hf45 hr45 hk45 TB46
                      exact s171 T46 _  (X46.more (by decide) (by decide)) N46 Zq46 (by rw [own_fl1 hc154_43]; exact A46)
                refine own_by (fun _ kz => XS.iload X_s137.here hx rfl (hb hby at_137) rfl kz) ?_
                show own_Go p.tables e below s _ _ _ (T_s137.setTop (mkF m 139 #[.val (.int p0), .val (.int p1), .val (.int p2), .val (.int p3), .val (.int p4), .val (.int va), .val (.int vb), .val (.int vf), .val (.int z8), .val (.int (own_i nA)), .val (.int z10), .val (.int i), .val (.ref b2), .unset, .unset, .unset, .unset, .unset, .unset] [(.int (own_i nA))]))
                refine own_by (fun _ kz => XS.iconst X_s137.here hx rfl (hb hby at_139) kz) ?_
                show own_Go p.tables e below s _ _ _ (T_s137.setTop (mkF m 140 #[.val (.int p0), .val (.int p1), .val (.int p2), .val (.int p3), .val (.int p4), .val (.int va), .val (.int vb), .val (.int vf), .val (.int z8), .val (.int (own_i nA)), .val (.int z10), .val (.int i), .val (.ref b2), .unset, .unset, .unset, .unset, .unset, .unset] [(.int (2 : Int32)), (.int (own_i nA))]))
                by_cases hc140_47 : (own_i nA) < (2 : Int32)
                · refine own_by (fun _ kz => XS.icmpYes X_s137.here hx rfl (pc0 := 140) (pc' := 152) rfl (hb hby at_140) rfl (tlt hc140_47).1 (by decide) (by decide) kz) ?_
                  show own_Go p.tables e below s _ _ _ (T_s137.setTop (mkF m 152 #[.val (.int p0), .val (.int p1), .val (.int p2), .val (.int p3), .val (.int p4), .val (.int va), .val (.int vb), .val (.int vf), .val (.int z8), .val (.int (own_i nA)), .val (.int z10), .val (.int i), .val (.ref b2), .unset, .unset, .unset, .unset, .unset, .unset] []))
                  exact s152 T_s137 _  (X_s137.more (by decide) (by decide)) N_s137 Z_s137 (by rw [own_rl_lt ((own_ilt2 hnA).mp hc140_47)]; exact A137)
                · refine own_by (fun _ kz => XS.icmpNo X_s137.here hx rfl (hb hby at_140) rfl (flt hc140_47).1 kz) ?_
                  show own_Go p.tables e below s _ _ _ (T_s137.setTop (mkF m 143 #[.val (.int p0), .val (.int p1), .val (.int p2), .val (.int p3), .val (.int p4), .val (.int va), .val (.int vb), .val (.int vf), .val (.int z8), .val (.int (own_i nA)), .val (.int z10), .val (.int i), .val (.ref b2), .unset, .unset, .unset, .unset, .unset, .unset] []))
                  refine own_by (fun _ kz => XS.aload X_s137.here hx rfl (hb hby at_143) rfl rfl kz) ?_
                  show own_Go p.tables e below s _ _ _ (T_s137.setTop (mkF m 145 #[.val (.int p0), .val (.int p1), .val (.int p2), .val (.int p3), .val (.int p4), .val (.int va), .val (.int vb), .val (.int vf), .val (.int z8), .val (.int (own_i nA)), .val (.int z10), .val (.int i), .val (.ref b2), .unset, .unset, .unset, .unset, .unset, .unset] [(.ref b2)]))
                  refine own_by (fun _ kz => XS.iload X_s137.here hx rfl (hb hby at_145) rfl kz) ?_
                  show own_Go p.tables e below s _ _ _ (T_s137.setTop (mkF m 147 #[.val (.int p0), .val (.int p1), .val (.int p2), .val (.int p3), .val (.int p4), .val (.int va), .val (.int vb), .val (.int vf), .val (.int z8), .val (.int (own_i nA)), .val (.int z10), .val (.int i), .val (.ref b2), .unset, .unset, .unset, .unset, .unset, .unset] [(.int i), (.ref b2)]))
                  refine own_by (fun _ kz => XS.iload X_s137.here hx rfl (hb hby at_147) rfl kz) ?_
                  show own_Go p.tables e below s _ _ _ (T_s137.setTop (mkF m 149 #[.val (.int p0), .val (.int p1), .val (.int p2), .val (.int p3), .val (.int p4), .val (.int va), .val (.int vb), .val (.int vf), .val (.int z8), .val (.int (own_i nA)), .val (.int z10), .val (.int i), .val (.ref b2), .unset, .unset, .unset, .unset, .unset, .unset] [(.int vb), (.int i), (.ref b2)]))
                  obtain ⟨r48, rr48, k48, kk48, x48, xx48, vs48, us48, TBs48, H48, hf48, hr48⟩ := A137
                  have hl48 := own_A_len H48 hf48 hr48
                  have hk48 : k48 < 3 := by first | omega | (have q1 := own_f0_len z8 z10 vf; have q2 := own_rl1_len nA va; have q3 := own_rl_len nA va vb; (try simp only [List.length_nil] at hl48); omega)
                  obtain ⟨v49, T49, L49, X49, q49, st49⟩ := own_callV X_s137 hx hZ hown (hw _ (List.mem_of_getElem? (i := 63) rfl)) (hw _ (List.mem_of_getElem? (i := 64) rfl)) (hw _ (List.mem_of_getElem? (i := 66) rfl)) (hw _ (List.mem_of_getElem? (i := 65) rfl)) (hw _ (List.mem_of_getElem? (i := 6) rfl)) (hw _ (List.mem_of_getElem? (i := 67) rfl)) (by decide) (rm12 l Z a0 hw [] b2 i vb T_s137.heap n0 Z_s137 N ta ca fa r48 rr48 k48 kk48 x48 xx48 vs48 us48 hi TBs48 (by omega)) (W := 0) (by decide) (by decide) rfl TBs48.exa (g := (mkF m 149 #[.val (.int p0), .val (.int p1), .val (.int p2), .val (.int p3), .val (.int p4), .val (.int va), .val (.int vb), .val (.int vf), .val (.int z8), .val (.int (own_i nA)), .val (.int z10), .val (.int i), .val (.ref b2), .unset, .unset, .unset, .unset, .unset, .unset] [(.int vb), (.int i), (.ref b2)])) rfl (by rw [hml]; rfl) (argsL := [(.int i), (.int vb)]) (rest := []) (lenOf pd_12 rfl) rfl rfl (by show 2 * 0 + _ ≤ _; exact Nat.le_of_eq rfl) (hb hby at_149) (by decide) (by decide)
                  obtain ⟨rfl, Nq49, Zq49, r349, TB49⟩ := q49
                  have N49 := Fr.app N_s137 Nq49
                  refine own_by st49 ?_
                  show own_Go p.tables e below s _ _ _ (T49.setTop (mkF m 152 #[.val (.int p0), .val (.int p1), .val (.int p2), .val (.int p3), .val (.int p4), .val (.int va), .val (.int vb), .val (.int vf), .val (.int z8), .val (.int (own_i nA)), .val (.int z10), .val (.int i), .val (.ref b2), .unset, .unset, .unset, .unset, .unset, .unset] []))
                  have A49 := own_A_add H48 hf48 hr48 hk48 TB49
                  exact s152 T49 _  (X49.more (by decide) (by decide)) N49 Zq49 (by rw [own_rl_2 (fun q => hc140_47 ((own_ilt2 hnA).mpr q))]; exact A49)
              refine own_by (fun _ kz => XS.iload X_s122.here hx rfl (hb hby at_122) rfl kz) ?_
              show own_Go p.tables e below s _ _ _ (T_s122.setTop (mkF m 124 #[.val (.int p0), .val (.int p1), .val (.int p2), .val (.int p3), .val (.int p4), .val (.int va), .val (.int vb), .val (.int vf), .val (.int z8), .val (.int (own_i nA)), .val (.int z10), .val (.int i), .val (.ref b2), .unset, .unset, .unset, .unset, .unset, .unset] [(.int (own_i nA))]))
              refine own_by (fun _ kz => XS.iconst X_s122.here hx rfl (hb hby at_124) kz) ?_
              show own_Go p.tables e below s _ _ _ (T_s122.setTop (mkF m 125 #[.val (.int p0), .val (.int p1), .val (.int p2), .val (.int p3), .val (.int p4), .val (.int va), .val (.int vb), .val (.int vf), .val (.int z8), .val (.int (own_i nA)), .val (.int z10), .val (.int i), .val (.ref b2), .unset, .unset, .unset, .unset, .unset, .unset] [(.int (1 : Int32)), (.int (own_i nA))]))
              by_cases hc125_50 : (own_i nA) < (1 : Int32)
              · refine own_by (fun _ kz => XS.icmpYes X_s122.here hx rfl (pc0 := 125) (pc' := 137) rfl (hb hby at_125) rfl (tlt hc125_50).1 (by decide) (by decide) kz) ?_
                show own_Go p.tables e below s _ _ _ (T_s122.setTop (mkF m 137 #[.val (.int p0), .val (.int p1), .val (.int p2), .val (.int p3), .val (.int p4), .val (.int va), .val (.int vb), .val (.int vf), .val (.int z8), .val (.int (own_i nA)), .val (.int z10), .val (.int i), .val (.ref b2), .unset, .unset, .unset, .unset, .unset, .unset] []))
                exact s137 T_s122 _  (X_s122.more (by decide) (by decide)) N_s122 Z_s122 (by rw [own_rl1_0 ((own_ilt1 hnA).mp hc125_50)]; exact A122)
              · refine own_by (fun _ kz => XS.icmpNo X_s122.here hx rfl (hb hby at_125) rfl (flt hc125_50).1 kz) ?_
                show own_Go p.tables e below s _ _ _ (T_s122.setTop (mkF m 128 #[.val (.int p0), .val (.int p1), .val (.int p2), .val (.int p3), .val (.int p4), .val (.int va), .val (.int vb), .val (.int vf), .val (.int z8), .val (.int (own_i nA)), .val (.int z10), .val (.int i), .val (.ref b2), .unset, .unset, .unset, .unset, .unset, .unset] []))
                refine own_by (fun _ kz => XS.aload X_s122.here hx rfl (hb hby at_128) rfl rfl kz) ?_
                show own_Go p.tables e below s _ _ _ (T_s122.setTop (mkF m 130 #[.val (.int p0), .val (.int p1), .val (.int p2), .val (.int p3), .val (.int p4), .val (.int va), .val (.int vb), .val (.int vf), .val (.int z8), .val (.int (own_i nA)), .val (.int z10), .val (.int i), .val (.ref b2), .unset, .unset, .unset, .unset, .unset, .unset] [(.ref b2)]))
                refine own_by (fun _ kz => XS.iload X_s122.here hx rfl (hb hby at_130) rfl kz) ?_
                show own_Go p.tables e below s _ _ _ (T_s122.setTop (mkF m 132 #[.val (.int p0), .val (.int p1), .val (.int p2), .val (.int p3), .val (.int p4), .val (.int va), .val (.int vb), .val (.int vf), .val (.int z8), .val (.int (own_i nA)), .val (.int z10), .val (.int i), .val (.ref b2), .unset, .unset, .unset, .unset, .unset, .unset] [(.int i), (.ref b2)]))
                refine own_by (fun _ kz => XS.iload X_s122.here hx rfl (hb hby at_132) rfl kz) ?_
                show own_Go p.tables e below s _ _ _ (T_s122.setTop (mkF m 134 #[.val (.int p0), .val (.int p1), .val (.int p2), .val (.int p3), .val (.int p4), .val (.int va), .val (.int vb), .val (.int vf), .val (.int z8), .val (.int (own_i nA)), .val (.int z10), .val (.int i), .val (.ref b2), .unset, .unset, .unset, .unset, .unset, .unset] [(.int va), (.int i), (.ref b2)]))
                obtain ⟨r51, rr51, k51, kk51, x51, xx51, vs51, us51, TBs51, H51, hf51, hr51⟩ := A122
                have hl51 := own_A_len H51 hf51 hr51
                have hk51 : k51 < 3 := by first | omega | (have q1 := own_f0_len z8 z10 vf; have q2 := own_rl1_len nA va; have q3 := own_rl_len nA va vb; (try simp only [List.length_nil] at hl51); omega)
                obtain ⟨v52, T52, L52, X52, q52, st52⟩ := own_callV X_s122 hx hZ hown (hw _ (List.mem_of_getElem? (i := 63) rfl)) (hw _ (List.mem_of_getElem? (i := 64) rfl)) (hw _ (List.mem_of_getElem? (i := 66) rfl)) (hw _ (List.mem_of_getElem? (i := 65) rfl)) (hw _ (List.mem_of_getElem? (i := 6) rfl)) (hw _ (List.mem_of_getElem? (i := 67) rfl)) (by decide) (rm12 l Z a0 hw [] b2 i va T_s122.heap n0 Z_s122 N ta ca fa r51 rr51 k51 kk51 x51 xx51 vs51 us51 hi TBs51 (by omega)) (W := 0) (by decide) (by decide) rfl TBs51.exa (g := (mkF m 134 #[.val (.int p0), .val (.int p1), .val (.int p2), .val (.int p3), .val (.int p4), .val (.int va), .val (.int vb), .val (.int vf), .val (.int z8), .val (.int (own_i nA)), .val (.int z10), .val (.int i), .val (.ref b2), .unset, .unset, .unset, .unset, .unset, .unset] [(.int va), (.int i), (.ref b2)])) rfl (by rw [hml]; rfl) (argsL := [(.int i), (.int va)]) (rest := []) (lenOf pd_12 rfl) rfl rfl (by show 2 * 0 + _ ≤ _; exact Nat.le_of_eq rfl) (hb hby at_134) (by decide) (by decide)
                obtain ⟨rfl, Nq52, Zq52, r352, TB52⟩ := q52
                have N52 := Fr.app N_s122 Nq52
                refine own_by st52 ?_
                show own_Go p.tables e below s _ _ _ (T52.setTop (mkF m 137 #[.val (.int p0), .val (.int p1), .val (.int p2), .val (.int p3), .val (.int p4), .val (.int va), .val (.int vb), .val (.int vf), .val (.int z8), .val (.int (own_i nA)), .val (.int z10), .val (.int i), .val (.ref b2), .unset, .unset, .unset, .unset, .unset, .unset] []))
                have A52 := own_A_add H51 hf51 hr51 hk51 TB52
                exact s137 T52 _  (X52.more (by decide) (by decide)) N52 Zq52 (by rw [own_rl1_1 (fun q => hc125_50 ((own_ilt1 hnA).mpr q))]; exact A52)
            refine own_by (fun _ kz => XS.iload X3.here hx rfl (hb hby at_103) rfl kz) ?_
            show own_Go p.tables e below s _ _ _ (T3.setTop (mkF m 105 #[.val (.int p0), .val (.int p1), .val (.int p2), .val (.int p3), .val (.int p4), .val (.int va), .val (.int vb), .val (.int vf), .val (.int z8), .val (.int (own_i nA)), .val (.int z10), .val (.int i), .val (.ref b2), .unset, .unset, .unset, .unset, .unset, .unset] [(.int z8)]))
            by_cases hc105_53 : z8 = (0 : Int32)
            · refine own_by (fun _ kz => XS.ifYes X3.here hx rfl (pc0 := 105) (pc' := 122) rfl (hb hby at_105) rfl ((if0 _ _).trans (teq hc105_53).1) (by decide) (by decide) kz) ?_
              show own_Go p.tables e below s _ _ _ (T3.setTop (mkF m 122 #[.val (.int p0), .val (.int p1), .val (.int p2), .val (.int p3), .val (.int p4), .val (.int va), .val (.int vb), .val (.int vf), .val (.int z8), .val (.int (own_i nA)), .val (.int z10), .val (.int i), .val (.ref b2), .unset, .unset, .unset, .unset, .unset, .unset] []))
              exact s122 T3 _  (X3.more (by decide) (by decide)) N3 Zq3 (by rw [show (own_f0 z8 z10 vf) = [] from if_neg (fun q => q.1 hc105_53)]; exact A0)
            · refine own_by (fun _ kz => XS.ifNo X3.here hx rfl (hb hby at_105) rfl ((if0 _ _).trans (feq hc105_53).1) kz) ?_
              show own_Go p.tables e below s _ _ _ (T3.setTop (mkF m 108 #[.val (.int p0), .val (.int p1), .val (.int p2), .val (.int p3), .val (.int p4), .val (.int va), .val (.int vb), .val (.int vf), .val (.int z8), .val (.int (own_i nA)), .val (.int z10), .val (.int i), .val (.ref b2), .unset, .unset, .unset, .unset, .unset, .unset] []))
              refine own_by (fun _ kz => XS.iload X3.here hx rfl (hb hby at_108) rfl kz) ?_
              show own_Go p.tables e below s _ _ _ (T3.setTop (mkF m 110 #[.val (.int p0), .val (.int p1), .val (.int p2), .val (.int p3), .val (.int p4), .val (.int va), .val (.int vb), .val (.int vf), .val (.int z8), .val (.int (own_i nA)), .val (.int z10), .val (.int i), .val (.ref b2), .unset, .unset, .unset, .unset, .unset, .unset] [(.int z10)]))
              by_cases hc110_54 : z10 = (0 : Int32)
              · refine own_by (fun _ kz => XS.ifNo X3.here hx rfl (hb hby at_110) rfl ((if0 _ _).trans (teq hc110_54).2) kz) ?_
                show own_Go p.tables e below s _ _ _ (T3.setTop (mkF m 113 #[.val (.int p0), .val (.int p1), .val (.int p2), .val (.int p3), .val (.int p4), .val (.int va), .val (.int vb), .val (.int vf), .val (.int z8), .val (.int (own_i nA)), .val (.int z10), .val (.int i), .val (.ref b2), .unset, .unset, .unset, .unset, .unset, .unset] []))
                refine own_by (fun _ kz => XS.aload X3.here hx rfl (hb hby at_113) rfl rfl kz) ?_
                show own_Go p.tables e below s _ _ _ (T3.setTop (mkF m 115 #[.val (.int p0), .val (.int p1), .val (.int p2), .val (.int p3), .val (.int p4), .val (.int va), .val (.int vb), .val (.int vf), .val (.int z8), .val (.int (own_i nA)), .val (.int z10), .val (.int i), .val (.ref b2), .unset, .unset, .unset, .unset, .unset, .unset] [(.ref b2)]))
                refine own_by (fun _ kz => XS.iload X3.here hx rfl (hb hby at_115) rfl kz) ?_
                show own_Go p.tables e below s _ _ _ (T3.setTop (mkF m 117 #[.val (.int p0), .val (.int p1), .val (.int p2), .val (.int p3), .val (.int p4), .val (.int va), .val (.int vb), .val (.int vf), .val (.int z8), .val (.int (own_i nA)), .val (.int z10), .val (.int i), .val (.ref b2), .unset, .unset, .unset, .unset, .unset, .unset] [(.int i), (.ref b2)]))
                refine own_by (fun _ kz => XS.iload X3.here hx rfl (hb hby at_117) rfl kz) ?_
                show own_Go p.tables e below s _ _ _ (T3.setTop (mkF m 119 #[.val (.int p0), .val (.int p1), .val (.int p2), .val (.int p3), .val (.int p4), .val (.int va), .val (.int vb), .val (.int vf), .val (.int z8), .val (.int (own_i nA)), .val (.int z10), .val (.int i), .val (.ref b2), .unset, .unset, .unset, .unset, .unset, .unset] [(.int vf), (.int i), (.ref b2)]))
                obtain ⟨r55, rr55, k55, kk55, x55, xx55, vs55, us55, TBs55, H55, hf55, hr55⟩ := A0
                have hl55 := own_A_len H55 hf55 hr55
                have hk55 : k55 < 3 := by first | omega | (have q1 := own_f0_len z8 z10 vf; have q2 := own_rl1_len nA va; have q3 := own_rl_len nA va vb; (try simp only [List.length_nil] at hl55); omega)
                obtain ⟨v56, T56, L56, X56, q56, st56⟩ := own_callV X3 hx hZ hown (hw _ (List.mem_of_getElem? (i := 43) rfl)) (hw _ (List.mem_of_getElem? (i := 44) rfl)) (hw _ (List.mem_of_getElem? (i := 46) rfl)) (hw _ (List.mem_of_getElem? (i := 45) rfl)) (hw _ (List.mem_of_getElem? (i := 6) rfl)) (hw _ (List.mem_of_getElem? (i := 47) rfl)) (by decide) (rm8 l Z a0 hw [] b2 i vf T3.heap n0 Zq3 N ta ca fa r55 rr55 k55 kk55 x55 xx55 vs55 us55 hi TBs55 (by omega) H55.2.1) (W := 0) (by decide) (by decide) rfl TBs55.exa (g := (mkF m 119 #[.val (.int p0), .val (.int p1), .val (.int p2), .val (.int p3), .val (.int p4), .val (.int va), .val (.int vb), .val (.int vf), .val (.int z8), .val (.int (own_i nA)), .val (.int z10), .val (.int i), .val (.ref b2), .unset, .unset, .unset, .unset, .unset, .unset] [(.int vf), (.int i), (.ref b2)])) rfl (by rw [hml]; rfl) (argsL := [(.int i), (.int vf)]) (rest := []) (lenOf pd_8 rfl) rfl rfl (by show 2 * 0 + _ ≤ _; exact Nat.le_of_eq rfl) (hb hby at_119) (by decide) (by decide)
                obtain ⟨rfl, Nq56, Zq56, r356, TB56⟩ := q56
                have N56 := Fr.app N3 Nq56
                refine own_by st56 ?_
                show own_Go p.tables e below s _ _ _ (T56.setTop (mkF m 122 #[.val (.int p0), .val (.int p1), .val (.int p2), .val (.int p3), .val (.int p4), .val (.int va), .val (.int vb), .val (.int vf), .val (.int z8), .val (.int (own_i nA)), .val (.int z10), .val (.int i), .val (.ref b2), .unset, .unset, .unset, .unset, .unset, .unset] []))
                have A56 := own_A_fix H55 hf55 hr55 hk55 TB56
                exact s122 T56 _  (X56.more (by decide) (by decide)) N56 Zq56 (by rw [show (own_f0 z8 z10 vf) = [vf] from if_pos ⟨hc105_53, hc110_54⟩]; exact A56)
              · refine own_by (fun _ kz => XS.ifYes X3.here hx rfl (pc0 := 110) (pc' := 122) rfl (hb hby at_110) rfl ((if0 _ _).trans (feq hc110_54).2) (by decide) (by decide) kz) ?_
                show own_Go p.tables e below s _ _ _ (T3.setTop (mkF m 122 #[.val (.int p0), .val (.int p1), .val (.int p2), .val (.int p3), .val (.int p4), .val (.int va), .val (.int vb), .val (.int vf), .val (.int z8), .val (.int (own_i nA)), .val (.int z10), .val (.int i), .val (.ref b2), .unset, .unset, .unset, .unset, .unset, .unset] []))
                exact s122 T3 _  (X3.more (by decide) (by decide)) N3 Zq3 (by rw [show (own_f0 z8 z10 vf) = [] from if_neg (fun q => hc110_54 q.2)]; exact A0)
          refine own_by (fun _ kz => XS.iload X1.here hx rfl (hb hby at_69) rfl kz) ?_
          show own_Go p.tables e below s _ _ _ (T1.setTop (mkF m 71 #[.val (.int p0), .val (.int p1), .val (.int p2), .val (.int p3), .val (.int p4), .val (.int va), .val (.int vb), .val (.int vf), .val (.int z8), .val (.int (own_i nA)), .unset, .unset, .unset, .unset, .unset, .unset, .unset, .unset, .unset] [(.int p4)]))
          refine own_by (fun _ kz => XS.bipush X1.here hx rfl (hb hby at_71) kz) ?_
          show own_Go p.tables e below s _ _ _ (T1.setTop (mkF m 73 #[.val (.int p0), .val (.int p1), .val (.int p2), .val (.int p3), .val (.int p4), .val (.int va), .val (.int vb), .val (.int vf), .val (.int z8), .val (.int (own_i nA)), .unset, .unset, .unset, .unset, .unset, .unset, .unset, .unset, .unset] [(.int (64 : Int32)), (.int p4)]))
          refine own_by (fun _ kz => XS.iand X1.here hx rfl (hb hby at_73) rfl kz) ?_
          show own_Go p.tables e below s _ _ _ (T1.setTop (mkF m 74 #[.val (.int p0), .val (.int p1), .val (.int p2), .val (.int p3), .val (.int p4), .val (.int va), .val (.int vb), .val (.int vf), .val (.int z8), .val (.int (own_i nA)), .unset, .unset, .unset, .unset, .unset, .unset, .unset, .unset, .unset] [(.int (p4 &&& (64 : Int32)))]))
          by_cases hc74_57 : (p4 &&& (64 : Int32)) = (0 : Int32)
          · refine own_by (fun _ kz => XS.ifYes X1.here hx rfl (pc0 := 74) (pc' := 81) rfl (hb hby at_74) rfl ((if0 _ _).trans (teq hc74_57).1) (by decide) (by decide) kz) ?_
            show own_Go p.tables e below s _ _ _ (T1.setTop (mkF m 81 #[.val (.int p0), .val (.int p1), .val (.int p2), .val (.int p3), .val (.int p4), .val (.int va), .val (.int vb), .val (.int vf), .val (.int z8), .val (.int (own_i nA)), .unset, .unset, .unset, .unset, .unset, .unset, .unset, .unset, .unset] []))
            refine own_by (fun _ kz => XS.iconst X1.here hx rfl (hb hby at_81) kz) ?_
            show own_Go p.tables e below s _ _ _ (T1.setTop (mkF m 82 #[.val (.int p0), .val (.int p1), .val (.int p2), .val (.int p3), .val (.int p4), .val (.int va), .val (.int vb), .val (.int vf), .val (.int z8), .val (.int (own_i nA)), .unset, .unset, .unset, .unset, .unset, .unset, .unset, .unset, .unset] [(.int (0 : Int32))]))
            exact j82 _
          · refine own_by (fun _ kz => XS.ifNo X1.here hx rfl (hb hby at_74) rfl ((if0 _ _).trans (feq hc74_57).1) kz) ?_
            show own_Go p.tables e below s _ _ _ (T1.setTop (mkF m 77 #[.val (.int p0), .val (.int p1), .val (.int p2), .val (.int p3), .val (.int p4), .val (.int va), .val (.int vb), .val (.int vf), .val (.int z8), .val (.int (own_i nA)), .unset, .unset, .unset, .unset, .unset, .unset, .unset, .unset, .unset] []))
            refine own_by (fun _ kz => XS.iconst X1.here hx rfl (hb hby at_77) kz) ?_
            show own_Go p.tables e below s _ _ _ (T1.setTop (mkF m 78 #[.val (.int p0), .val (.int p1), .val (.int p2), .val (.int p3), .val (.int p4), .val (.int va), .val (.int vb), .val (.int vf), .val (.int z8), .val (.int (own_i nA)), .unset, .unset, .unset, .unset, .unset, .unset, .unset, .unset, .unset] [(.int (1 : Int32))]))
            refine own_by (fun _ kz => XS.goto X1.here hx rfl (pc0 := 78) (pc' := 82) rfl (hb hby at_78) (by decide) (by decide) kz) ?_
            show own_Go p.tables e below s _ _ _ (T1.setTop (mkF m 82 #[.val (.int p0), .val (.int p1), .val (.int p2), .val (.int p3), .val (.int p4), .val (.int va), .val (.int vb), .val (.int vf), .val (.int z8), .val (.int (own_i nA)), .unset, .unset, .unset, .unset, .unset, .unset, .unset, .unset, .unset] [(.int (1 : Int32))]))
            exact j82 _
        refine own_by (fun _ kz => XS.iload X0.here hx rfl (hb hby at_42) rfl kz) ?_
        show own_Go p.tables e below s _ _ _ (s₁.setTop (mkF m 44 #[.val (.int p0), .val (.int p1), .val (.int p2), .val (.int p3), .val (.int p4), .val (.int va), .val (.int vb), .val (.int vf), .unset, .unset, .unset, .unset, .unset, .unset, .unset, .unset, .unset, .unset, .unset] [(.int p4)]))
        refine own_by (fun _ kz => XS.bipush X0.here hx rfl (hb hby at_44) kz) ?_
        show own_Go p.tables e below s _ _ _ (s₁.setTop (mkF m 46 #[.val (.int p0), .val (.int p1), .val (.int p2), .val (.int p3), .val (.int p4), .val (.int va), .val (.int vb), .val (.int vf), .unset, .unset, .unset, .unset, .unset, .unset, .unset, .unset, .unset, .unset, .unset] [(.int (8 : Int32)), (.int p4)]))
        refine own_by (fun _ kz => XS.iand X0.here hx rfl (hb hby at_46) rfl kz) ?_
        show own_Go p.tables e below s _ _ _ (s₁.setTop (mkF m 47 #[.val (.int p0), .val (.int p1), .val (.int p2), .val (.int p3), .val (.int p4), .val (.int va), .val (.int vb), .val (.int vf), .unset, .unset, .unset, .unset, .unset, .unset, .unset, .unset, .unset, .unset, .unset] [(.int (p4 &&& (8 : Int32)))]))
        by_cases hc47_58 : (p4 &&& (8 : Int32)) = (0 : Int32)
        · refine own_by (fun _ kz => XS.ifYes X0.here hx rfl (pc0 := 47) (pc' := 54) rfl (hb hby at_47) rfl ((if0 _ _).trans (teq hc47_58).1) (by decide) (by decide) kz) ?_
          show own_Go p.tables e below s _ _ _ (s₁.setTop (mkF m 54 #[.val (.int p0), .val (.int p1), .val (.int p2), .val (.int p3), .val (.int p4), .val (.int va), .val (.int vb), .val (.int vf), .unset, .unset, .unset, .unset, .unset, .unset, .unset, .unset, .unset, .unset, .unset] []))
          refine own_by (fun _ kz => XS.iconst X0.here hx rfl (hb hby at_54) kz) ?_
          show own_Go p.tables e below s _ _ _ (s₁.setTop (mkF m 55 #[.val (.int p0), .val (.int p1), .val (.int p2), .val (.int p3), .val (.int p4), .val (.int va), .val (.int vb), .val (.int vf), .unset, .unset, .unset, .unset, .unset, .unset, .unset, .unset, .unset, .unset, .unset] [(.int (0 : Int32))]))
          exact j55 _
        · refine own_by (fun _ kz => XS.ifNo X0.here hx rfl (hb hby at_47) rfl ((if0 _ _).trans (feq hc47_58).1) kz) ?_
          show own_Go p.tables e below s _ _ _ (s₁.setTop (mkF m 50 #[.val (.int p0), .val (.int p1), .val (.int p2), .val (.int p3), .val (.int p4), .val (.int va), .val (.int vb), .val (.int vf), .unset, .unset, .unset, .unset, .unset, .unset, .unset, .unset, .unset, .unset, .unset] []))
          refine own_by (fun _ kz => XS.iconst X0.here hx rfl (hb hby at_50) kz) ?_
          show own_Go p.tables e below s _ _ _ (s₁.setTop (mkF m 51 #[.val (.int p0), .val (.int p1), .val (.int p2), .val (.int p3), .val (.int p4), .val (.int va), .val (.int vb), .val (.int vf), .unset, .unset, .unset, .unset, .unset, .unset, .unset, .unset, .unset, .unset, .unset] [(.int (1 : Int32))]))
          refine own_by (fun _ kz => XS.goto X0.here hx rfl (pc0 := 51) (pc' := 55) rfl (hb hby at_51) (by decide) (by decide) kz) ?_
          show own_Go p.tables e below s _ _ _ (s₁.setTop (mkF m 55 #[.val (.int p0), .val (.int p1), .val (.int p2), .val (.int p3), .val (.int p4), .val (.int va), .val (.int vb), .val (.int vf), .unset, .unset, .unset, .unset, .unset, .unset, .unset, .unset, .unset, .unset, .unset] [(.int (1 : Int32))]))
          exact j55 _
      refine own_by (fun _ kz => XS.iload X0.here hx rfl (hb hby at_28) rfl kz) ?_
      show own_Go p.tables e below s _ _ _ (s₁.setTop (mkF m 30 #[.val (.int p0), .val (.int p1), .val (.int p2), .val (.int p3), .val (.int p4), .val (.int va), .val (.int vb), .unset, .unset, .unset, .unset, .unset, .unset, .unset, .unset, .unset, .unset, .unset, .unset] [(.int p4)]))
      refine own_by (fun _ kz => XS.iconst X0.here hx rfl (hb hby at_30) kz) ?_
      show own_Go p.tables e below s _ _ _ (s₁.setTop (mkF m 31 #[.val (.int p0), .val (.int p1), .val (.int p2), .val (.int p3), .val (.int p4), .val (.int va), .val (.int vb), .unset, .unset, .unset, .unset, .unset, .unset, .unset, .unset, .unset, .unset, .unset, .unset] [(.int (4 : Int32)), (.int p4)]))
      refine own_by (fun _ kz => XS.iand X0.here hx rfl (hb hby at_31) rfl kz) ?_
      show own_Go p.tables e below s _ _ _ (s₁.setTop (mkF m 32 #[.val (.int p0), .val (.int p1), .val (.int p2), .val (.int p3), .val (.int p4), .val (.int va), .val (.int vb), .unset, .unset, .unset, .unset, .unset, .unset, .unset, .unset, .unset, .unset, .unset, .unset] [(.int (p4 &&& (4 : Int32)))]))
      by_cases hc32_59 : (p4 &&& (4 : Int32)) = (0 : Int32)
      · refine own_by (fun _ kz => XS.ifYes X0.here hx rfl (pc0 := 32) (pc' := 39) rfl (hb hby at_32) rfl ((if0 _ _).trans (teq hc32_59).1) (by decide) (by decide) kz) ?_
        show own_Go p.tables e below s _ _ _ (s₁.setTop (mkF m 39 #[.val (.int p0), .val (.int p1), .val (.int p2), .val (.int p3), .val (.int p4), .val (.int va), .val (.int vb), .unset, .unset, .unset, .unset, .unset, .unset, .unset, .unset, .unset, .unset, .unset, .unset] []))
        refine own_by (fun _ kz => XS.iloadN X0.here hx rfl (hb hby at_39) rfl kz) ?_
        show own_Go p.tables e below s _ _ _ (s₁.setTop (mkF m 40 #[.val (.int p0), .val (.int p1), .val (.int p2), .val (.int p3), .val (.int p4), .val (.int va), .val (.int vb), .unset, .unset, .unset, .unset, .unset, .unset, .unset, .unset, .unset, .unset, .unset, .unset] [(.int p3)]))
        exact j40 _
      · refine own_by (fun _ kz => XS.ifNo X0.here hx rfl (hb hby at_32) rfl ((if0 _ _).trans (feq hc32_59).1) kz) ?_
        show own_Go p.tables e below s _ _ _ (s₁.setTop (mkF m 35 #[.val (.int p0), .val (.int p1), .val (.int p2), .val (.int p3), .val (.int p4), .val (.int va), .val (.int vb), .unset, .unset, .unset, .unset, .unset, .unset, .unset, .unset, .unset, .unset, .unset, .unset] []))
        refine own_by (fun _ kz => XS.iloadN X0.here hx rfl (hb hby at_35) rfl kz) ?_
        show own_Go p.tables e below s _ _ _ (s₁.setTop (mkF m 36 #[.val (.int p0), .val (.int p1), .val (.int p2), .val (.int p3), .val (.int p4), .val (.int va), .val (.int vb), .unset, .unset, .unset, .unset, .unset, .unset, .unset, .unset, .unset, .unset, .unset, .unset] [(.int p0)]))
        refine own_by (fun _ kz => XS.goto X0.here hx rfl (pc0 := 36) (pc' := 40) rfl (hb hby at_36) (by decide) (by decide) kz) ?_
        show own_Go p.tables e below s _ _ _ (s₁.setTop (mkF m 40 #[.val (.int p0), .val (.int p1), .val (.int p2), .val (.int p3), .val (.int p4), .val (.int va), .val (.int vb), .unset, .unset, .unset, .unset, .unset, .unset, .unset, .unset, .unset, .unset, .unset, .unset] [(.int p0)]))
        exact j40 _
    refine own_by (fun _ kz => XS.iload X0.here hx rfl (hb hby at_14) rfl kz) ?_
    show own_Go p.tables e below s _ _ _ (s₁.setTop (mkF m 16 #[.val (.int p0), .val (.int p1), .val (.int p2), .val (.int p3), .val (.int p4), .val (.int va), .unset, .unset, .unset, .unset, .unset, .unset, .unset, .unset, .unset, .unset, .unset, .unset, .unset] [(.int p4)]))
    refine own_by (fun _ kz => XS.iconst X0.here hx rfl (hb hby at_16) kz) ?_
    show own_Go p.tables e below s _ _ _ (s₁.setTop (mkF m 17 #[.val (.int p0), .val (.int p1), .val (.int p2), .val (.int p3), .val (.int p4), .val (.int va), .unset, .unset, .unset, .unset, .unset, .unset, .unset, .unset, .unset, .unset, .unset, .unset, .unset] [(.int (2 : Int32)), (.int p4)]))
    refine own_by (fun _ kz => XS.iand X0.here hx rfl (hb hby at_17) rfl kz) ?_
    show own_Go p.tables e below s _ _ _ (s₁.setTop (mkF m 18 #[.val (.int p0), .val (.int p1), .val (.int p2), .val (.int p3), .val (.int p4), .val (.int va), .unset, .unset, .unset, .unset, .unset, .unset, .unset, .unset, .unset, .unset, .unset, .unset, .unset] [(.int (p4 &&& (2 : Int32)))]))
    by_cases hc18_60 : (p4 &&& (2 : Int32)) = (0 : Int32)
    · refine own_by (fun _ kz => XS.ifYes X0.here hx rfl (pc0 := 18) (pc' := 25) rfl (hb hby at_18) rfl ((if0 _ _).trans (teq hc18_60).1) (by decide) (by decide) kz) ?_
      show own_Go p.tables e below s _ _ _ (s₁.setTop (mkF m 25 #[.val (.int p0), .val (.int p1), .val (.int p2), .val (.int p3), .val (.int p4), .val (.int va), .unset, .unset, .unset, .unset, .unset, .unset, .unset, .unset, .unset, .unset, .unset, .unset, .unset] []))
      refine own_by (fun _ kz => XS.iloadN X0.here hx rfl (hb hby at_25) rfl kz) ?_
      show own_Go p.tables e below s _ _ _ (s₁.setTop (mkF m 26 #[.val (.int p0), .val (.int p1), .val (.int p2), .val (.int p3), .val (.int p4), .val (.int va), .unset, .unset, .unset, .unset, .unset, .unset, .unset, .unset, .unset, .unset, .unset, .unset, .unset] [(.int p2)]))
      exact j26 _
    · refine own_by (fun _ kz => XS.ifNo X0.here hx rfl (hb hby at_18) rfl ((if0 _ _).trans (feq hc18_60).1) kz) ?_
      show own_Go p.tables e below s _ _ _ (s₁.setTop (mkF m 21 #[.val (.int p0), .val (.int p1), .val (.int p2), .val (.int p3), .val (.int p4), .val (.int va), .unset, .unset, .unset, .unset, .unset, .unset, .unset, .unset, .unset, .unset, .unset, .unset, .unset] []))
      refine own_by (fun _ kz => XS.iloadN X0.here hx rfl (hb hby at_21) rfl kz) ?_
      show own_Go p.tables e below s _ _ _ (s₁.setTop (mkF m 22 #[.val (.int p0), .val (.int p1), .val (.int p2), .val (.int p3), .val (.int p4), .val (.int va), .unset, .unset, .unset, .unset, .unset, .unset, .unset, .unset, .unset, .unset, .unset, .unset, .unset] [(.int p0)]))
      refine own_by (fun _ kz => XS.goto X0.here hx rfl (pc0 := 22) (pc' := 26) rfl (hb hby at_22) (by decide) (by decide) kz) ?_
      show own_Go p.tables e below s _ _ _ (s₁.setTop (mkF m 26 #[.val (.int p0), .val (.int p1), .val (.int p2), .val (.int p3), .val (.int p4), .val (.int va), .unset, .unset, .unset, .unset, .unset, .unset, .unset, .unset, .unset, .unset, .unset, .unset, .unset] [(.int p0)]))
      exact j26 _
  refine own_by (fun _ kz => XS.iload X0.here hx rfl (hb hby at_0) rfl kz) ?_
  show own_Go p.tables e below s _ _ _ (s₁.setTop (mkF m 2 #[.val (.int p0), .val (.int p1), .val (.int p2), .val (.int p3), .val (.int p4), .unset, .unset, .unset, .unset, .unset, .unset, .unset, .unset, .unset, .unset, .unset, .unset, .unset, .unset] [(.int p4)]))
  refine own_by (fun _ kz => XS.iconst X0.here hx rfl (hb hby at_2) kz) ?_
  show own_Go p.tables e below s _ _ _ (s₁.setTop (mkF m 3 #[.val (.int p0), .val (.int p1), .val (.int p2), .val (.int p3), .val (.int p4), .unset, .unset, .unset, .unset, .unset, .unset, .unset, .unset, .unset, .unset, .unset, .unset, .unset, .unset] [(.int (1 : Int32)), (.int p4)]))
  refine own_by (fun _ kz => XS.iand X0.here hx rfl (hb hby at_3) rfl kz) ?_
  show own_Go p.tables e below s _ _ _ (s₁.setTop (mkF m 4 #[.val (.int p0), .val (.int p1), .val (.int p2), .val (.int p3), .val (.int p4), .unset, .unset, .unset, .unset, .unset, .unset, .unset, .unset, .unset, .unset, .unset, .unset, .unset, .unset] [(.int (p4 &&& (1 : Int32)))]))
  by_cases hc4_61 : (p4 &&& (1 : Int32)) = (0 : Int32)
  · refine own_by (fun _ kz => XS.ifYes X0.here hx rfl (pc0 := 4) (pc' := 11) rfl (hb hby at_4) rfl ((if0 _ _).trans (teq hc4_61).1) (by decide) (by decide) kz) ?_
    show own_Go p.tables e below s _ _ _ (s₁.setTop (mkF m 11 #[.val (.int p0), .val (.int p1), .val (.int p2), .val (.int p3), .val (.int p4), .unset, .unset, .unset, .unset, .unset, .unset, .unset, .unset, .unset, .unset, .unset, .unset, .unset, .unset] []))
    refine own_by (fun _ kz => XS.iloadN X0.here hx rfl (hb hby at_11) rfl kz) ?_
    show own_Go p.tables e below s _ _ _ (s₁.setTop (mkF m 12 #[.val (.int p0), .val (.int p1), .val (.int p2), .val (.int p3), .val (.int p4), .unset, .unset, .unset, .unset, .unset, .unset, .unset, .unset, .unset, .unset, .unset, .unset, .unset, .unset] [(.int p1)]))
    exact j12 _
  · refine own_by (fun _ kz => XS.ifNo X0.here hx rfl (hb hby at_4) rfl ((if0 _ _).trans (feq hc4_61).1) kz) ?_
    show own_Go p.tables e below s _ _ _ (s₁.setTop (mkF m 7 #[.val (.int p0), .val (.int p1), .val (.int p2), .val (.int p3), .val (.int p4), .unset, .unset, .unset, .unset, .unset, .unset, .unset, .unset, .unset, .unset, .unset, .unset, .unset, .unset] []))
    refine own_by (fun _ kz => XS.iloadN X0.here hx rfl (hb hby at_7) rfl kz) ?_
    show own_Go p.tables e below s _ _ _ (s₁.setTop (mkF m 8 #[.val (.int p0), .val (.int p1), .val (.int p2), .val (.int p3), .val (.int p4), .unset, .unset, .unset, .unset, .unset, .unset, .unset, .unset, .unset, .unset, .unset, .unset, .unset, .unset] [(.int p0)]))
    refine own_by (fun _ kz => XS.goto X0.here hx rfl (pc0 := 8) (pc' := 12) rfl (hb hby at_8) (by decide) (by decide) kz) ?_
    show own_Go p.tables e below s _ _ _ (s₁.setTop (mkF m 12 #[.val (.int p0), .val (.int p1), .val (.int p2), .val (.int p3), .val (.int p4), .unset, .unset, .unset, .unset, .unset, .unset, .unset, .unset, .unset, .unset, .unset, .unset, .unset, .unset] [(.int p0)]))
    exact j12 _
theorem own_len0 {t : Term} {args : Array Value} {s : State} {a : Addr} {cl : Cell} {ty : FieldType} (ev : t.eval args s none [] s = some (.ref a)) (A : Arr s s.heap a cl ty) (h : (Jvm.Cond.eq (.length t) (.int 0)).value args s none s [] = some true) : cl.slots.size = 0 := by
  have ha : s.arrayAt? a = some cl := Arr.fin (Vm.Alike.refl _) A
  have q := eqv_i (F := .int 0) rfl h
  by_cases hl : cl.slots.size < 2 ^ 31
  · rw [len_f ev ha hl] at q
    have h1 : cl.slots.size.toInt32 = 0 := Value.int.inj (Option.some.inj q)
    have h2 : cl.slots.size.toInt32.toNatClampNeg = cl.slots.size := Int32.toNatClampNeg_ofNat_of_lt hl
    rw [h1] at h2
    exact h2.symm
  · simp [Term.eval, ev, ha, hl] at q

set_option maxRecDepth 65536 in
set_option maxHeartbeats 40000000 in
theorem comes_1 {Post : Tables → Env → Array Value → State → Outcome → State → Prop} (hpost : ∀ tb e args s v u, (limb_1_1.after args s (.returned v) u = true ∧ limb_1_2.after args s (.returned v) u = true ∧ True) → FrameEnd s (.returned v) u (Jvm.fieldLocs frame_1_writes args s ++ Jvm.arrayLocs frame_1_arrays args s ++ Jvm.staticLocs frame_1_statics s) 24 128 → Post tb e args s (.returned v) u) :
    ArmFor flags0 classFile x code maxLocals ret World_1 tables_1 room_1 Calls_1 rest_1 Pre_1 Post := by
  intro l hfl _ _ p e ha hc hk s m args below hf hA hF happ hP
  obtain ⟨hcalls, hrest, hpre⟩ := hP
  obtain ⟨-, -, -, hnamed, -, -, -, hat⟩ := (Spec.applies_iff hf).mp happ
  obtain ⟨hg, hn⟩ := and_e (Cond.before_iff.mp (show (Jvm.Cond.and given_1 narrow_1).before args s = true from hpre))
  obtain ⟨hcount, hr0⟩ := and_e hg
  obtain ⟨ha0, hr1⟩ := and_e hr0
  obtain ⟨ha1, hr2⟩ := and_e hr1
  obtain ⟨ha2, hr3⟩ := and_e hr2
  obtain ⟨ha3, hr4⟩ := and_e hr3
  obtain ⟨w0, w1, w2, w3, w4, rfl⟩ : ∃ w0 w1 w2 w3 w4 : Value, args = #[w0, w1, w2, w3, w4] := by
    have hs : args.size = 5 := by simpa [Cond.value, given_1] using hcount
    obtain ⟨L⟩ := args
    match L, hs with
    | [w0, w1, w2, w3, w4], _ => exact ⟨w0, w1, w2, w3, w4, rfl⟩
  have hw := fun d (hd : d ∈ tables_1) => atoms_spec (ws := Jvm.Cond.code x code maxLocals ret :: tables_1) hat d (List.mem_cons_of_mem _ hd)
  obtain ⟨i0, ev0⟩ := is_v ha0
  obtain rfl : w0 = (.int i0) := Option.some.inj ev0
  obtain ⟨i1, ev1⟩ := is_v ha1
  obtain rfl : w1 = (.int i1) := Option.some.inj ev1
  obtain ⟨i2, ev2⟩ := is_v ha2
  obtain rfl : w2 = (.int i2) := Option.some.inj ev2
  obtain ⟨i3, ev3⟩ := is_v ha3
  obtain rfl : w3 = (.int i3) := Option.some.inj ev3
  obtain ⟨i4, ev4⟩ := is_v hr4
  obtain rfl : w4 = (.int i4) := Option.some.inj ev4
  obtain ⟨hAr, hn1⟩ := and_e hn
  obtain ⟨hEx, hLe⟩ := and_e hn1
  obtain ⟨N, evN⟩ := exa_v hEx
  have SN := Sta.start evN (Or.inr ⟨(hw _ (List.mem_of_getElem? (i := 6) rfl)), (hw _ (List.mem_of_getElem? (i := 18) rfl))⟩)
  have EN := Exa.start evN hEx
  obtain ⟨cN, AN⟩ := Arr.start evN hAr
  have lN : cN.slots.size = 0 := own_len0 evN AN hLe
  have VN : Arv s s.heap N cN.cls .int 0 [] (.int (0 : Int32)) := ⟨cN, AN, rfl, by rw [lN]; rfl, by decide, fun q hq => by omega, fun q hq => by omega⟩
  obtain ⟨n, o, h1, h2, h3, _, L, rfl, ⟨rfl, N⟩, hq⟩ := rm0 l s _ hw tables_1 i0 i1 i2 i3 i4 s.heap s.heap.size (Nat.le_refl _) N cN.cls (Old.start s) SN EN VN (AN.lt) p e ha hc hk s m _ below hf ((Spec.applies_iff_loose hf).mp happ).1 ⟨rfl, State.Warmed39.refl s, rfl⟩ trivial
  refine ⟨n, _, h1, h2, h3, hpost _ _ _ _ _ _ ⟨Cond.after_iff.mpr rfl, Cond.after_iff.mpr (eq_i res_at (Term.int_eval (1)) rfl), trivial⟩ ⟨hq.1, hq.2.1, (hq.2.2.sift fun y hy => Or.inr (N y hy)).mono (by decide) (by decide)⟩⟩
theorem main_1_1 : Claimed_1_1 := comes_1 fun _ _ _ _ _ _ h hF => ⟨h.1, hF⟩
theorem main_1_2 : Claimed_1_2 := comes_1 fun _ _ _ _ _ _ h hF => ⟨h.2.1, hF⟩
end Jvm.Pilot.@@N@@
namespace Jvm.Pilot.@@N@@
open Jvm Jvm.ClassFile Sem Op Lib Jvm.Free Jvm.Stand Jvm.Pilot.@@N@@.Jvm.D
/-! MADE BY PROGRAM (witnessworld.py) out of the Statement's table words and the real class files: 13 classes; the members and pool entries that the words name. The judged class is class 1, her method 2. -/
namespace start1
open Jvm.ClassFile
def u (s : String) : CpInfo := .utf8 (stringToUtf16 s)
/-- a pool by its gaps: so many unusable entries, then the entry; so many at the end -/
def gap : Nat → List CpInfo → List CpInfo
  | 0, r => r
  | n + 1, r => .unusable :: gap n r
def poolList (es : List (Nat × CpInfo)) (last : Nat) : List CpInfo := es.foldr (fun e r => gap e.1 (e.2 :: r)) (gap last [])
def pool (es : List (Nat × CpInfo)) (last : Nat) : Array CpInfo := ⟨poolList es last⟩
def fileOf (pool : Array CpInfo) (this : Nat) (attrs : Array Attribute := #[]) (ms : Array MethodInfo := #[]) (fl : Nat := 33) (sup : Nat := 0) (ifs : Array Nat := #[]) (fds : Array FieldInfo := #[]) : ClassFile where
  minorVersion := 0
  majorVersion := 65
  constantPool := pool
  accessFlags := fl
  thisClass := this
  superClass := sup
  interfaces := ifs
  fields := fds
  methods := ms
  attributes := attrs
def plain (name : String) (sup : Option ClassId) : Class where
  name := name
  kind := .ordinary
  loader := none
  accessFlags := 33
  super := sup
  interfaces := #[]
  cf := none
  fields := #[]
  methods := #[]
  instanceTypes := #[]
  staticTypes := #[]
  resolved := #[]
  callSites := []
  init := .initialized
  statics := none
  mirror := none

def pool0 : Array CpInfo := pool [(5, u "<init>"), (0, u "()V"), (1, .class_ 10), (1, u "java/lang/Object")] 113

def k0c0 : Code := { maxStack := 0, maxLocals := 1, code := object_method_1_code, exceptionTable := #[], attributes := #[] }
def k0m0 : Method := { name := "<init>", desc := "()V", sig := { parameters := [], returnType := none }, accessFlags := 1, code := some k0c0 }
/-- java/lang/Object -/
def k0 : Class := { plain "java/lang/Object" none with
  accessFlags := 33
  interfaces := #[]
  cf := some (fileOf pool0 8 #[] #[{ accessFlags := 1, nameIndex := 5, descriptorIndex := 6, attributes := #[] }] 33 0 #[] #[])
  fields := #[]
  methods := #[k0m0]
  instanceTypes := #[]
  staticTypes := #[]
  resolved := Array.replicate 124 none
  statics := none }

def pool1 : Array CpInfo := pool [(2, .class_ 4), (1, u "java/lang/Object"), (0, u "<init>"), (0, u "()V"), (0, .methodref 8 9), (0, .class_ 10), (0, .nameAndType 11 12), (0, u "java/lang/Math"), (0, u "min"), (0, u "(II)I"), (0, .class_ 14), (0, u "cyclebreak/collector/ReferenceTable"), (0, .methodref 13 16), (0, .nameAndType 5 17), (0, u "(I)V"), (0, .methodref 13 19), (0, .nameAndType 20 21), (0, u "addFixed"), (0, u "(II)V"), (0, .methodref 13 23), (0, .nameAndType 24 21), (0, u "add"), (0, .methodref 13 26), (0, .nameAndType 27 28), (0, u "remove"), (0, u "(II)Z"), (0, .methodref 13 30), (0, .nameAndType 31 32), (0, u "count"), (0, u "(I)I"), (0, .methodref 13 34), (0, .nameAndType 35 12), (0, u "target"), (0, .methodref 37 38), (0, .class_ 39), (0, .nameAndType 40 41), (0, u "cyclebreak/collector/ReferenceTableRemovePinLaw"), (0, u "sort3"), (0, u "([I)V"), (3, u "law"), (0, u "(IIIII)Z")] 4

def k1m0 : Method := { name := "<init>", desc := "()V", sig := { parameters := [], returnType := none }, accessFlags := 2, code := none }
def k1c1 : Code := { maxStack := 4, maxLocals := 2, code := method_2_code, exceptionTable := #[], attributes := #[] }
def k1m1 : Method := { name := "sort3", desc := "([I)V", sig := { parameters := [(.array .int)], returnType := none }, accessFlags := 10, code := some k1c1 }
def k1c2 : Code := { maxStack := 5, maxLocals := 19, code := code, exceptionTable := #[], attributes := #[] }
def k1m2 : Method := { name := "law", desc := "(IIIII)Z", sig := { parameters := [.int, .int, .int, .int, .int], returnType := some .boolean }, accessFlags := 9, code := some k1c2 }
/-- cyclebreak/collector/ReferenceTableRemovePinLaw -/
def k1 : Class := { plain "cyclebreak/collector/ReferenceTableRemovePinLaw" (some 0) with
  accessFlags := 49
  interfaces := #[]
  cf := some (fileOf pool1 37 #[] #[{ accessFlags := 2, nameIndex := 5, descriptorIndex := 6, attributes := #[] }, { accessFlags := 10, nameIndex := 40, descriptorIndex := 41, attributes := #[] }, { accessFlags := 9, nameIndex := 45, descriptorIndex := 46, attributes := #[] }] 49 2 #[] #[])
  fields := #[]
  methods := #[k1m0, k1m1, k1m2]
  instanceTypes := #[]
  staticTypes := #[]
  resolved := Array.replicate 51 none
  statics := none }

def pool2 : Array CpInfo := pool [(1, .class_ 2), (0, u "java/lang/Math"), (1, .class_ 6), (1, u "java/lang/Object"), (0, u "<init>"), (0, u "()V"), (89, .class_ 100), (1, u "java/lang/Math$RandomNumberGeneratorHolder"), (71, u "negativeZeroFloatBits"), (0, u "J"), (2, u "negativeZeroDoubleBits"), (21, u "max"), (2, u "min"), (43, u "$assertionsDisabled"), (0, u "Z"), (88, u "(II)I"), (2, u "twoToTheDoubleScaleDown"), (0, u "D"), (4, u "twoToTheDoubleScaleUp"), (9, u "E"), (3, u "PI"), (2, u "TAU"), (2, u "DEGREES_TO_RADIANS"), (0, u "RADIANS_TO_DEGREES")] 94

def k2m0 : Method := { name := "<init>", desc := "()V", sig := { parameters := [], returnType := none }, accessFlags := 2, code := none }
def k2c1 : Code := { maxStack := 2, maxLocals := 2, code := jdk_29_method_65_code, exceptionTable := #[], attributes := #[] }
def k2m1 : Method := { name := "max", desc := "(II)I", sig := { parameters := [.int, .int], returnType := some .int }, accessFlags := 9, code := some k2c1 }
def k2c2 : Code := { maxStack := 2, maxLocals := 2, code := jdk_29_method_69_code, exceptionTable := #[], attributes := #[] }
def k2m2 : Method := { name := "min", desc := "(II)I", sig := { parameters := [.int, .int], returnType := some .int }, accessFlags := 9, code := some k2c2 }
/-- java/lang/Math -/
def k2 : Class := { plain "java/lang/Math" (some 0) with
  accessFlags := 49
  interfaces := #[]
  cf := some (fileOf pool2 1 #[.nestMembers #[98]] #[{ accessFlags := 2, nameIndex := 7, descriptorIndex := 8, attributes := #[] }, { accessFlags := 9, nameIndex := 198, descriptorIndex := 335, attributes := #[] }, { accessFlags := 9, nameIndex := 201, descriptorIndex := 335, attributes := #[] }] 49 4 #[] #[{ accessFlags := 25, nameIndex := 354, descriptorIndex := 339, attributes := #[] }, { accessFlags := 25, nameIndex := 358, descriptorIndex := 339, attributes := #[] }, { accessFlags := 25, nameIndex := 361, descriptorIndex := 339, attributes := #[] }, { accessFlags := 26, nameIndex := 364, descriptorIndex := 339, attributes := #[] }, { accessFlags := 26, nameIndex := 365, descriptorIndex := 339, attributes := #[] }, { accessFlags := 26, nameIndex := 172, descriptorIndex := 173, attributes := #[] }, { accessFlags := 26, nameIndex := 176, descriptorIndex := 173, attributes := #[] }, { accessFlags := 8, nameIndex := 344, descriptorIndex := 339, attributes := #[] }, { accessFlags := 8, nameIndex := 338, descriptorIndex := 339, attributes := #[] }, { accessFlags := 4120, nameIndex := 245, descriptorIndex := 246, attributes := #[] }])
  fields := #[{ name := "E", type := .double, accessFlags := 25, slot := 0, constantValue := 0 }, { name := "PI", type := .double, accessFlags := 25, slot := 1, constantValue := 0 }, { name := "TAU", type := .double, accessFlags := 25, slot := 2, constantValue := 0 }, { name := "DEGREES_TO_RADIANS", type := .double, accessFlags := 26, slot := 3, constantValue := 0 }, { name := "RADIANS_TO_DEGREES", type := .double, accessFlags := 26, slot := 4, constantValue := 0 }, { name := "negativeZeroFloatBits", type := .long, accessFlags := 26, slot := 5, constantValue := 0 }, { name := "negativeZeroDoubleBits", type := .long, accessFlags := 26, slot := 6, constantValue := 0 }, { name := "twoToTheDoubleScaleUp", type := .double, accessFlags := 8, slot := 7, constantValue := 0 }, { name := "twoToTheDoubleScaleDown", type := .double, accessFlags := 8, slot := 8, constantValue := 0 }, { name := "$assertionsDisabled", type := .boolean, accessFlags := 4120, slot := 9, constantValue := 0 }]
  methods := #[k2m0, k2m1, k2m2]
  instanceTypes := #[]
  staticTypes := #[.double, .double, .double, .double, .double, .long, .long, .double, .double, .boolean]
  resolved := Array.replicate 460 none
  statics := none }

def pool3 : Array CpInfo := pool [(1, .methodref 2 3), (0, .class_ 4), (0, .nameAndType 5 6), (0, u "java/lang/Object"), (0, u "<init>"), (0, u "()V"), (0, .class_ 8), (0, u "[I"), (0, .fieldref 10 11), (0, .class_ 12), (0, .nameAndType 13 14), (0, u "cyclebreak/collector/ReferenceTable"), (0, u "targets"), (0, u "[[I"), (0, .fieldref 10 16), (0, .nameAndType 17 8), (0, u "NONE"), (0, .methodref 19 20), (0, .class_ 21), (0, .nameAndType 22 23), (0, u "java/util/Arrays"), (0, u "fill"), (0, u "([Ljava/lang/Object;Ljava/lang/Object;)V"), (0, .fieldref 10 25), (0, .nameAndType 26 8), (0, u "counts"), (0, .fieldref 10 28), (0, .nameAndType 29 8), (0, u "fixed"), (0, .methodref 10 31), (0, .nameAndType 32 33), (0, u "grow"), (0, u "(I)I"), (0, .methodref 35 36), (0, .class_ 37), (0, .nameAndType 38 39), (0, u "java/lang/Math"), (0, u "max"), (0, u "(II)I"), (0, .methodref 19 41), (0, .nameAndType 42 43), (0, u "copyOf"), (0, u "([II)[I"), (24, u "(I)V"), (24, u "add"), (0, u "(II)V"), (0, u "addFixed"), (1, u "remove"), (0, u "(II)Z"), (2, u "count"), (0, u "target")] 30

def k3c0 : Code := { maxStack := 2, maxLocals := 2, code := prog_50_method_1_code, exceptionTable := #[], attributes := #[] }
def k3m0 : Method := { name := "<init>", desc := "(I)V", sig := { parameters := [.int], returnType := none }, accessFlags := 1, code := some k3c0 }
def k3c1 : Code := { maxStack := 4, maxLocals := 4, code := prog_50_method_2_code, exceptionTable := #[], attributes := #[] }
def k3m1 : Method := { name := "add", desc := "(II)V", sig := { parameters := [.int, .int], returnType := none }, accessFlags := 1, code := some k3c1 }
def k3c2 : Code := { maxStack := 4, maxLocals := 5, code := prog_50_method_3_code, exceptionTable := #[], attributes := #[] }
def k3m2 : Method := { name := "addFixed", desc := "(II)V", sig := { parameters := [.int, .int], returnType := none }, accessFlags := 1, code := some k3c2 }
def k3c3 : Code := { maxStack := 6, maxLocals := 3, code := prog_50_method_4_code, exceptionTable := #[], attributes := #[] }
def k3m3 : Method := { name := "grow", desc := "(I)I", sig := { parameters := [.int], returnType := some .int }, accessFlags := 2, code := some k3c3 }
def k3c4 : Code := { maxStack := 5, maxLocals := 6, code := prog_50_method_5_code, exceptionTable := #[], attributes := #[] }
def k3m4 : Method := { name := "remove", desc := "(II)Z", sig := { parameters := [.int, .int], returnType := some .boolean }, accessFlags := 1, code := some k3c4 }
def k3c5 : Code := { maxStack := 2, maxLocals := 2, code := prog_50_method_8_code, exceptionTable := #[], attributes := #[] }
def k3m5 : Method := { name := "count", desc := "(I)I", sig := { parameters := [.int], returnType := some .int }, accessFlags := 1, code := some k3c5 }
def k3c6 : Code := { maxStack := 2, maxLocals := 3, code := prog_50_method_9_code, exceptionTable := #[], attributes := #[] }
def k3m6 : Method := { name := "target", desc := "(II)I", sig := { parameters := [.int, .int], returnType := some .int }, accessFlags := 1, code := some k3c6 }
/-- cyclebreak/collector/ReferenceTable -/
def k3 : Class := { plain "cyclebreak/collector/ReferenceTable" (some 0) with
  accessFlags := 49
  interfaces := #[]
  cf := some (fileOf pool3 10 #[] #[{ accessFlags := 1, nameIndex := 5, descriptorIndex := 68, attributes := #[] }, { accessFlags := 1, nameIndex := 93, descriptorIndex := 94, attributes := #[] }, { accessFlags := 1, nameIndex := 95, descriptorIndex := 94, attributes := #[] }, { accessFlags := 2, nameIndex := 32, descriptorIndex := 33, attributes := #[] }, { accessFlags := 1, nameIndex := 97, descriptorIndex := 98, attributes := #[] }, { accessFlags := 1, nameIndex := 101, descriptorIndex := 33, attributes := #[] }, { accessFlags := 1, nameIndex := 102, descriptorIndex := 39, attributes := #[] }] 49 2 #[] #[{ accessFlags := 26, nameIndex := 17, descriptorIndex := 8, attributes := #[] }, { accessFlags := 18, nameIndex := 13, descriptorIndex := 14, attributes := #[] }, { accessFlags := 18, nameIndex := 26, descriptorIndex := 8, attributes := #[] }, { accessFlags := 18, nameIndex := 29, descriptorIndex := 8, attributes := #[] }])
  fields := #[{ name := "NONE", type := (.array .int), accessFlags := 26, slot := 0, constantValue := 0 }, { name := "targets", type := (.array (.array .int)), accessFlags := 18, slot := 0, constantValue := 0 }, { name := "counts", type := (.array .int), accessFlags := 18, slot := 1, constantValue := 0 }, { name := "fixed", type := (.array .int), accessFlags := 18, slot := 2, constantValue := 0 }]
  methods := #[k3m0, k3m1, k3m2, k3m3, k3m4, k3m5, k3m6]
  instanceTypes := #[(.array (.array .int)), (.array .int), (.array .int)]
  staticTypes := #[(.array .int)]
  resolved := Array.replicate 133 none
  statics := some 0 }

def pool4 : Array CpInfo := pool [(2, .class_ 4), (1, u "java/lang/Object"), (0, u "<init>"), (0, u "()V"), (7, .class_ 16), (1, u "java/util/Arrays"), (57, .class_ 76), (1, u "java/util/Arrays$NaturalOrder"), (36, .class_ 115), (1, u "java/util/Arrays$LegacyMergeSort"), (1, u "Z"), (32, .methodref 151 152), (0, .class_ 153), (0, .nameAndType 154 155), (0, u "java/lang/System"), (0, u "arraycopy"), (0, u "(Ljava/lang/Object;ILjava/lang/Object;II)V"), (146, u "copyOf"), (1, .methodref 305 306), (0, .class_ 307), (0, .nameAndType 308 309), (0, u "java/lang/Math"), (0, u "min"), (0, u "(II)I"), (65, .class_ 376), (0, u "java/util/Arrays$ArrayList"), (68, u "$assertionsDisabled"), (269, u "MIN_ARRAY_SORT_GRAN"), (0, u "I"), (2, u "INSERTIONSORT_THRESHOLD"), (120, u "fill"), (17, u "([Ljava/lang/Object;Ljava/lang/Object;)V"), (12, u "([II)[I"), (103, .class_ 976), (0, u "java/util/Arrays$ArrayItr")] 52

def k4m0 : Method := { name := "<init>", desc := "()V", sig := { parameters := [], returnType := none }, accessFlags := 2, code := none }
def k4c1 : Code := { maxStack := 3, maxLocals := 4, code := jdk_65_method_117_code, exceptionTable := #[], attributes := #[] }
def k4m1 : Method := { name := "fill", desc := "([Ljava/lang/Object;Ljava/lang/Object;)V", sig := { parameters := [(.array (.object "java/lang/Object")), (.object "java/lang/Object")], returnType := none }, accessFlags := 9, code := some k4c1 }
def k4c2 : Code := { maxStack := 6, maxLocals := 3, code := jdk_65_method_123_code, exceptionTable := #[], attributes := #[] }
def k4m2 : Method := { name := "copyOf", desc := "([II)[I", sig := { parameters := [(.array .int), .int], returnType := some (.array .int) }, accessFlags := 9, code := some k4c2 }
/-- java/util/Arrays -/
def k4 : Class := { plain "java/util/Arrays" (some 0) with
  accessFlags := 49
  interfaces := #[]
  cf := some (fileOf pool4 14 #[.nestMembers #[975, 375, 113, 74]] #[{ accessFlags := 2, nameIndex := 5, descriptorIndex := 6, attributes := #[] }, { accessFlags := 9, nameIndex := 840, descriptorIndex := 858, attributes := #[] }, { accessFlags := 9, nameIndex := 302, descriptorIndex := 871, attributes := #[] }] 49 2 #[] #[{ accessFlags := 26, nameIndex := 715, descriptorIndex := 716, attributes := #[] }, { accessFlags := 26, nameIndex := 719, descriptorIndex := 716, attributes := #[] }, { accessFlags := 4120, nameIndex := 445, descriptorIndex := 117, attributes := #[] }])
  fields := #[{ name := "MIN_ARRAY_SORT_GRAN", type := .int, accessFlags := 26, slot := 0, constantValue := 0 }, { name := "INSERTIONSORT_THRESHOLD", type := .int, accessFlags := 26, slot := 1, constantValue := 0 }, { name := "$assertionsDisabled", type := .boolean, accessFlags := 4120, slot := 2, constantValue := 0 }]
  methods := #[k4m0, k4m1, k4m2]
  instanceTypes := #[]
  staticTypes := #[.int, .int, .boolean]
  resolved := Array.replicate 1029 none
  statics := none }

def pool5 : Array CpInfo := pool [(2, .class_ 4), (1, u "java/lang/Object"), (0, u "<init>"), (0, u "()V"), (1, .class_ 10), (1, u "java/lang/System"), (0, u "allowSecurityManager"), (0, u "I"), (16, u "cons"), (0, u "Ljava/io/Console;"), (77, .class_ 110), (1, u "java/lang/System$CallersHolder"), (43, u "initialErrStream"), (0, u "Ljava/io/PrintStream;"), (19, u "security"), (0, u "Ljava/lang/SecurityManager;"), (31, .class_ 209), (0, u "java/lang/System$1"), (7, u "props"), (0, u "Ljava/util/Properties;"), (2, u "lineSeparator"), (0, u "Ljava/lang/String;"), (96, .class_ 321), (1, u "java/lang/System$LoggerFinder"), (5, .class_ 328), (0, u "java/lang/System$Logger"), (67, u "err"), (2, u "out"), (91, u "notSupportedJnuEncoding"), (15, u "in"), (17, u "initialIn"), (0, u "Ljava/io/InputStream;"), (35, u "bootLayer"), (0, u "Ljava/lang/ModuleLayer;"), (99, .class_ 664), (0, u "java/lang/System$2"), (9, u "NEVER"), (2, u "MAYBE"), (49, u "arraycopy"), (0, u "(Ljava/lang/Object;ILjava/lang/Object;II)V"), (72, .class_ 802), (0, u "java/lang/System$Logger$Level")] 31

def k5m0 : Method := { name := "<init>", desc := "()V", sig := { parameters := [], returnType := none }, accessFlags := 2, code := none }
def k5m1 : Method := { name := "arraycopy", desc := "(Ljava/lang/Object;ILjava/lang/Object;II)V", sig := { parameters := [(.object "java/lang/Object"), .int, (.object "java/lang/Object"), .int, .int], returnType := none }, accessFlags := 265, code := none }
/-- java/lang/System -/
def k5 : Class := { plain "java/lang/System" (some 0) with
  accessFlags := 49
  interfaces := #[]
  cf := some (fileOf pool5 8 #[.nestMembers #[319, 327, 801, 108, 663, 208]] #[{ accessFlags := 2, nameIndex := 5, descriptorIndex := 6, attributes := #[] }, { accessFlags := 265, nameIndex := 727, descriptorIndex := 728, attributes := #[] }] 49 2 #[] #[{ accessFlags := 25, nameIndex := 507, descriptorIndex := 526, attributes := #[] }, { accessFlags := 25, nameIndex := 399, descriptorIndex := 155, attributes := #[] }, { accessFlags := 25, nameIndex := 396, descriptorIndex := 155, attributes := #[] }, { accessFlags := 10, nameIndex := 525, descriptorIndex := 526, attributes := #[] }, { accessFlags := 26, nameIndex := 674, descriptorIndex := 12, attributes := #[] }, { accessFlags := 26, nameIndex := 677, descriptorIndex := 12, attributes := #[] }, { accessFlags := 10, nameIndex := 11, descriptorIndex := 12, attributes := #[] }, { accessFlags := 74, nameIndex := 175, descriptorIndex := 176, attributes := #[] }, { accessFlags := 10, nameIndex := 491, descriptorIndex := 222, attributes := #[] }, { accessFlags := 74, nameIndex := 29, descriptorIndex := 30, attributes := #[] }, { accessFlags := 74, nameIndex := 154, descriptorIndex := 155, attributes := #[] }, { accessFlags := 10, nameIndex := 217, descriptorIndex := 218, attributes := #[] }, { accessFlags := 10, nameIndex := 221, descriptorIndex := 222, attributes := #[] }, { accessFlags := 8, nameIndex := 562, descriptorIndex := 563, attributes := #[] }])
  fields := #[{ name := "in", type := (.object "java/io/InputStream"), accessFlags := 25, slot := 0, constantValue := 0 }, { name := "out", type := (.object "java/io/PrintStream"), accessFlags := 25, slot := 1, constantValue := 0 }, { name := "err", type := (.object "java/io/PrintStream"), accessFlags := 25, slot := 2, constantValue := 0 }, { name := "initialIn", type := (.object "java/io/InputStream"), accessFlags := 10, slot := 3, constantValue := 0 }, { name := "NEVER", type := .int, accessFlags := 26, slot := 4, constantValue := 0 }, { name := "MAYBE", type := .int, accessFlags := 26, slot := 5, constantValue := 0 }, { name := "allowSecurityManager", type := .int, accessFlags := 10, slot := 6, constantValue := 0 }, { name := "security", type := (.object "java/lang/SecurityManager"), accessFlags := 74, slot := 7, constantValue := 0 }, { name := "notSupportedJnuEncoding", type := (.object "java/lang/String"), accessFlags := 10, slot := 8, constantValue := 0 }, { name := "cons", type := (.object "java/io/Console"), accessFlags := 74, slot := 9, constantValue := 0 }, { name := "initialErrStream", type := (.object "java/io/PrintStream"), accessFlags := 74, slot := 10, constantValue := 0 }, { name := "props", type := (.object "java/util/Properties"), accessFlags := 10, slot := 11, constantValue := 0 }, { name := "lineSeparator", type := (.object "java/lang/String"), accessFlags := 10, slot := 12, constantValue := 0 }, { name := "bootLayer", type := (.object "java/lang/ModuleLayer"), accessFlags := 8, slot := 13, constantValue := 0 }]
  methods := #[k5m0, k5m1]
  instanceTypes := #[]
  staticTypes := #[(.object "java/io/InputStream"), (.object "java/io/PrintStream"), (.object "java/io/PrintStream"), (.object "java/io/InputStream"), .int, .int, .int, (.object "java/lang/SecurityManager"), (.object "java/lang/String"), (.object "java/io/Console"), (.object "java/io/PrintStream"), (.object "java/util/Properties"), (.object "java/lang/String"), (.object "java/lang/ModuleLayer")]
  resolved := Array.replicate 834 none
  statics := none }

def pool6 : Array CpInfo := pool [(1, u "java/lang/Cloneable"), (0, .class_ 1), (0, u "java/lang/Object"), (0, .class_ 3)] 3

/-- java/lang/Cloneable -/
def k6 : Class := { plain "java/lang/Cloneable" (some 0) with
  accessFlags := 1537
  interfaces := #[]
  cf := some (fileOf pool6 2 #[] #[] 1537 4 #[] #[])
  fields := #[]
  methods := #[]
  instanceTypes := #[]
  staticTypes := #[]
  resolved := Array.replicate 8 none
  statics := none }

def pool7 : Array CpInfo := pool [(1, u "java/io/Serializable"), (0, .class_ 1), (0, u "java/lang/Object"), (0, .class_ 3)] 3

/-- java/io/Serializable -/
def k7 : Class := { plain "java/io/Serializable" (some 0) with
  accessFlags := 1537
  interfaces := #[]
  cf := some (fileOf pool7 2 #[] #[] 1537 4 #[] #[])
  fields := #[]
  methods := #[]
  instanceTypes := #[]
  staticTypes := #[]
  resolved := Array.replicate 8 none
  statics := none }

/-- the primitive byte -/
def k8 : Class := { plain "byte" none with kind := .primitive 'B', accessFlags := 0x411 }
/-- [B -/
def k9 : Class := { plain "[B" (some 0) with kind := .array 8 .byte, interfaces := #[6, 7], accessFlags := 1041 }

/-- the primitive int -/
def k10 : Class := { plain "int" none with kind := .primitive 'I', accessFlags := 0x411 }
/-- [I -/
def k11 : Class := { plain "[I" (some 0) with kind := .array 10 .int, interfaces := #[6, 7], accessFlags := 1041 }

/-- [L[I; -/
def k12 : Class := { plain "[[I" (some 0) with kind := .array 11 (.array .int), interfaces := #[6, 7], accessFlags := 1041 }

def heap : Heap := #[{ cls := 3, slots := #[.ref 2], vm := .statics 3 },
  { cls := 12, slots := #[.null], vm := .none },
  { cls := 11, slots := #[], vm := .none }]
def classes : Array Class := #[k0, k1, k2, k3, k4, k5, k6, k7, k8, k9, k10, k11, k12]
def interned : List (Array UInt16 × Addr) := []
def slotsUsed : Nat := 2
def theMethod : MethodId := ⟨1, 2⟩
def args0 : Array Value := #[.int 1, .int 2, .int 3, .int 4, .int 5]
def aboutOver (below : List Frame) : State where
  vm := { classes := classes, interned := interned.toArray }
  heap := heap
  slotsUsed := slotsUsed
  threads := #[{ frames := .invoking theMethod args0 :: below }]
def below0 : List Frame := [.native { method := ⟨0, 0⟩, args := #[] }]
def about1 : State := aboutOver below0
def p0 : Program := .bare "" "" ""
def e0 : Env := launch0.env 0 0 0
theorem w_frames : about1.frames = Frame.invoking theMethod args0 :: below0 := rfl
set_option maxRecDepth 65536 in
theorem w_args : argsFit about1.vm theMethod args0 = true := by decide +kernel
set_option maxRecDepth 65536 in
theorem w_heap : heapFits about1 = true := by decide +kernel
set_option maxRecDepth 65536 in
theorem w_runnable : about1.curStatus? = some .runnable := by decide +kernel
set_option maxRecDepth 65536 in
theorem w_alone : about1.alone = true := by decide +kernel
set_option maxRecDepth 65536 in
theorem w_named : about1.methodNamed? x = some theMethod := by decide +kernel
set_option maxRecDepth 65536 in
theorem w_hears : about1.hears theMethod below0 = true := by decide +kernel
set_option maxRecDepth 65536 in
theorem w_ripe : about1.ripe theMethod args0 below0 = true := by decide +kernel
theorem w_running : about1.status = .running := rfl
set_option maxRecDepth 65536 in
theorem w_room : about1.hasRoom e0.platform room_1 = true :=
  launch0.hasRoom_least _ room_1 (by decide +kernel) (by decide +kernel) (by decide +kernel) (by decide +kernel) (by decide +kernel) (by decide +kernel)
theorem allAtoms_all (ts : List Jvm.Cond) (a : Array Jvm.Value) (st : Jvm.State) : (allAtoms ts).before a st = ts.all (fun c => c.before a st) := by
  induction ts with
  | nil => rfl
  | cons c t ih =>
    show (Jvm.Cond.and c (allAtoms t)).before a st = _
    rw [Jvm.Cond.before_and, ih, List.all_cons]
def words1 : List Jvm.Cond := Jvm.Cond.code x code maxLocals ret :: tables_1
/-- a 'code' word, met by the world's own term for the bytes: nothing is compared byte by byte -/
theorem code_word {y : MethodName} {bytes : ByteArray} {mx : Nat} {rt : Option FieldType} {a : Array Value} {s : State} {m : MethodId} {meth : Method} {c : Code} (h1 : s.methodNamed? y = some m) (h2 : s.vm.method? m = some meth) (h3 : meth.code = some c) (h4 : c.code = bytes)
    (h5 : (c.maxLocals == mx && c.exceptionTable.isEmpty && decide (c.maxStack ≤ mostOperands) && decide (meth.sig.returnType = rt) && !meth.locks && decide (parseMethodDescriptor y.desc = some meth.sig)) = true) : (Jvm.Cond.code y bytes mx rt).before a s = true := by
  simp only [Bool.and_eq_true, beq_iff_eq, Bool.not_eq_true', decide_eq_true_eq] at h5
  obtain ⟨⟨⟨⟨⟨g1, g2⟩, g3⟩, g4⟩, g5⟩, g6⟩ := h5
  simp [Cond.before, Cond.holds, Cond.value, h1, h2, h3, h4, g1, g2, g3, g4, g5, g6]
def isCode : Jvm.Cond → Bool
  | .code _ _ _ _ => true
  | _ => false
theorem all_split {L : List Jvm.Cond} {P : Jvm.Cond → Bool} (h1 : L.all (fun c => isCode c || P c) = true) (h2 : ∀ c ∈ L.filter isCode, P c = true) : L.all P = true := by
  refine List.all_eq_true.mpr fun c hc => ?_
  have h := List.all_eq_true.mp h1 c hc
  rcases Bool.eq_false_or_eq_true (isCode c) with hi | hi
  · exact h2 c (List.mem_filter.mpr ⟨hc, hi⟩)
  · simpa [hi] using h
set_option maxRecDepth 65536 in
theorem w_c0 : (Jvm.Cond.code x code maxLocals ret).before args0 about1 = true := code_word (m := ⟨1, 2⟩) (meth := k1m2) (c := k1c2) (by decide +kernel) rfl rfl rfl (by decide +kernel)
set_option maxRecDepth 65536 in
theorem w_c1 : (Jvm.Cond.code ({ cls := "java/lang/Math", name := "min", desc := "(II)I" } : Jvm.MethodName) jdk_29_method_69_code (2 : Nat) (Option.some Jvm.ClassFile.FieldType.int)).before args0 about1 = true := code_word (m := ⟨2, 2⟩) (meth := k2m2) (c := k2c2) (by decide +kernel) rfl rfl rfl (by decide +kernel)
set_option maxRecDepth 65536 in
theorem w_c2 : (Jvm.Cond.code ({ cls := "cyclebreak/collector/ReferenceTable", name := "<init>", desc := "(I)V" } : Jvm.MethodName) prog_50_method_1_code (2 : Nat) (Option.none : Option Jvm.ClassFile.FieldType)).before args0 about1 = true := code_word (m := ⟨3, 0⟩) (meth := k3m0) (c := k3c0) (by decide +kernel) rfl rfl rfl (by decide +kernel)
set_option maxRecDepth 65536 in
theorem w_c3 : (Jvm.Cond.code ({ cls := "java/lang/Object", name := "<init>", desc := "()V" } : Jvm.MethodName) object_method_1_code (1 : Nat) (Option.none : Option Jvm.ClassFile.FieldType)).before args0 about1 = true := code_word (m := ⟨0, 0⟩) (meth := k0m0) (c := k0c0) (by decide +kernel) rfl rfl rfl (by decide +kernel)
set_option maxRecDepth 65536 in
theorem w_c4 : (Jvm.Cond.code ({ cls := "java/util/Arrays", name := "fill", desc := "([Ljava/lang/Object;Ljava/lang/Object;)V" } : Jvm.MethodName) jdk_65_method_117_code (4 : Nat) (Option.none : Option Jvm.ClassFile.FieldType)).before args0 about1 = true := code_word (m := ⟨4, 1⟩) (meth := k4m1) (c := k4c1) (by decide +kernel) rfl rfl rfl (by decide +kernel)
set_option maxRecDepth 65536 in
theorem w_c5 : (Jvm.Cond.code ({ cls := "cyclebreak/collector/ReferenceTable", name := "remove", desc := "(II)Z" } : Jvm.MethodName) prog_50_method_5_code (6 : Nat) (Option.some Jvm.ClassFile.FieldType.boolean)).before args0 about1 = true := code_word (m := ⟨3, 4⟩) (meth := k3m4) (c := k3c4) (by decide +kernel) rfl rfl rfl (by decide +kernel)
set_option maxRecDepth 65536 in
theorem w_c6 : (Jvm.Cond.code ({ cls := "cyclebreak/collector/ReferenceTable", name := "count", desc := "(I)I" } : Jvm.MethodName) prog_50_method_8_code (2 : Nat) (Option.some Jvm.ClassFile.FieldType.int)).before args0 about1 = true := code_word (m := ⟨3, 5⟩) (meth := k3m5) (c := k3c5) (by decide +kernel) rfl rfl rfl (by decide +kernel)
set_option maxRecDepth 65536 in
theorem w_c7 : (Jvm.Cond.code ({ cls := "cyclebreak/collector/ReferenceTableRemovePinLaw", name := "sort3", desc := "([I)V" } : Jvm.MethodName) method_2_code (2 : Nat) (Option.none : Option Jvm.ClassFile.FieldType)).before args0 about1 = true := code_word (m := ⟨1, 1⟩) (meth := k1m1) (c := k1c1) (by decide +kernel) rfl rfl rfl (by decide +kernel)
set_option maxRecDepth 65536 in
theorem w_c8 : (Jvm.Cond.code ({ cls := "cyclebreak/collector/ReferenceTable", name := "addFixed", desc := "(II)V" } : Jvm.MethodName) prog_50_method_3_code (5 : Nat) (Option.none : Option Jvm.ClassFile.FieldType)).before args0 about1 = true := code_word (m := ⟨3, 2⟩) (meth := k3m2) (c := k3c2) (by decide +kernel) rfl rfl rfl (by decide +kernel)
set_option maxRecDepth 65536 in
theorem w_c9 : (Jvm.Cond.code ({ cls := "cyclebreak/collector/ReferenceTable", name := "grow", desc := "(I)I" } : Jvm.MethodName) prog_50_method_4_code (3 : Nat) (Option.some Jvm.ClassFile.FieldType.int)).before args0 about1 = true := code_word (m := ⟨3, 3⟩) (meth := k3m3) (c := k3c3) (by decide +kernel) rfl rfl rfl (by decide +kernel)
set_option maxRecDepth 65536 in
theorem w_c10 : (Jvm.Cond.code ({ cls := "java/lang/Math", name := "max", desc := "(II)I" } : Jvm.MethodName) jdk_29_method_65_code (2 : Nat) (Option.some Jvm.ClassFile.FieldType.int)).before args0 about1 = true := code_word (m := ⟨2, 1⟩) (meth := k2m1) (c := k2c1) (by decide +kernel) rfl rfl rfl (by decide +kernel)
set_option maxRecDepth 65536 in
theorem w_c11 : (Jvm.Cond.code ({ cls := "java/util/Arrays", name := "copyOf", desc := "([II)[I" } : Jvm.MethodName) jdk_65_method_123_code (3 : Nat) (Option.some (Jvm.ClassFile.FieldType.array Jvm.ClassFile.FieldType.int))).before args0 about1 = true := code_word (m := ⟨4, 2⟩) (meth := k4m2) (c := k4c2) (by decide +kernel) rfl rfl rfl (by decide +kernel)
set_option maxRecDepth 65536 in
theorem w_c12 : (Jvm.Cond.code ({ cls := "cyclebreak/collector/ReferenceTable", name := "add", desc := "(II)V" } : Jvm.MethodName) prog_50_method_2_code (4 : Nat) (Option.none : Option Jvm.ClassFile.FieldType)).before args0 about1 = true := code_word (m := ⟨3, 1⟩) (meth := k3m1) (c := k3c1) (by decide +kernel) rfl rfl rfl (by decide +kernel)
set_option maxRecDepth 65536 in
theorem w_c13 : (Jvm.Cond.code ({ cls := "cyclebreak/collector/ReferenceTable", name := "target", desc := "(II)I" } : Jvm.MethodName) prog_50_method_9_code (3 : Nat) (Option.some Jvm.ClassFile.FieldType.int)).before args0 about1 = true := code_word (m := ⟨3, 6⟩) (meth := k3m6) (c := k3c6) (by decide +kernel) rfl rfl rfl (by decide +kernel)
def codes1 : List Jvm.Cond := [Jvm.Cond.code x code maxLocals ret, Jvm.Cond.code ({ cls := "java/lang/Math", name := "min", desc := "(II)I" } : Jvm.MethodName) jdk_29_method_69_code (2 : Nat) (Option.some Jvm.ClassFile.FieldType.int), Jvm.Cond.code ({ cls := "cyclebreak/collector/ReferenceTable", name := "<init>", desc := "(I)V" } : Jvm.MethodName) prog_50_method_1_code (2 : Nat) (Option.none : Option Jvm.ClassFile.FieldType), Jvm.Cond.code ({ cls := "java/lang/Object", name := "<init>", desc := "()V" } : Jvm.MethodName) object_method_1_code (1 : Nat) (Option.none : Option Jvm.ClassFile.FieldType), Jvm.Cond.code ({ cls := "java/util/Arrays", name := "fill", desc := "([Ljava/lang/Object;Ljava/lang/Object;)V" } : Jvm.MethodName) jdk_65_method_117_code (4 : Nat) (Option.none : Option Jvm.ClassFile.FieldType), Jvm.Cond.code ({ cls := "cyclebreak/collector/ReferenceTable", name := "remove", desc := "(II)Z" } : Jvm.MethodName) prog_50_method_5_code (6 : Nat) (Option.some Jvm.ClassFile.FieldType.boolean), Jvm.Cond.code ({ cls := "cyclebreak/collector/ReferenceTable", name := "count", desc := "(I)I" } : Jvm.MethodName) prog_50_method_8_code (2 : Nat) (Option.some Jvm.ClassFile.FieldType.int), Jvm.Cond.code ({ cls := "cyclebreak/collector/ReferenceTableRemovePinLaw", name := "sort3", desc := "([I)V" } : Jvm.MethodName) method_2_code (2 : Nat) (Option.none : Option Jvm.ClassFile.FieldType), Jvm.Cond.code ({ cls := "cyclebreak/collector/ReferenceTable", name := "addFixed", desc := "(II)V" } : Jvm.MethodName) prog_50_method_3_code (5 : Nat) (Option.none : Option Jvm.ClassFile.FieldType), Jvm.Cond.code ({ cls := "cyclebreak/collector/ReferenceTable", name := "grow", desc := "(I)I" } : Jvm.MethodName) prog_50_method_4_code (3 : Nat) (Option.some Jvm.ClassFile.FieldType.int), Jvm.Cond.code ({ cls := "java/lang/Math", name := "max", desc := "(II)I" } : Jvm.MethodName) jdk_29_method_65_code (2 : Nat) (Option.some Jvm.ClassFile.FieldType.int), Jvm.Cond.code ({ cls := "java/util/Arrays", name := "copyOf", desc := "([II)[I" } : Jvm.MethodName) jdk_65_method_123_code (3 : Nat) (Option.some (Jvm.ClassFile.FieldType.array Jvm.ClassFile.FieldType.int)), Jvm.Cond.code ({ cls := "cyclebreak/collector/ReferenceTable", name := "add", desc := "(II)V" } : Jvm.MethodName) prog_50_method_2_code (4 : Nat) (Option.none : Option Jvm.ClassFile.FieldType), Jvm.Cond.code ({ cls := "cyclebreak/collector/ReferenceTable", name := "target", desc := "(II)I" } : Jvm.MethodName) prog_50_method_9_code (3 : Nat) (Option.some Jvm.ClassFile.FieldType.int)]
set_option maxRecDepth 65536 in
theorem codes_eq : words1.filter isCode = codes1 := rfl
theorem w_codes : ∀ c ∈ words1.filter isCode, c.before args0 about1 = true := by
  rw [codes_eq]
  intro c hc
  simp only [codes1, List.mem_cons, List.not_mem_nil, or_false] at hc
  rcases hc with rfl | rfl | rfl | rfl | rfl | rfl | rfl | rfl | rfl | rfl | rfl | rfl | rfl | rfl
  · exact w_c0
  · exact w_c1
  · exact w_c2
  · exact w_c3
  · exact w_c4
  · exact w_c5
  · exact w_c6
  · exact w_c7
  · exact w_c8
  · exact w_c9
  · exact w_c10
  · exact w_c11
  · exact w_c12
  · exact w_c13
set_option maxRecDepth 65536 in
theorem w_t1 : (words1.take 24).all (fun c => isCode c || c.before args0 about1) = true := by decide +kernel
set_option maxRecDepth 65536 in
theorem w_t2 : ((words1.drop 24).take 24).all (fun c => isCode c || c.before args0 about1) = true := by decide +kernel
set_option maxRecDepth 65536 in
theorem w_t3 : (((words1.drop 24).drop 24).take 24).all (fun c => isCode c || c.before args0 about1) = true := by decide +kernel
set_option maxRecDepth 65536 in
theorem w_t4 : (((words1.drop 24).drop 24).drop 24).all (fun c => isCode c || c.before args0 about1) = true := by decide +kernel
theorem w_tables : (allAtoms (Jvm.Cond.code x code maxLocals ret :: tables_1)).before args0 about1 = true := by
  rw [allAtoms_all]
  show words1.all (fun c => c.before args0 about1) = true
  refine all_split ?_ w_codes
  rw [← List.take_append_drop 24 words1, List.all_append, w_t1, ← List.take_append_drop 24 (words1.drop 24), List.all_append, w_t2, ← List.take_append_drop 24 ((words1.drop 24).drop 24), List.all_append, w_t3, w_t4]
  rfl
set_option maxRecDepth 65536 in
theorem w_case : (Jvm.Cond.and given_1 narrow_1).before args0 about1 = true := by decide +kernel
theorem w_applies : (headSpec (Jvm.Cond.code x code maxLocals ret :: tables_1) room_1).applies x e0.platform about1 = true :=
  (Spec.applies_iff w_frames).mpr ⟨w_running, w_runnable, w_alone, w_named, w_hears, w_ripe, w_room, w_tables⟩
theorem atStart : AtStart classFile x code maxLocals ret World_1 tables_1 room_1 Calls_1 rest_1 Pre_1 launch0 p0 e0 about1 theMethod args0 below0 :=
  ⟨lists_1, trivial, launch0.admits_env _ _ _, launch0.least_env, fairChoices_fair.cas, fairChoices_fair.clock, w_frames, w_args, w_heap, w_applies, trivial, trivial, w_case⟩
end start1
theorem witness_1 : WitnessClaimed_1 := ⟨start1.p0, start1.e0, start1.about1, start1.theMethod, start1.args0, start1.below0, start1.atStart⟩
end Jvm.Pilot.@@N@@
