import JvmDerived
import JvmDerived.Pilot.@@N@@Statement
import JvmDerived.Pilot.@@N@@Code
set_option linter.unusedVariables false
set_option linter.unusedSimpArgs false
namespace Jvm.Pilot.@@N@@
open Jvm Jvm.ClassFile Sem Op Lib Jvm.Free Jvm.Stand Jvm.LawKit Jvm.RoadKit Bundle Jvm.Pilot.@@N@@.Jvm.D
/-- Java's >>> on longs and on ints -/
def own_sr (x : Int64) (k : Int32) : Int64 := ((x.toUInt64 >>> (k &&& 0x3f).toInt64.toUInt64).toInt64)
def own_sri (x : Int32) (k : Int32) : Int32 := ((x.toUInt32 >>> (k &&& 31).toUInt32).toInt32)
section Own
variable {p : Program} {l : Launch} {e : Env} {R : Room} {s : State} {m : MethodId} {args : Array Value} {below : List Frame} {meth : Method} {c : Code} {T : State} {locs : List Loc} {cells slots : Nat} {Z : State} {a0 : Array Value} {h : Heap} {Q : Option Value → Heap → List Loc → Prop} {kc kn : Nat}
/-- from the state A the body comes to an end that answers Q -/
def own_Go (tb : Tables) (e : Env) (below : List Frame) (s : State) (Q : Option Value → Heap → List Loc → Prop) (kc kn : Nat) (A : State) : Prop :=
  ∃ s₂ o, Steps tb e below A s₂ ∧ s₂.status = .running ∧ Ended s₂ below o ∧ ∃ v L, o = .returned v ∧ Q v s₂.heap L ∧ FrameEnd s o s₂ L kc kn
theorem own_by {tb : Tables} {A B : State} (g : ∀ t, Steps tb e below B t → Steps tb e below A t) (k : own_Go tb e below s Q kc kn B) : own_Go tb e below s Q kc kn A := by
  obtain ⟨s₂, o, h1, r⟩ := k
  exact ⟨s₂, o, g s₂ h1, r⟩
theorem own_end (X : Stand p l e R s m args below meth c T locs cells slots) {v : Option Value} (hv : meth.sig.returnType = none → v = none) (hlocks : meth.locks = false) {A : State}
    (hA : ∀ fs : List Frame, (∀ (f : JFrame) (acts : List Action), f.method = m → f.locked = none → f.entered = [] → (doReturn e (T.setTop f) acts v).1 = T.setFrames fs) → Steps p.tables e below A (T.setFrames fs)) (hk : cells ≤ kc) (hn : slots ≤ kn) (hQ : Q v T.heap locs) : own_Go p.tables e below s Q kc kn A := by
  obtain ⟨fs, hr, hrun, hended, hW, hsame⟩ := X.leave hv hlocks
  exact ⟨_, _, hA fs hr, hrun, hended, _, _, rfl, hQ, ⟨_, rfl⟩, hW, hsame.mono hk hn⟩
theorem own_retZ (X : Stand p l e R s m args below meth c T locs cells slots) (hx : p.tables.exec = Jvm.exec) (hlocks : meth.locks = false) (hret : meth.sig.returnType = some .boolean) {pc : Nat} {Ls : Array Slot} {z : Int32} {rest : List Value} (hd : decode c.code pc = .ok (.ireturn, 1)) (hk : cells ≤ kc) (hn : slots ≤ kn) (hQ : Q (some (.int (z &&& 1))) T.heap locs) : own_Go p.tables e below s Q kc kn (T.setTop (mkF m pc Ls (.int z :: rest))) :=
  own_end X (v := some (.int (z &&& 1))) (fun q => by rw [hret] at q; cases q) hlocks (fun fs hr => retN X hx (t := .boolean) hret (by simp) hd hr) hk hn hQ
theorem own_retI (X : Stand p l e R s m args below meth c T locs cells slots) (hx : p.tables.exec = Jvm.exec) (hlocks : meth.locks = false) (hret : meth.sig.returnType = some .int) {pc : Nat} {Ls : Array Slot} {z : Int32} {rest : List Value} (hd : decode c.code pc = .ok (.ireturn, 1)) (hk : cells ≤ kc) (hn : slots ≤ kn) (hQ : Q (some (.int z)) T.heap locs) : own_Go p.tables e below s Q kc kn (T.setTop (mkF m pc Ls (.int z :: rest))) :=
  own_end X (v := some (.int z)) (fun q => by rw [hret] at q; cases q) hlocks (fun fs hr => retOut X hx hret rfl (Or.inl ⟨rfl, Or.inl rfl, z, rfl⟩) hd hr) hk hn hQ
theorem own_retJ (X : Stand p l e R s m args below meth c T locs cells slots) (hx : p.tables.exec = Jvm.exec) (hlocks : meth.locks = false) (hret : meth.sig.returnType = some .long) {pc : Nat} {Ls : Array Slot} {z : Int64} {rest : List Value} (hd : decode c.code pc = .ok (.lreturn, 1)) (hk : cells ≤ kc) (hn : slots ≤ kn) (hQ : Q (some (.long z)) T.heap locs) : own_Go p.tables e below s Q kc kn (T.setTop (mkF m pc Ls (.long z :: rest))) :=
  own_end X (v := some (.long z)) (fun q => by rw [hret] at q; cases q) hlocks (fun fs hr => retOut X hx hret rfl (Or.inr (Or.inl ⟨rfl, rfl, z, rfl⟩)) hd hr) hk hn hQ
theorem own_retA (X : Stand p l e R s m args below meth c T locs cells slots) (hx : p.tables.exec = Jvm.exec) (hlocks : meth.locks = false) {t : FieldType} (hret : meth.sig.returnType = some t) (ht : t.isReference = true) {pc : Nat} {Ls : Array Slot} {a : Addr} {rest : List Value} (hd : decode c.code pc = .ok (.areturn, 1)) (hk : cells ≤ kc) (hn : slots ≤ kn) (hQ : Q (some (.ref a)) T.heap locs) : own_Go p.tables e below s Q kc kn (T.setTop (mkF m pc Ls (.ref a :: rest))) :=
  own_end X (v := some (.ref a)) (fun q => by rw [hret] at q; cases q) hlocks (fun fs hr => retOut X hx hret (by cases t <;> first | rfl | cases ht) (Or.inr (Or.inr (Or.inr (Or.inr ⟨rfl, ht, rfl⟩)))) hd hr) hk hn hQ
theorem own_retV (X : Stand p l e R s m args below meth c T locs cells slots) (hx : p.tables.exec = Jvm.exec) (hlocks : meth.locks = false) (hret : meth.sig.returnType = none) {pc : Nat} {Ls : Array Slot} (hd : decode c.code pc = .ok (.return_, 1)) (hk : cells ≤ kc) (hn : slots ≤ kn) (hQ : Q none T.heap locs) : own_Go p.tables e below s Q kc kn (T.setTop (mkF m pc Ls [])) :=
  own_end X (v := none) (fun _ => rfl) hlocks (fun fs hr => X.returnOut hx hret hd hr) hk hn hQ
/-- what a body of this text answers: from these arguments, at this heap -/
abbrev own_Met (l : Launch) (Z : State) (y : MethodName) (bytes : ByteArray) (maxL : Nat) (ret : Option FieldType) (ws : List Jvm.Cond) (rm : Room) (as' : Array Value) (h0 : Heap) (Q : Option Value → Heap → List Loc → Prop) : Prop :=
  MetFree l y (head1 (Jvm.Cond.code y bytes maxL ret :: ws) rm) (fun a U => a = as' ∧ Z.Warmed39 U.vm ∧ U.heap = h0) (fun _ _ _ _ _ => True) (fun _ U o U' => ∃ v L, o = .returned v ∧ Q v U'.heap L ∧ FrameEnd U o U' L rm.cells rm.slots)
theorem own_callS (X : Stand p l e R s m args below meth c T locs cells slots) (hx : p.tables.exec = Jvm.exec) (hZ : Z.Warmed39 s.vm) {own : String} {index : Nat} {y : MethodName} {bytes : ByteArray} {maxL : Nat} {ret : Option FieldType} {rm : Room} {as' : Array Value}
    (hown : s.vm.findClass own = some m.cls) (w1 : (Jvm.Cond.methodLink own index y).before a0 Z = true) (w2 : (Jvm.Cond.static y).before a0 Z = true) (w3 : (Jvm.Cond.initialized y.cls).before a0 Z = true) (w4 : (Jvm.Cond.code y bytes maxL ret).before a0 Z = true)
    (hy : y.cls ≠ "java/lang/invoke/MethodHandle" ∧ y.cls ≠ "java/lang/invoke/VarHandle") (hM : own_Met l Z y bytes maxL ret [] rm as' h Q) {W : Nat} (hf : rm.frames + 1 ≤ R.frames) (hl : W + (maxL + 11) + rm.locals ≤ R.locals) (eT : T.heap = h)
    {g : JFrame} (hg : g.method = m) (hsize : g.locals.size = c.maxLocals) {argsL rest : List Value} (hlen : ∀ sig, parseMethodDescriptor y.desc = some sig → argsL.length = sig.parameters.length) (hstack : g.stack = argsL.reverse ++ rest) (has : argsL.toArray = as')
    (hW : 2 * g.monitorRoom + (rest.map fun v => v.category).sum ≤ W) (hdg : decode c.code g.pc = .ok (.invokestatic index, 3)) (hc : cells + rm.cells ≤ R.cells) (hn : slots + rm.slots ≤ R.slots) :
    ∃ (v : Option Value) (T' : State) (L : List Loc), Stand p l e R s m args below meth c T' (locs ++ L) (cells + rm.cells) (slots + rm.slots) ∧ Q v T'.heap L ∧ ∀ t, Steps p.tables e below (T'.setTop { g with pc := g.pc + 3, stack := v.toList ++ rest }) t → Steps p.tables e below (T.setTop g) t := by
  subst eT
  obtain ⟨v, vm₁, ⟨T', L', k', n'⟩, -, X', ⟨Lc, hQ, l1, y1, z1⟩, st⟩ := Jvm.LawKit.callS X hx (y := y) hown (mvT hZ w1) (mvT hZ w2) (mvT hZ w3) (mvT hZ w4) hy (backOf (W := W) hM hZ w4 w3 hf hl) hg hsize (argsL := argsL) (rest := rest) hlen hstack hW hdg (fun _ _ => ⟨has, rfl, hc, hn⟩)
  dsimp only [Pt.U, Pt.locs, Pt.cells, Pt.slots] at X' l1 y1 z1 st hQ
  subst l1 y1 z1
  exact ⟨v, T', Lc, X', hQ, st⟩
theorem own_callI (X : Stand p l e R s m args below meth c T locs cells slots) (hx : p.tables.exec = Jvm.exec) (hZ : Z.Warmed39 s.vm) {own : String} {index : Nat} {y : MethodName} {bytes : ByteArray} {maxL : Nat} {rm : Room} {as' : Array Value} (hy1 : y.name = "<init>")
    (hown : s.vm.findClass own = some m.cls) (w1 : (Jvm.Cond.methodLink own index y).before a0 Z = true) (w2 : (Jvm.Cond.instanceMethod y).before a0 Z = true) (w3 : (Jvm.Cond.initialized y.cls).before a0 Z = true) (w4 : (Jvm.Cond.code y bytes maxL none).before a0 Z = true)
    (hy : y.cls ≠ "java/lang/invoke/MethodHandle" ∧ y.cls ≠ "java/lang/invoke/VarHandle") (hM : own_Met l Z y bytes maxL none [] rm as' h Q) {W : Nat} (hf : rm.frames + 1 ≤ R.frames) (hl : W + (maxL + 11) + rm.locals ≤ R.locals) (eT : T.heap = h)
    {g : JFrame} (hg : g.method = m) (hsize : g.locals.size = c.maxLocals) {a : Addr} {argsL rest : List Value} (hlen : ∀ sig, parseMethodDescriptor y.desc = some sig → argsL.length = sig.parameters.length) (hstack : g.stack = argsL.reverse ++ .ref a :: rest) (has : (Value.ref a :: argsL).toArray = as')
    (hW : 2 * g.monitorRoom + (rest.map fun v => v.category).sum ≤ W) (hdg : decode c.code g.pc = .ok (.invokespecial index, 3)) (hc : cells + rm.cells ≤ R.cells) (hn : slots + rm.slots ≤ R.slots) :
    ∃ (v : Option Value) (T' : State) (L : List Loc), Stand p l e R s m args below meth c T' (locs ++ L) (cells + rm.cells) (slots + rm.slots) ∧ Q v T'.heap L ∧ ∀ t, Steps p.tables e below (T'.setTop { g with pc := g.pc + 3, stack := v.toList ++ rest }) t → Steps p.tables e below (T.setTop g) t := by
  subst eT
  obtain ⟨v, vm₁, ⟨T', L', k', n'⟩, -, X', ⟨Lc, hQ, l1, y1, z1⟩, st⟩ := X.specialBack hx (y := y) hy1 hown (mvT hZ w1) (mvT hZ w2) (mvT hZ w4) hy (backOf (W := W) hM hZ w4 w3 hf hl) hg hsize (Steps.refl _) (a := a) (argsL := argsL) (rest := rest) hlen hstack hW hdg (fun _ _ => ⟨has, rfl, hc, hn⟩)
  dsimp only [Pt.U, Pt.locs, Pt.cells, Pt.slots] at X' l1 y1 z1 st hQ
  subst l1 y1 z1
  exact ⟨v, T', Lc, X', hQ, fun t k => st.trans k⟩
theorem own_callV (X : Stand p l e R s m args below meth c T locs cells slots) (hx : p.tables.exec = Jvm.exec) (hZ : Z.Warmed39 s.vm) {own : String} {index : Nat} {y : MethodName} {bytes : ByteArray} {maxL : Nat} {ret : Option FieldType} {rm : Room} {as' : Array Value}
    (hown : s.vm.findClass own = some m.cls) (w1 : (Jvm.Cond.methodLink own index y).before a0 Z = true) (w5 : (Jvm.Cond.declares y).before a0 Z = true) (w6 : (Jvm.Cond.selects y.cls y y).before a0 Z = true) (w2 : (Jvm.Cond.instanceMethod y).before a0 Z = true) (w3 : (Jvm.Cond.initialized y.cls).before a0 Z = true) (w4 : (Jvm.Cond.code y bytes maxL ret).before a0 Z = true)
    (hy : y.cls ≠ "java/lang/invoke/MethodHandle" ∧ y.cls ≠ "java/lang/invoke/VarHandle") (hM : own_Met l Z y bytes maxL ret [] rm as' h Q) {W : Nat} (hf : rm.frames + 1 ≤ R.frames) (hl : W + (maxL + 11) + rm.locals ≤ R.locals) (eT : T.heap = h) {a : Addr} (E : Exa Z h a y.cls)
    {g : JFrame} (hg : g.method = m) (hsize : g.locals.size = c.maxLocals) {argsL rest : List Value} (hlen : ∀ sig, parseMethodDescriptor y.desc = some sig → argsL.length = sig.parameters.length) (hstack : g.stack = argsL.reverse ++ .ref a :: rest) (has : (Value.ref a :: argsL).toArray = as')
    (hW : 2 * g.monitorRoom + (rest.map fun v => v.category).sum ≤ W) (hdg : decode c.code g.pc = .ok (.invokevirtual index, 3)) (hc : cells + rm.cells ≤ R.cells) (hn : slots + rm.slots ≤ R.slots) :
    ∃ (v : Option Value) (T' : State) (L : List Loc), Stand p l e R s m args below meth c T' (locs ++ L) (cells + rm.cells) (slots + rm.slots) ∧ Q v T'.heap L ∧ ∀ t, Steps p.tables e below (T'.setTop { g with pc := g.pc + 3, stack := v.toList ++ rest }) t → Steps p.tables e below (T.setTop g) t := by
  subst eT
  obtain ⟨cq, kq, qa, qb, qc⟩ := isOf hZ rfl E
  obtain ⟨v, vm₁, ⟨T', L', k', n'⟩, -, X', ⟨Lc, hQ, l1, y1, z1⟩, st⟩ := X.virtualBack hx (y := y) (z := y) hown (mvT hZ w1) (mvT hZ w5) (notFace_of_selects (args := #[]) (mvT hZ w6)) (mvT hZ w6) (mvT hZ w2) hy (backOf (W := W) hM hZ w4 w3 hf hl) qa qc hg hsize (Steps.refl _) (argsL := argsL) (rest := rest) hlen hstack hW hdg (fun _ _ => ⟨has, rfl, hc, hn⟩)
  dsimp only [Pt.U, Pt.locs, Pt.cells, Pt.slots] at X' l1 y1 z1 st hQ
  subst l1 y1 z1
  exact ⟨v, T', Lc, X', hQ, fun t k => st.trans k⟩
end Own

/-! ## the table of references: what stands in the heap -/
def own_i (k : Nat) : Int32 := Int32.ofNat k
theorem own_i_clamp : ∀ k, k < 6 → (own_i k).toNatClampNeg = k := by decide
theorem own_i_nn : ∀ k, k < 6 → ¬ own_i k < 0 := by decide
theorem own_i_lt : ∀ j, j < 6 → ∀ k, k < 6 → (own_i j < own_i k ↔ j < k) := by decide
theorem own_i_eq : ∀ j, j < 6 → ∀ k, k < 6 → (own_i j = own_i k ↔ j = k) := by decide
theorem own_i_succ : ∀ k, k < 6 → own_i k + 1 = own_i (k + 1) := by decide
theorem own_i_pred : ∀ k, k < 6 → own_i (k + 1) - 1 = own_i k := by decide
def own_iv (vs : List Int32) : List Value := vs.map Value.int
theorem own_iv_set (vs : List Int32) (i : Nat) (x : Int32) : (own_iv vs).set i (.int x) = own_iv (vs.set i x) := by simp [own_iv, List.map_set]
theorem own_iv_get (vs : List Int32) (i : Nat) : (own_iv vs).getD i (.int (0 : Int32)) = .int (vs.getD i 0) := by
  simp only [own_iv, List.getD_eq_getElem?_getD, List.getElem?_map]
  cases vs[i]? <;> rfl
theorem own_iv_len (vs : List Int32) : (own_iv vs).length = vs.length := by simp [own_iv]
def own_pr (i : Int32) (x y : Value) : List Value := if i = 0 then [x, y] else [y, x]
theorem own_pr_get {i : Int32} (hi : i = 0 ∨ i = 1) (x y d : Value) : (own_pr i x y).getD i.toNatClampNeg d = x := by rcases hi with rfl | rfl <;> rfl
theorem own_pr_set {i : Int32} (hi : i = 0 ∨ i = 1) (x y z : Value) : (own_pr i x y).set i.toNatClampNeg z = own_pr i z y := by rcases hi with rfl | rfl <;> rfl
theorem own_pr_len {i : Int32} (hi : i = 0 ∨ i = 1) (x y : Value) : i.toNatClampNeg < (own_pr i x y).length := by
  rcases hi with rfl | rfl
  · exact (by decide : (0 : Int32).toNatClampNeg < 2)
  · exact (by decide : (1 : Int32).toNatClampNeg < 2)
theorem own_pr_swap (x y : Value) : own_pr 0 x y = own_pr 1 y x := rfl
theorem own_i01 {i : Int32} (hi : i = 0 ∨ i = 1) : ¬ i < 0 ∧ i < (2 : Int32) := by rcases hi with rfl | rfl <;> decide
section OwnTab
variable {p : Program} {l : Launch} {e : Env} {R : Room} {s : State} {m : MethodId} {args : Array Value} {below : List Frame} {meth : Method} {c : Code} {T : State} {locs : List Loc} {cells slots : Nat} {Z : State} {a0 : Array Value} {h h' : Heap} {a : Addr} {k : ClassId} {ty : FieldType} {z : Int32} {vs : List Value} {dv : Value}
theorem own_ld (X : Stand p l e R s m args below meth c T locs cells slots) (hx : p.tables.exec = Jvm.exec) (hZ : Z.Warmed39 s.vm) (eT : T.heap = h) (A : Arv Z h a k .int z vs dv) {j : Int32} (hj : ¬ j < 0 ∧ j < z) {v : Value} (hv : vs.getD j.toNatClampNeg dv = v)
    {g : JFrame} (hg : g.method = m) {rest : List Value} (hs : g.stack = .int j :: .ref a :: rest) (hd : decode c.code g.pc = .ok (.iaload, 1)) : ∀ t, Steps p.tables e below (T.setTop { g with pc := g.pc + 1, stack := v :: rest }) t → Steps p.tables e below (T.setTop g) t := by
  obtain ⟨cl, Ar, -, Sz, Nn, Hs, -⟩ := A
  have hin := inb_of Sz hj
  exact fun t k => X.iaload hx (j := j) (v := v) (by rw [eT]; exact Ar.1) (State.isArrayOf_alike hZ.alike Ar.2.1) Ar.2.2 hin (Hs.at hin hv) hg hs hd t k
theorem own_ldA (X : Stand p l e R s m args below meth c T locs cells slots) (hx : p.tables.exec = Jvm.exec) (hZ : Z.Warmed39 s.vm) (eT : T.heap = h) (A : Arv Z h a k ty z vs dv) (hty : ty.isReference = true) {j : Int32} (hj : ¬ j < 0 ∧ j < z) {v : Value} (hv : vs.getD j.toNatClampNeg dv = v)
    {g : JFrame} (hg : g.method = m) {rest : List Value} (hs : g.stack = .int j :: .ref a :: rest) (hd : decode c.code g.pc = .ok (.aaload, 1)) : ∀ t, Steps p.tables e below (T.setTop { g with pc := g.pc + 1, stack := v :: rest }) t → Steps p.tables e below (T.setTop g) t := by
  obtain ⟨cl, Ar, -, Sz, Nn, Hs, -⟩ := A
  have hin := inb_of Sz hj
  exact fun t k => X.aaload hx (j := j) (v := v) (by rw [eT]; exact Ar.1) (State.isArrayOf_alike hZ.alike Ar.2.1) hty Ar.2.2 hin (Hs.at hin hv) hg hs hd t k
theorem own_len (X : Stand p l e R s m args below meth c T locs cells slots) (hx : p.tables.exec = Jvm.exec) (hZ : Z.Warmed39 s.vm) (eT : T.heap = h) (A : Arv Z h a k ty z vs dv)
    {g : JFrame} (hg : g.method = m) {rest : List Value} (hs : g.stack = .ref a :: rest) (hd : decode c.code g.pc = .ok (.arraylength, 1)) : ∀ t, Steps p.tables e below (T.setTop { g with pc := g.pc + 1, stack := .int z :: rest }) t → Steps p.tables e below (T.setTop g) t := by
  obtain ⟨cl, Ar, -, Sz, Nn, -, -⟩ := A
  intro t k
  refine X.arraylength hx (by rw [eT]; exact Ar.1) (State.isArrayOf_alike hZ.alike Ar.2.1) hg hs hd t ?_
  rw [len_of Sz Nn]
  exact k
theorem own_st (X : Stand p l e R s m args below meth c T locs cells slots) (hx : p.tables.exec = Jvm.exec) (hZ : Z.Warmed39 s.vm) (eT : T.heap = h) (A : Arv Z h a k .int z vs dv) {j x : Int32} (hj : ¬ j < 0 ∧ j < z)
    {g : JFrame} (hg : g.method = m) {rest : List Value} (hs : g.stack = .int x :: .int j :: .ref a :: rest) (hd : decode c.code g.pc = .ok (.iastore, 1)) :
    ∃ T' h', Stand p l e R s m args below meth c T' (locs ++ [⟨a, j.toNatClampNeg⟩]) cells slots ∧ T'.heap = h' ∧ Wr h h' a j.toNatClampNeg (.int x) ∧ ∀ t, Steps p.tables e below (T'.setTop { g with pc := g.pc + 1, stack := rest }) t → Steps p.tables e below (T.setTop g) t := by
  obtain ⟨cl, Ar, -, Sz, Nn, Hs, -⟩ := A
  exact stI X hx hZ eT Ar (inb_of Sz hj) hg hs hd
theorem own_stA (X : Stand p l e R s m args below meth c T locs cells slots) (hx : p.tables.exec = Jvm.exec) (hZ : Z.Warmed39 s.vm) (eT : T.heap = h) (A : Arv Z h a k (.array ty) z vs dv) {C : String} (O : OvrA Z k ty C) {y : Addr} (I : Ins Z h y C true) {j : Int32} (hj : ¬ j < 0 ∧ j < z)
    {g : JFrame} (hg : g.method = m) {rest : List Value} (hs : g.stack = .ref y :: .int j :: .ref a :: rest) (hd : decode c.code g.pc = .ok (.aastore, 1)) :
    ∃ T' h', Stand p l e R s m args below meth c T' (locs ++ [⟨a, j.toNatClampNeg⟩]) cells slots ∧ T'.heap = h' ∧ Wr h h' a j.toNatClampNeg (.ref y) ∧ ∀ t, Steps p.tables e below (T'.setTop { g with pc := g.pc + 1, stack := rest }) t → Steps p.tables e below (T.setTop g) t := by
  obtain ⟨cl, Ar, qk, Sz, Nn, Hs, -⟩ := A
  exact stR X hx hZ eT Ar (inb_of Sz hj) rfl (Sto.ofVA Ar qk O I) hg hs hd
theorem own_set (A : Arv Z h a k ty z vs dv) {j : Int32} {v : Value} (hv : fits ty v = true) (W : Wr h h' a j.toNatClampNeg v) {i : Nat} (hj : j.toNatClampNeg = i) (hi : i < vs.length) : Arv Z h' a k ty z (vs.set i v) dv := by
  obtain ⟨cl, Ar, qk, Sz, Nn, Hs, Gt⟩ := A
  exact Arv.set Ar qk Sz Nn Hs Gt hv W i hj hi
end OwnTab
def own_RT : String := "cyclebreak/collector/ReferenceTable"
/-- the table's object, its fields, and the empty array -/
def own_Base (Z : State) (n0 : Nat) (N a t c f : Addr) (h : Heap) : Prop :=
  (n0 ≤ a ∧ n0 ≤ t ∧ n0 ≤ c ∧ n0 ≤ f ∧ N < n0) ∧ (a ≠ t ∧ a ≠ c ∧ a ≠ f ∧ t ≠ c ∧ t ≠ f ∧ c ≠ f) ∧
  Exa Z h a "cyclebreak/collector/ReferenceTable" ∧ Fld Z h a "cyclebreak/collector/ReferenceTable" "targets" "[[I" (.ref t) ∧ Fld Z h a "cyclebreak/collector/ReferenceTable" "counts" "[I" (.ref c) ∧ Fld Z h a "cyclebreak/collector/ReferenceTable" "fixed" "[I" (.ref f) ∧ ∃ kN, Arv Z h N kN .int 0 [] (.int (0 : Int32))
def own_Full (Z : State) (n0 : Nat) (a t c f : Addr) (h : Heap) (r : Addr) (vs : List Int32) : Prop :=
  n0 ≤ r ∧ (r ≠ a ∧ r ≠ t ∧ r ≠ c ∧ r ≠ f) ∧ vs.length = 4 ∧ ∃ kr, Arv Z h r kr .int 4 (own_iv vs) (.int (0 : Int32))
def own_Row (Z : State) (n0 : Nat) (N a t c f : Addr) (h : Heap) (r : Addr) (k : Nat) (vs : List Int32) : Prop :=
  (r = N ∧ k = 0 ∧ vs = [0, 0, 0, 0]) ∨ own_Full Z n0 a t c f h r vs
def own_Tab (Z : State) (n0 : Nat) (N a t c f : Addr) (i : Int32) (h : Heap) (r r' : Addr) (k k' x x' : Nat) (vs vs' : List Int32) : Prop :=
  own_Base Z n0 N a t c f h ∧ (∃ kt, OvrA Z kt .int "[I" ∧ Arv Z h t kt (.array .int) 2 (own_pr i (.ref r) (.ref r')) .null) ∧ (∃ kc, Arv Z h c kc .int 2 (own_pr i (.int (own_i k)) (.int (own_i k'))) (.int (0 : Int32))) ∧ (∃ kf, Arv Z h f kf .int 2 (own_pr i (.int (own_i x)) (.int (own_i x'))) (.int (0 : Int32))) ∧
  own_Row Z n0 N a t c f h r k vs ∧ own_Row Z n0 N a t c f h r' k' vs' ∧ (n0 ≤ r → r ≠ r')
section OwnTab2
variable {Z : State} {n0 : Nat} {N a t c f : Addr} {i : Int32} {h h' : Heap} {r r' : Addr} {k k' x x' : Nat} {vs vs' : List Int32} {b : Addr} {sl : Nat} {v : Value}
theorem own_Base.ext (B : own_Base Z n0 N a t c f h) (E : Ext h h') : own_Base Z n0 N a t c f h' := by
  obtain ⟨h1, h2, h3, h4, h5, h6, kN, h7⟩ := B
  exact ⟨h1, h2, h3.ext E, h4.ext E, h5.ext E, h6.ext E, kN, h7.ext E⟩
theorem own_Base.wr (B : own_Base Z n0 N a t c f h) (W : Wr h h' b sl v) (ha : a ≠ b) (hN : N ≠ b) : own_Base Z n0 N a t c f h' := by
  obtain ⟨h1, h2, h3, h4, h5, h6, kN, h7⟩ := B
  exact ⟨h1, h2, h3.wr W, h4.other W (Or.inl ha), h5.other W (Or.inl ha), h6.other W (Or.inl ha), kN, h7.other W hN⟩
theorem own_Full.ext (F : own_Full Z n0 a t c f h r vs) (E : Ext h h') : own_Full Z n0 a t c f h' r vs := by
  obtain ⟨h1, h2, h3, kr, h4⟩ := F
  exact ⟨h1, h2, h3, kr, h4.ext E⟩
theorem own_Full.wr (F : own_Full Z n0 a t c f h r vs) (W : Wr h h' b sl v) (hb : r ≠ b) : own_Full Z n0 a t c f h' r vs := by
  obtain ⟨h1, h2, h3, kr, h4⟩ := F
  exact ⟨h1, h2, h3, kr, h4.other W hb⟩
theorem own_Row.ext (F : own_Row Z n0 N a t c f h r k vs) (E : Ext h h') : own_Row Z n0 N a t c f h' r k vs := F.imp id fun q => q.ext E
theorem own_Row.wr (F : own_Row Z n0 N a t c f h r k vs) (W : Wr h h' b sl v) (hb : n0 ≤ r → r ≠ b) : own_Row Z n0 N a t c f h' r k vs := F.imp id fun q => q.wr W (hb q.1)
theorem own_Tab.ext (B : own_Tab Z n0 N a t c f i h r r' k k' x x' vs vs') (E : Ext h h') : own_Tab Z n0 N a t c f i h' r r' k k' x x' vs vs' := by
  obtain ⟨h1, ⟨kt, O, h2⟩, ⟨kc, h3⟩, ⟨kf, h4⟩, h5, h6, h7⟩ := B
  exact ⟨h1.ext E, ⟨kt, O, h2.ext E⟩, ⟨kc, h3.ext E⟩, ⟨kf, h4.ext E⟩, h5.ext E, h6.ext E, h7⟩
theorem own_Tab.swap (B : own_Tab Z n0 N a t c f 0 h r r' k k' x x' vs vs') : own_Tab Z n0 N a t c f 1 h r' r k' k x' x vs' vs := by
  obtain ⟨h1, h2, h3, h4, h5, h6, h7⟩ := B
  exact ⟨h1, h2, h3, h4, h6, h5, fun q e => h7 (e ▸ q) e.symm⟩
theorem own_Tab.swap' (B : own_Tab Z n0 N a t c f 1 h r r' k k' x x' vs vs') : own_Tab Z n0 N a t c f 0 h r' r k' k x' x vs' vs := by
  obtain ⟨h1, h2, h3, h4, h5, h6, h7⟩ := B
  exact ⟨h1, h2, h3, h4, h6, h5, fun q e => h7 (e ▸ q) e.symm⟩
theorem own_Base.neN (B : own_Base Z n0 N a t c f h) (q : n0 ≤ b) : N ≠ b := fun e => absurd (e ▸ B.1.2.2.2.2 : b < n0) (Nat.not_lt.mpr q)
theorem own_fit_int (x : Int32) : fits .int (.int x) = true := rfl
theorem own_Tab.setRow (B : own_Tab Z n0 N a t c f i h r r' k k' x x' vs vs') (F : own_Full Z n0 a t c f h r vs) {q : Nat} (hq : q < 4) {y : Int32} (W : Wr h h' r (own_i q).toNatClampNeg (.int y)) :
    own_Tab Z n0 N a t c f i h' r r' k k' x x' (vs.set q y) vs' ∧ own_Full Z n0 a t c f h' r (vs.set q y) := by
  obtain ⟨h1, ⟨kt, O, h2⟩, ⟨kc, h3⟩, ⟨kf, h4⟩, h5, h6, h7⟩ := B
  obtain ⟨g1, g2, g3, kr, g4⟩ := F
  have F' : own_Full Z n0 a t c f h' r (vs.set q y) := ⟨g1, g2, by rw [List.length_set]; exact g3, kr, by rw [← own_iv_set]; exact own_set g4 (own_fit_int y) W (own_i_clamp q (by omega)) (by rw [own_iv_len]; omega)⟩
  exact ⟨⟨h1.wr W g2.1.symm (h1.neN g1), ⟨kt, O, h2.other W g2.2.1.symm⟩, ⟨kc, h3.other W g2.2.2.1.symm⟩, ⟨kf, h4.other W g2.2.2.2.symm⟩, Or.inr F', h6.wr W fun u e => h7 g1 e.symm, h7⟩, F'⟩
theorem own_Tab.setCnt (B : own_Tab Z n0 N a t c f i h r r' k k' x x' vs vs') (hi : i = 0 ∨ i = 1) (F : own_Full Z n0 a t c f h r vs) {q : Nat} (W : Wr h h' c i.toNatClampNeg (.int (own_i q))) :
    own_Tab Z n0 N a t c f i h' r r' q k' x x' vs vs' ∧ own_Full Z n0 a t c f h' r vs := by
  obtain ⟨h1, ⟨kt, O, h2⟩, ⟨kc, h3⟩, ⟨kf, h4⟩, h5, h6, h7⟩ := B
  have F' := F.wr W F.2.1.2.2.1
  obtain ⟨b1, b2, -⟩ := id h1
  refine ⟨⟨h1.wr W b2.2.1 (h1.neN b1.2.2.1), ⟨kt, O, h2.other W b2.2.2.2.1⟩, ⟨kc, by rw [← own_pr_set hi]; exact own_set h3 (own_fit_int _) W rfl (own_pr_len hi _ _)⟩, ⟨kf, h4.other W b2.2.2.2.2.2.symm⟩, Or.inr F', ?_, h7⟩, F'⟩
  rcases h6 with u | u
  · exact Or.inl u
  · exact Or.inr (u.wr W u.2.1.2.2.1)
theorem own_Tab.setFix (B : own_Tab Z n0 N a t c f i h r r' k k' x x' vs vs') (hi : i = 0 ∨ i = 1) (F : own_Full Z n0 a t c f h r vs) {q : Nat} (W : Wr h h' f i.toNatClampNeg (.int (own_i q))) :
    own_Tab Z n0 N a t c f i h' r r' k k' q x' vs vs' ∧ own_Full Z n0 a t c f h' r vs := by
  obtain ⟨h1, ⟨kt, O, h2⟩, ⟨kc, h3⟩, ⟨kf, h4⟩, h5, h6, h7⟩ := B
  have F' := F.wr W F.2.1.2.2.2
  obtain ⟨b1, b2, -⟩ := id h1
  refine ⟨⟨h1.wr W b2.2.2.1 (h1.neN b1.2.2.2.1), ⟨kt, O, h2.other W b2.2.2.2.2.1⟩, ⟨kc, h3.other W b2.2.2.2.2.2⟩, ⟨kf, by rw [← own_pr_set hi]; exact own_set h4 (own_fit_int _) W rfl (own_pr_len hi _ _)⟩, Or.inr F', ?_, h7⟩, F'⟩
  rcases h6 with u | u
  · exact Or.inl u
  · exact Or.inr (u.wr W u.2.1.2.2.2)
theorem own_Tab.setTgt (B : own_Tab Z n0 N a t c f i h r r' k k' x x' vs vs') (hi : i = 0 ∨ i = 1) {r2 : Addr} (F : own_Full Z n0 a t c f h r2 vs) (hr : r2 ≠ r') (W : Wr h h' t i.toNatClampNeg (.ref r2)) :
    own_Tab Z n0 N a t c f i h' r2 r' k k' x x' vs vs' ∧ own_Full Z n0 a t c f h' r2 vs := by
  obtain ⟨h1, ⟨kt, O, h2⟩, ⟨kc, h3⟩, ⟨kf, h4⟩, h5, h6, h7⟩ := B
  have F' := F.wr W F.2.1.2.1
  obtain ⟨b1, b2, -⟩ := id h1
  refine ⟨⟨h1.wr W b2.1 (h1.neN b1.2.1), ⟨kt, O, by rw [← own_pr_set hi]; exact own_set h2 rfl W rfl (own_pr_len hi _ _)⟩, ⟨kc, h3.other W b2.2.2.2.1.symm⟩, ⟨kf, h4.other W b2.2.2.2.2.1.symm⟩, Or.inr F', ?_, fun _ => hr⟩, F'⟩
  rcases h6 with u | u
  · exact Or.inl u
  · exact Or.inr (u.wr W u.2.1.2.1)
/-- a write elsewhere -/
theorem own_Tab.wr (B : own_Tab Z n0 N a t c f i h r r' k k' x x' vs vs') (W : Wr h h' b sl v) (hb : ∀ y ∈ [N, a, t, c, f, r, r'], y ≠ b) : own_Tab Z n0 N a t c f i h' r r' k k' x x' vs vs' := by
  obtain ⟨h1, ⟨kt, O, h2⟩, ⟨kc, h3⟩, ⟨kf, h4⟩, h5, h6, h7⟩ := B
  simp only [List.mem_cons, List.not_mem_nil, or_false, forall_eq_or_imp, forall_eq] at hb
  obtain ⟨q1, q2, q3, q4, q5, q6, q7⟩ := hb
  exact ⟨h1.wr W q2 q1, ⟨kt, O, h2.other W q3⟩, ⟨kc, h3.other W q4⟩, ⟨kf, h4.other W q5⟩, h5.wr W fun _ => q6, h6.wr W fun _ => q7, h7⟩
theorem own_Full.lt (F : own_Full Z n0 a t c f h r vs) : r < h.size := by obtain ⟨-, -, -, kr, q⟩ := F; exact q.lt
theorem own_Base.lts (B : own_Base Z n0 N a t c f h) (hn : n0 ≤ h.size) : N < h.size := Nat.lt_of_lt_of_le B.1.2.2.2.2 hn
theorem own_Row.lt (F : own_Row Z n0 N a t c f h r k vs) (q : N < h.size) : r < h.size := by
  rcases F with ⟨rfl, -⟩ | u
  · exact q
  · exact u.lt
/-- whatever is made behind it is another -/
theorem own_Tab.fresh (B : own_Tab Z n0 N a t c f i h r r' k k' x x' vs vs') (hb : h.size ≤ b) : ∀ y ∈ [N, a, t, c, f, r, r'], y ≠ b := by
  obtain ⟨h1, ⟨kt, O, h2⟩, ⟨kc, h3⟩, ⟨kf, h4⟩, h5, h6, h7⟩ := B
  obtain ⟨-, -, g3, -, -, -, kN, g4⟩ := h1
  have l1 := g3.lt
  have l2 := h2.lt
  have l3 := h3.lt
  have l4 := h4.lt
  have l5 := g4.lt
  have l6 := h5.lt l5
  have l7 := h6.lt l5
  intro y hy
  simp only [List.mem_cons, List.not_mem_nil, or_false] at hy
  rcases hy with rfl | rfl | rfl | rfl | rfl | rfl | rfl
  · exact Nat.ne_of_lt (Nat.lt_of_lt_of_le l5 hb)
  · exact Nat.ne_of_lt (Nat.lt_of_lt_of_le l1 hb)
  · exact Nat.ne_of_lt (Nat.lt_of_lt_of_le l2 hb)
  · exact Nat.ne_of_lt (Nat.lt_of_lt_of_le l3 hb)
  · exact Nat.ne_of_lt (Nat.lt_of_lt_of_le l4 hb)
  · exact Nat.ne_of_lt (Nat.lt_of_lt_of_le l6 hb)
  · exact Nat.ne_of_lt (Nat.lt_of_lt_of_le l7 hb)
end OwnTab2
section OwnTab3
variable {Z : State} {n0 : Nat} {N a t c f : Addr} {i : Int32} {h h' : Heap} {r r' : Addr} {k k' x x' : Nat} {vs vs' : List Int32}
theorem own_Tab.exa (B : own_Tab Z n0 N a t c f i h r r' k k' x x' vs vs') : Exa Z h a "cyclebreak/collector/ReferenceTable" := B.1.2.2.1
theorem own_Tab.fT (B : own_Tab Z n0 N a t c f i h r r' k k' x x' vs vs') : Fld Z h a "cyclebreak/collector/ReferenceTable" "targets" "[[I" (.ref t) := B.1.2.2.2.1
theorem own_Tab.fC (B : own_Tab Z n0 N a t c f i h r r' k k' x x' vs vs') : Fld Z h a "cyclebreak/collector/ReferenceTable" "counts" "[I" (.ref c) := B.1.2.2.2.2.1
theorem own_Tab.fF (B : own_Tab Z n0 N a t c f i h r r' k k' x x' vs vs') : Fld Z h a "cyclebreak/collector/ReferenceTable" "fixed" "[I" (.ref f) := B.1.2.2.2.2.2.1
theorem own_Tab.full (B : own_Tab Z n0 N a t c f i h r r' k k' x x' vs vs') (hk : 0 < k) : own_Full Z n0 a t c f h r vs := by
  rcases B.2.2.2.2.1 with ⟨-, q, -⟩ | u
  · omega
  · exact u
theorem own_i_lt4 {q : Nat} (hq : q < 4) : ¬ own_i q < 0 ∧ own_i q < (4 : Int32) := ⟨own_i_nn q (by omega), (own_i_lt q (by omega) 4 (by omega)).mpr hq⟩
theorem own_at {q : Nat} (hq : q < 4) (vs : List Int32) : (own_iv vs).getD (own_i q).toNatClampNeg (.int (0 : Int32)) = .int (vs.getD q 0) := by rw [own_i_clamp q (by omega)]; exact own_iv_get vs q
theorem own_keep_ext (K : Keep h h' []) : Ext h h' := ⟨K.1, fun b d q => K.2.1 b d q nin0⟩
end OwnTab3
section OwnP
variable {p : Program} {l : Launch} {e : Env} {R : Room} {s : State} {m : MethodId} {args : Array Value} {below : List Frame} {meth : Method} {c : Code} {T : State} {locs : List Loc} {cells slots : Nat} {Z : State} {a0 : Array Value} {h : Heap} {Q : Option Value → Heap → List Loc → Prop}
/-- a private method by invokevirtual; w6: any method that the class selects (so it is no interface) -/
theorem own_callP (X : Stand p l e R s m args below meth c T locs cells slots) (hx : p.tables.exec = Jvm.exec) (hZ : Z.Warmed39 s.vm) {own : String} {index : Nat} {y y' : MethodName} {bytes : ByteArray} {maxL : Nat} {ret : Option FieldType} {rm : Room} {as' : Array Value}
    (hown : s.vm.findClass own = some m.cls) (w1 : (Jvm.Cond.methodLink own index y).before a0 Z = true) (w2 : (Jvm.Cond.instanceMethod y).before a0 Z = true) (w5 : (Jvm.Cond.privateMethod y).before a0 Z = true) (w6 : (Jvm.Cond.selects y.cls y' y').before a0 Z = true) (hyy : y'.cls = y.cls) (w3 : (Jvm.Cond.initialized y.cls).before a0 Z = true) (w4 : (Jvm.Cond.code y bytes maxL ret).before a0 Z = true)
    (hy : y.cls ≠ "java/lang/invoke/MethodHandle" ∧ y.cls ≠ "java/lang/invoke/VarHandle") (hM : own_Met l Z y bytes maxL ret [] rm as' h Q) {W : Nat} (hf : rm.frames + 1 ≤ R.frames) (hl : W + (maxL + 11) + rm.locals ≤ R.locals) (eT : T.heap = h) {a : Addr} (E : Exa Z h a y.cls)
    {g : JFrame} (hg : g.method = m) (hsize : g.locals.size = c.maxLocals) {argsL rest : List Value} (hlen : ∀ sig, parseMethodDescriptor y.desc = some sig → argsL.length = sig.parameters.length) (hstack : g.stack = argsL.reverse ++ .ref a :: rest) (has : (Value.ref a :: argsL).toArray = as')
    (hW : 2 * g.monitorRoom + (rest.map fun v => v.category).sum ≤ W) (hdg : decode c.code g.pc = .ok (.invokevirtual index, 3)) (hc : cells + rm.cells ≤ R.cells) (hn : slots + rm.slots ≤ R.slots) :
    ∃ (v : Option Value) (T' : State) (L : List Loc), Stand p l e R s m args below meth c T' (locs ++ L) (cells + rm.cells) (slots + rm.slots) ∧ Q v T'.heap L ∧ ∀ t, Steps p.tables e below (T'.setTop { g with pc := g.pc + 3, stack := v.toList ++ rest }) t → Steps p.tables e below (T.setTop g) t := by
  subst eT
  obtain ⟨cell, kc, q1, q2, q3, q4, -⟩ := id E
  have hpriv : s.PrivateAt y := Cond.privateMethod_at (mvP hZ w5 (args := #[]))
  have hinst : (Jvm.Cond.instanceMethod y).before args s = true := mvT hZ w2
  obtain ⟨cc, rr, mm, s1, s2, s3, s4, kP, s5, s6⟩ := Cond.selects_spec (mvT (args := args) hZ w6)
  have hsel : (Jvm.Cond.selects y.cls y y).before args s = true := by
    have hcl := findClass_of_methodNamed s3
    rw [hyy] at hcl
    exact selects_self_of_private hcl s5 s6 hpriv hinst hy
  obtain ⟨v, vm₁, ⟨T', L', k', n'⟩, -, X', ⟨Lc, hQ, l1, y1, z1⟩, st⟩ := X.privateBack hx (y := y) hown (mvT hZ w1) hinst hsel hpriv (mvT hZ w4) hy (backOf (W := W) hM hZ w4 w3 hf hl) hg hsize (Steps.refl _) (a := a) q1 (fun q r => by rw [r] at q4; cases q4) (argsL := argsL) (rest := rest) hlen hstack hW hdg (fun _ _ => ⟨has, rfl, hc, hn⟩)
  dsimp only [Pt.U, Pt.locs, Pt.cells, Pt.slots] at X' l1 y1 z1 st hQ
  subst l1 y1 z1
  exact ⟨v, T', Lc, X', hQ, fun t k => st.trans k⟩
end OwnP

def own_has (vs : List Int32) (y : Int32) : Nat → Nat → Bool
  | 0, _ => false
  | n + 1, j => decide (vs.getD j 0 = y) || own_has vs y n (j + 1)
def own_b (vs : List Int32) (x k : Nat) (y : Int32) : Int32 := if own_has vs y (k - x) x = true then 1 else 0

theorem d6_0 : decode jdk_29_method_65_code 0 = .ok (.iload_n 0, 1) := by decide +kernel
theorem d6_1 : decode jdk_29_method_65_code 1 = .ok (.iload_n 1, 1) := by decide +kernel
theorem d6_2 : decode jdk_29_method_65_code 2 = .ok (.if_icmp .lt 7, 3) := by decide +kernel
theorem d6_5 : decode jdk_29_method_65_code 5 = .ok (.iload_n 0, 1) := by decide +kernel
theorem d6_6 : decode jdk_29_method_65_code 6 = .ok (.goto 4, 3) := by decide +kernel
theorem d6_9 : decode jdk_29_method_65_code 9 = .ok (.iload_n 1, 1) := by decide +kernel
theorem d6_10 : decode jdk_29_method_65_code 10 = .ok (.ireturn, 1) := by decide +kernel
theorem pf_6 : plainFor (⟨"java/lang/Math", "max", "(II)I"⟩ : MethodName) = true := by first | exact plainFor_of_name (by first | (simp [plainName, overriddenIn]; done) | decide +kernel) | decide +kernel
theorem pd_6 : parseMethodDescriptor "(II)I" = some ⟨[.int, .int], some .int⟩ := by decide +kernel
theorem ef_6 (m : MethodId) (p1 : Int32) (p2 : Int32) : entryFrame m #[(.int p1), (.int p2)] 2 = mkF m 0 #[.val (.int p1), .val (.int p2)] [] := by first | (simp [entryFrame, mkF, argsToLocals, Value.category]; done) | rfl
def Q6 (p1 : Int32) (p2 : Int32) (h0 : Heap) (n0 : Nat) (v : Option Value) (h : Heap) (L : List Loc) : Prop := v = some (.int (if p1 < p2 then p2 else p1)) ∧ Fr n0 L ∧ h = h0
set_option maxRecDepth 65536 in
set_option maxHeartbeats 40000000 in
theorem rm6 (l : Launch) (Z : State) (a0 : Array Value) (hw : ∀ d ∈ tables_1, d.before a0 Z = true) (ws : List Jvm.Cond) (p1 : Int32) (p2 : Int32) (h0 : Heap) (n0 : Nat) (Z0 : n0 ≤ h0.size)  :
    own_Met l Z (⟨"java/lang/Math", "max", "(II)I"⟩ : MethodName) jdk_29_method_65_code 2 (some .int) ws ({ frames := 0, cells := 0, slots := 0, locals := 0 } : Room) #[(.int p1), (.int p2)] h0 (Q6 p1 p2 h0 n0) := by
  refine MetFree.of_bodySF pf_6 hisR ?_
  intro p e s m args below meth c s₁ Bd hml0 hP hK
  obtain ⟨rfl, hZ, hh⟩ := hP
  have hx := Bd.exec
  have hby := Bd.bytes
  have hlk : meth.locks = false := BodyLoose.notSynchronized Bd
  have hml : c.maxLocals = 2 := hml0
  have hown : s.vm.findClass "java/lang/Math" = some m.cls := findClass_of_methodNamed Bd.named
  have hnm := (name_of_methodNamed Bd.named Bd.method).1
  have X0 : Stand p l e ({ frames := 0, cells := 0, slots := 0, locals := 0 } : Room) s m #[(.int p1), (.int p2)] below meth c s₁ [] 0 0 := Stand.of_body Bd
  have e0 : s₁.heap = h0 := by rw [← hh, Bd.state]; rfl
  have N0 := Fr.nil n0
  show own_Go p.tables e below s (Q6 p1 p2 h0 n0) ({ frames := 0, cells := 0, slots := 0, locals := 0 } : Room).cells ({ frames := 0, cells := 0, slots := 0, locals := 0 } : Room).slots _
  refine own_by (fun _ k => castTop (ef_6 m p1 p2) k) ?_
  show own_Go p.tables e below s _ _ _ (s₁.setTop (mkF m 0 #[.val (.int p1), .val (.int p2)] []))
  refine own_by (fun _ kz => XS.iloadN X0.here hx rfl (hb hby d6_0) rfl kz) ?_
  show own_Go p.tables e below s _ _ _ (s₁.setTop (mkF m 1 #[.val (.int p1), .val (.int p2)] [(.int p1)]))
  refine own_by (fun _ kz => XS.iloadN X0.here hx rfl (hb hby d6_1) rfl kz) ?_
  show own_Go p.tables e below s _ _ _ (s₁.setTop (mkF m 2 #[.val (.int p1), .val (.int p2)] [(.int p2), (.int p1)]))
  by_cases hc2_1 : p1 < p2
  · refine own_by (fun _ kz => XS.icmpYes X0.here hx rfl (pc0 := 2) (pc' := 9) rfl (hb hby d6_2) rfl (tlt hc2_1).1 (by decide) (by decide) kz) ?_
    show own_Go p.tables e below s _ _ _ (s₁.setTop (mkF m 9 #[.val (.int p1), .val (.int p2)] []))
    refine own_by (fun _ kz => XS.iloadN X0.here hx rfl (hb hby d6_9) rfl kz) ?_
    show own_Go p.tables e below s _ _ _ (s₁.setTop (mkF m 10 #[.val (.int p1), .val (.int p2)] [(.int p2)]))
    exact own_retI X0 hx hlk Bd.returns (hb hby d6_10) (by decide) (by decide) ⟨by rw [if_pos hc2_1], N0, e0⟩
  · refine own_by (fun _ kz => XS.icmpNo X0.here hx rfl (hb hby d6_2) rfl (flt hc2_1).1 kz) ?_
    show own_Go p.tables e below s _ _ _ (s₁.setTop (mkF m 5 #[.val (.int p1), .val (.int p2)] []))
    refine own_by (fun _ kz => XS.iloadN X0.here hx rfl (hb hby d6_5) rfl kz) ?_
    show own_Go p.tables e below s _ _ _ (s₁.setTop (mkF m 6 #[.val (.int p1), .val (.int p2)] [(.int p1)]))
    refine own_by (fun _ kz => XS.goto X0.here hx rfl (pc0 := 6) (pc' := 10) rfl (hb hby d6_6) (by decide) (by decide) kz) ?_
    show own_Go p.tables e below s _ _ _ (s₁.setTop (mkF m 10 #[.val (.int p1), .val (.int p2)] [(.int p1)]))
    exact own_retI X0 hx hlk Bd.returns (hb hby d6_10) (by decide) (by decide) ⟨by rw [if_neg hc2_1], N0, e0⟩
theorem d8_0 : decode jdk_29_method_69_code 0 = .ok (.iload_n 0, 1) := by decide +kernel
theorem d8_1 : decode jdk_29_method_69_code 1 = .ok (.iload_n 1, 1) := by decide +kernel
theorem d8_2 : decode jdk_29_method_69_code 2 = .ok (.if_icmp .gt 7, 3) := by decide +kernel
theorem d8_5 : decode jdk_29_method_69_code 5 = .ok (.iload_n 0, 1) := by decide +kernel
theorem d8_6 : decode jdk_29_method_69_code 6 = .ok (.goto 4, 3) := by decide +kernel
theorem d8_9 : decode jdk_29_method_69_code 9 = .ok (.iload_n 1, 1) := by decide +kernel
theorem d8_10 : decode jdk_29_method_69_code 10 = .ok (.ireturn, 1) := by decide +kernel
theorem pf_8 : plainFor (⟨"java/lang/Math", "min", "(II)I"⟩ : MethodName) = true := by first | exact plainFor_of_name (by first | (simp [plainName, overriddenIn]; done) | decide +kernel) | decide +kernel
theorem pd_8 : parseMethodDescriptor "(II)I" = some ⟨[.int, .int], some .int⟩ := by decide +kernel
theorem ef_8 (m : MethodId) (p1 : Int32) (p2 : Int32) : entryFrame m #[(.int p1), (.int p2)] 2 = mkF m 0 #[.val (.int p1), .val (.int p2)] [] := by first | (simp [entryFrame, mkF, argsToLocals, Value.category]; done) | rfl
def Q8 (p1 : Int32) (p2 : Int32) (h0 : Heap) (n0 : Nat) (v : Option Value) (h : Heap) (L : List Loc) : Prop := v = some (.int (if p2 < p1 then p2 else p1)) ∧ Fr n0 L ∧ h = h0
set_option maxRecDepth 65536 in
set_option maxHeartbeats 40000000 in
theorem rm8 (l : Launch) (Z : State) (a0 : Array Value) (hw : ∀ d ∈ tables_1, d.before a0 Z = true) (ws : List Jvm.Cond) (p1 : Int32) (p2 : Int32) (h0 : Heap) (n0 : Nat) (Z0 : n0 ≤ h0.size)  :
    own_Met l Z (⟨"java/lang/Math", "min", "(II)I"⟩ : MethodName) jdk_29_method_69_code 2 (some .int) ws ({ frames := 0, cells := 0, slots := 0, locals := 0 } : Room) #[(.int p1), (.int p2)] h0 (Q8 p1 p2 h0 n0) := by
  refine MetFree.of_bodySF pf_8 hisR ?_
  intro p e s m args below meth c s₁ Bd hml0 hP hK
  obtain ⟨rfl, hZ, hh⟩ := hP
  have hx := Bd.exec
  have hby := Bd.bytes
  have hlk : meth.locks = false := BodyLoose.notSynchronized Bd
  have hml : c.maxLocals = 2 := hml0
  have hown : s.vm.findClass "java/lang/Math" = some m.cls := findClass_of_methodNamed Bd.named
  have hnm := (name_of_methodNamed Bd.named Bd.method).1
  have X0 : Stand p l e ({ frames := 0, cells := 0, slots := 0, locals := 0 } : Room) s m #[(.int p1), (.int p2)] below meth c s₁ [] 0 0 := Stand.of_body Bd
  have e0 : s₁.heap = h0 := by rw [← hh, Bd.state]; rfl
  have N0 := Fr.nil n0
  show own_Go p.tables e below s (Q8 p1 p2 h0 n0) ({ frames := 0, cells := 0, slots := 0, locals := 0 } : Room).cells ({ frames := 0, cells := 0, slots := 0, locals := 0 } : Room).slots _
  refine own_by (fun _ k => castTop (ef_8 m p1 p2) k) ?_
  show own_Go p.tables e below s _ _ _ (s₁.setTop (mkF m 0 #[.val (.int p1), .val (.int p2)] []))
  refine own_by (fun _ kz => XS.iloadN X0.here hx rfl (hb hby d8_0) rfl kz) ?_
  show own_Go p.tables e below s _ _ _ (s₁.setTop (mkF m 1 #[.val (.int p1), .val (.int p2)] [(.int p1)]))
  refine own_by (fun _ kz => XS.iloadN X0.here hx rfl (hb hby d8_1) rfl kz) ?_
  show own_Go p.tables e below s _ _ _ (s₁.setTop (mkF m 2 #[.val (.int p1), .val (.int p2)] [(.int p2), (.int p1)]))
  by_cases hc2_1 : p2 < p1
  · refine own_by (fun _ kz => XS.icmpYes X0.here hx rfl (pc0 := 2) (pc' := 9) rfl (hb hby d8_2) rfl (tlt hc2_1).2.2.1 (by decide) (by decide) kz) ?_
    show own_Go p.tables e below s _ _ _ (s₁.setTop (mkF m 9 #[.val (.int p1), .val (.int p2)] []))
    refine own_by (fun _ kz => XS.iloadN X0.here hx rfl (hb hby d8_9) rfl kz) ?_
    show own_Go p.tables e below s _ _ _ (s₁.setTop (mkF m 10 #[.val (.int p1), .val (.int p2)] [(.int p2)]))
    exact own_retI X0 hx hlk Bd.returns (hb hby d8_10) (by decide) (by decide) ⟨by rw [if_pos hc2_1], N0, e0⟩
  · refine own_by (fun _ kz => XS.icmpNo X0.here hx rfl (hb hby d8_2) rfl (flt hc2_1).2.2.1 kz) ?_
    show own_Go p.tables e below s _ _ _ (s₁.setTop (mkF m 5 #[.val (.int p1), .val (.int p2)] []))
    refine own_by (fun _ kz => XS.iloadN X0.here hx rfl (hb hby d8_5) rfl kz) ?_
    show own_Go p.tables e below s _ _ _ (s₁.setTop (mkF m 6 #[.val (.int p1), .val (.int p2)] [(.int p1)]))
    refine own_by (fun _ kz => XS.goto X0.here hx rfl (pc0 := 6) (pc' := 10) rfl (hb hby d8_6) (by decide) (by decide) kz) ?_
    show own_Go p.tables e below s _ _ _ (s₁.setTop (mkF m 10 #[.val (.int p1), .val (.int p2)] [(.int p1)]))
    exact own_retI X0 hx hlk Bd.returns (hb hby d8_10) (by decide) (by decide) ⟨by rw [if_neg hc2_1], N0, e0⟩
theorem d7_0 : decode jdk_65_method_123_code 0 = .ok (.iload_n 1, 1) := by decide +kernel
theorem d7_1 : decode jdk_65_method_123_code 1 = .ok (.aload_n 0, 1) := by decide +kernel
theorem d7_2 : decode jdk_65_method_123_code 2 = .ok (.arraylength, 1) := by decide +kernel
theorem d7_3 : decode jdk_65_method_123_code 3 = .ok (.if_icmp .ne 11, 3) := by decide +kernel
theorem d7_6 : decode jdk_65_method_123_code 6 = .ok (.aload_n 0, 1) := by decide +kernel
theorem d7_7 : decode jdk_65_method_123_code 7 = .ok (.invokevirtual 316, 3) := by decide +kernel
theorem d7_10 : decode jdk_65_method_123_code 10 = .ok (.checkcast 317, 3) := by decide +kernel
theorem d7_13 : decode jdk_65_method_123_code 13 = .ok (.areturn, 1) := by decide +kernel
theorem d7_14 : decode jdk_65_method_123_code 14 = .ok (.iload_n 1, 1) := by decide +kernel
theorem d7_15 : decode jdk_65_method_123_code 15 = .ok (.newarray .int, 2) := by decide +kernel
theorem d7_17 : decode jdk_65_method_123_code 17 = .ok (.astore_n 2, 1) := by decide +kernel
theorem d7_18 : decode jdk_65_method_123_code 18 = .ok (.aload_n 0, 1) := by decide +kernel
theorem d7_19 : decode jdk_65_method_123_code 19 = .ok (.iconst 0, 1) := by decide +kernel
theorem d7_20 : decode jdk_65_method_123_code 20 = .ok (.aload_n 2, 1) := by decide +kernel
theorem d7_21 : decode jdk_65_method_123_code 21 = .ok (.iconst 0, 1) := by decide +kernel
theorem d7_22 : decode jdk_65_method_123_code 22 = .ok (.aload_n 0, 1) := by decide +kernel
theorem d7_23 : decode jdk_65_method_123_code 23 = .ok (.arraylength, 1) := by decide +kernel
theorem d7_24 : decode jdk_65_method_123_code 24 = .ok (.iload_n 1, 1) := by decide +kernel
theorem d7_25 : decode jdk_65_method_123_code 25 = .ok (.invokestatic 304, 3) := by decide +kernel
theorem d7_28 : decode jdk_65_method_123_code 28 = .ok (.invokestatic 150, 3) := by decide +kernel
theorem d7_31 : decode jdk_65_method_123_code 31 = .ok (.aload_n 2, 1) := by decide +kernel
theorem d7_32 : decode jdk_65_method_123_code 32 = .ok (.areturn, 1) := by decide +kernel
theorem pf_7 : plainFor (⟨"java/util/Arrays", "copyOf", "([II)[I"⟩ : MethodName) = true := by first | exact plainFor_of_name (by first | (simp [plainName, overriddenIn]; done) | decide +kernel) | decide +kernel
theorem pd_7 : parseMethodDescriptor "([II)[I" = some ⟨[(.array .int), .int], some (.array .int)⟩ := by decide +kernel
theorem ef_7 (m : MethodId) (p0 : Addr) : entryFrame m #[(.ref p0), (.int (4 : Int32))] 3 = mkF m 0 #[.val (.ref p0), .val (.int (4 : Int32)), .unset] [] := by first | (simp [entryFrame, mkF, argsToLocals, Value.category]; done) | rfl
def Q7 (Z : State) (h0 : Heap) (n0 : Nat) (v : Option Value) (h : Heap) (L : List Loc) : Prop := ∃ (b : Addr) (kb : ClassId), v = some (.ref b) ∧ Fr n0 L ∧ Keep h0 h [] ∧ h0.size ≤ b ∧ Exa Z h b "[I" ∧ Arv Z h b kb .int (4 : Int32) [.int (0 : Int32), .int (0 : Int32), .int (0 : Int32), .int (0 : Int32)] (.int (0 : Int32))
set_option maxRecDepth 65536 in
set_option maxHeartbeats 40000000 in
theorem rm7 (l : Launch) (Z : State) (a0 : Array Value) (hw : ∀ d ∈ tables_1, d.before a0 Z = true) (ws : List Jvm.Cond) (p0 : Addr) (h0 : Heap) (n0 : Nat) (Z0 : n0 ≤ h0.size) (k0 : ClassId) (V0 : Arv Z h0 p0 k0 .int (0 : Int32) [] (.int (0 : Int32))) :
    own_Met l Z (⟨"java/util/Arrays", "copyOf", "([II)[I"⟩ : MethodName) jdk_65_method_123_code 3 (some (.array .int)) ws ({ frames := 1, cells := 1, slots := 4, locals := 40 } : Room) #[(.ref p0), (.int (4 : Int32))] h0 (Q7 Z h0 n0) := by
  refine MetFree.of_bodySF pf_7 hisR ?_
  intro p e s m args below meth c s₁ Bd hml0 hP hK
  obtain ⟨rfl, hZ, hh⟩ := hP
  have hx := Bd.exec
  have hby := Bd.bytes
  have hlk : meth.locks = false := BodyLoose.notSynchronized Bd
  have hml : c.maxLocals = 3 := hml0
  have hown : s.vm.findClass "java/util/Arrays" = some m.cls := findClass_of_methodNamed Bd.named
  have hnm := (name_of_methodNamed Bd.named Bd.method).1
  have X0 : Stand p l e ({ frames := 1, cells := 1, slots := 4, locals := 40 } : Room) s m #[(.ref p0), (.int (4 : Int32))] below meth c s₁ [] 0 0 := Stand.of_body Bd
  have e0 : s₁.heap = h0 := by rw [← hh, Bd.state]; rfl
  have N0 := Fr.nil n0
  have K0 := Keep.refl h0 []
  show own_Go p.tables e below s (Q7 Z h0 n0) ({ frames := 1, cells := 1, slots := 4, locals := 40 } : Room).cells ({ frames := 1, cells := 1, slots := 4, locals := 40 } : Room).slots _
  refine own_by (fun _ k => castTop (ef_7 m p0) k) ?_
  show own_Go p.tables e below s _ _ _ (s₁.setTop (mkF m 0 #[.val (.ref p0), .val (.int (4 : Int32)), .unset] []))
  refine own_by (fun _ kz => XS.iloadN X0.here hx rfl (hb hby d7_0) rfl kz) ?_
  show own_Go p.tables e below s _ _ _ (s₁.setTop (mkF m 1 #[.val (.ref p0), .val (.int (4 : Int32)), .unset] [(.int (4 : Int32))]))
  refine own_by (fun _ kz => XS.aloadN X0.here hx rfl (hb hby d7_1) rfl rfl kz) ?_
  show own_Go p.tables e below s _ _ _ (s₁.setTop (mkF m 2 #[.val (.ref p0), .val (.int (4 : Int32)), .unset] [(.ref p0), (.int (4 : Int32))]))
  obtain ⟨cl1, Ar1, qk1, Sz1, Nn1, Hs1, Gt1⟩ := id V0
  refine own_by (fun _ kz => X0.arraylength hx (by rw [e0]; exact Ar1.1) (State.isArrayOf_alike hZ.alike Ar1.2.1) (g := (mkF m 2 #[.val (.ref p0), .val (.int (4 : Int32)), .unset] [(.ref p0), (.int (4 : Int32))])) rfl rfl (hb hby d7_2) _ kz) ?_
  rw [len_of Sz1 Nn1]
  show own_Go p.tables e below s _ _ _ (s₁.setTop (mkF m 3 #[.val (.ref p0), .val (.int (4 : Int32)), .unset] [(.int (0 : Int32)), (.int (4 : Int32))]))
  refine own_by (fun _ kz => XS.icmpYes X0.here hx rfl (pc0 := 3) (pc' := 14) rfl (hb hby d7_3) rfl (feq (by decide : ¬ ((4 : Int32) = (0 : Int32)))).2 (by decide) (by decide) kz) ?_
  show own_Go p.tables e below s _ _ _ (s₁.setTop (mkF m 14 #[.val (.ref p0), .val (.int (4 : Int32)), .unset] []))
  refine own_by (fun _ kz => XS.iloadN X0.here hx rfl (hb hby d7_14) rfl kz) ?_
  show own_Go p.tables e below s _ _ _ (s₁.setTop (mkF m 15 #[.val (.ref p0), .val (.int (4 : Int32)), .unset] [(.int (4 : Int32))]))
  obtain ⟨T2, h2, k2, X2, e2, E2, A2, Ex2, st2⟩ := newPE X0 hx hZ (hw _ (List.mem_of_getElem? (i := 20) rfl)) e0 (g := (mkF m 15 #[.val (.ref p0), .val (.int (4 : Int32)), .unset] [(.int (4 : Int32))])) rfl (hb hby d7_15) rfl (by decide) (cap := 4) (by decide) (by decide) (by decide) (by decide) (ad := "[I") rfl
  obtain ⟨b2, g2⟩ : ∃ z, z = h0.size := ⟨_, rfl⟩
  rw [← g2] at A2 Ex2 st2
  have ge_b2 : n0 ≤ b2 := Nat.le_trans Z0 (Nat.le_of_eq g2.symm)
  have sz_b2 : h0.size ≤ b2 := Nat.le_trans K0.1 (Nat.le_of_eq g2.symm)
  have ne_p0_b2 : p0 ≠ b2 := by rw [g2]; exact Nat.ne_of_lt V0.lt
  have Z2 : n0 ≤ h2.size := Nat.le_trans Z0 E2.1
  have K2 := K0.ext E2
  have V0_h2 := V0.ext E2
  have V2 : Arv Z h2 b2 k2 .int (4 : Int32) [.int (0 : Int32), .int (0 : Int32), .int (0 : Int32), .int (0 : Int32)] (.int (0 : Int32)) := (Arv.new A2 (by decide)).pad (fun i => pad_rep [] _ 4 i)
  refine own_by st2 ?_
  show own_Go p.tables e below s _ _ _ (T2.setTop (mkF m 17 #[.val (.ref p0), .val (.int (4 : Int32)), .unset] [(.ref b2)]))
  refine own_by (fun _ kz => XS.astoreN X2.here hx rfl (hb hby d7_17) rfl rfl (l' := #[.val (.ref p0), .val (.int (4 : Int32)), .val (.ref b2)]) rfl kz) ?_
  show own_Go p.tables e below s _ _ _ (T2.setTop (mkF m 18 #[.val (.ref p0), .val (.int (4 : Int32)), .val (.ref b2)] []))
  refine own_by (fun _ kz => XS.aloadN X2.here hx rfl (hb hby d7_18) rfl rfl kz) ?_
  show own_Go p.tables e below s _ _ _ (T2.setTop (mkF m 19 #[.val (.ref p0), .val (.int (4 : Int32)), .val (.ref b2)] [(.ref p0)]))
  refine own_by (fun _ kz => XS.iconst X2.here hx rfl (hb hby d7_19) kz) ?_
  show own_Go p.tables e below s _ _ _ (T2.setTop (mkF m 20 #[.val (.ref p0), .val (.int (4 : Int32)), .val (.ref b2)] [(.int (0 : Int32)), (.ref p0)]))
  refine own_by (fun _ kz => XS.aloadN X2.here hx rfl (hb hby d7_20) rfl rfl kz) ?_
  show own_Go p.tables e below s _ _ _ (T2.setTop (mkF m 21 #[.val (.ref p0), .val (.int (4 : Int32)), .val (.ref b2)] [(.ref b2), (.int (0 : Int32)), (.ref p0)]))
  refine own_by (fun _ kz => XS.iconst X2.here hx rfl (hb hby d7_21) kz) ?_
  show own_Go p.tables e below s _ _ _ (T2.setTop (mkF m 22 #[.val (.ref p0), .val (.int (4 : Int32)), .val (.ref b2)] [(.int (0 : Int32)), (.ref b2), (.int (0 : Int32)), (.ref p0)]))
  refine own_by (fun _ kz => XS.aloadN X2.here hx rfl (hb hby d7_22) rfl rfl kz) ?_
  show own_Go p.tables e below s _ _ _ (T2.setTop (mkF m 23 #[.val (.ref p0), .val (.int (4 : Int32)), .val (.ref b2)] [(.ref p0), (.int (0 : Int32)), (.ref b2), (.int (0 : Int32)), (.ref p0)]))
  obtain ⟨cl3, Ar3, qk3, Sz3, Nn3, Hs3, Gt3⟩ := id V0_h2
  refine own_by (fun _ kz => X2.arraylength hx (by rw [e2]; exact Ar3.1) (State.isArrayOf_alike hZ.alike Ar3.2.1) (g := (mkF m 23 #[.val (.ref p0), .val (.int (4 : Int32)), .val (.ref b2)] [(.ref p0), (.int (0 : Int32)), (.ref b2), (.int (0 : Int32)), (.ref p0)])) rfl rfl (hb hby d7_23) _ kz) ?_
  rw [len_of Sz3 Nn3]
  show own_Go p.tables e below s _ _ _ (T2.setTop (mkF m 24 #[.val (.ref p0), .val (.int (4 : Int32)), .val (.ref b2)] [(.int (0 : Int32)), (.int (0 : Int32)), (.ref b2), (.int (0 : Int32)), (.ref p0)]))
  refine own_by (fun _ kz => XS.iloadN X2.here hx rfl (hb hby d7_24) rfl kz) ?_
  show own_Go p.tables e below s _ _ _ (T2.setTop (mkF m 25 #[.val (.ref p0), .val (.int (4 : Int32)), .val (.ref b2)] [(.int (4 : Int32)), (.int (0 : Int32)), (.int (0 : Int32)), (.ref b2), (.int (0 : Int32)), (.ref p0)]))
  obtain ⟨v4, T4, L4, X4, q4, st4⟩ := own_callS X2 hx hZ hown (hw _ (List.mem_of_getElem? (i := 41) rfl)) (hw _ (List.mem_of_getElem? (i := 42) rfl)) (hw _ (List.mem_of_getElem? (i := 36) rfl)) (hw _ (List.mem_of_getElem? (i := 43) rfl)) (by decide) (rm8 l Z a0 hw [] (0 : Int32) (4 : Int32) h2 n0 Z2) (W := 4) (by decide) (by decide) e2 (g := (mkF m 25 #[.val (.ref p0), .val (.int (4 : Int32)), .val (.ref b2)] [(.int (4 : Int32)), (.int (0 : Int32)), (.int (0 : Int32)), (.ref b2), (.int (0 : Int32)), (.ref p0)])) rfl (by rw [hml]; rfl) (argsL := [(.int (0 : Int32)), (.int (4 : Int32))]) (rest := [(.int (0 : Int32)), (.ref b2), (.int (0 : Int32)), (.ref p0)]) (lenOf pd_8 rfl) rfl rfl (by show 2 * 0 + _ ≤ _; exact Nat.le_of_eq rfl) (hb hby d7_25) (by decide) (by decide)
  obtain ⟨rfl, Nq4, hh4⟩ := q4
  have N4 := Fr.app N0 Nq4
  refine own_by st4 ?_
  show own_Go p.tables e below s _ _ _ (T4.setTop (mkF m 28 #[.val (.ref p0), .val (.int (4 : Int32)), .val (.ref b2)] [(.int (if (4 : Int32) < (0 : Int32) then (4 : Int32) else (0 : Int32))), (.int (0 : Int32)), (.ref b2), (.int (0 : Int32)), (.ref p0)]))
  rw [if_neg (by decide : ¬ (4 : Int32) < (0 : Int32))]
  show own_Go p.tables e below s _ _ _ (T4.setTop (mkF m 28 #[.val (.ref p0), .val (.int (4 : Int32)), .val (.ref b2)] [(.int (0 : Int32)), (.int (0 : Int32)), (.ref b2), (.int (0 : Int32)), (.ref p0)]))
  obtain ⟨T5, h5, L5, X5, e5, N5, Kc5, V5, st5⟩ := cpA X4 hx hZ hown (hw _ (List.mem_of_getElem? (i := 44) rfl)) (hw _ (List.mem_of_getElem? (i := 47) rfl)) (hw _ (List.mem_of_getElem? (i := 45) rfl)) (hw _ (List.mem_of_getElem? (i := 46) rfl)) hh4 V0_h2 V2 (us := []) (Or.inl ⟨rfl, rfl⟩) (sp := (0 : Int32)) (dp := (0 : Int32)) (nn := (0 : Int32)) (by decide) (by decide) (by decide) (by decide) (by decide) rfl (by decide) N4 ge_b2 (g := (mkF m 28 #[.val (.ref p0), .val (.int (4 : Int32)), .val (.ref b2)] [(.int (0 : Int32)), (.int (0 : Int32)), (.ref b2), (.int (0 : Int32)), (.ref p0)])) rfl (by rw [hml]; rfl) rfl (hb hby d7_28) (by decide) (W := 0) (by show 2 * 0 + _ ≤ _; exact Nat.le_of_eq rfl) (by decide)
  have K5 := K2.trans Kc5 (allS (Or.inr sz_b2) all0)
  have Ey5 := Ex2.keep Kc5
  refine own_by st5 ?_
  show own_Go p.tables e below s _ _ _ (T5.setTop (mkF m 31 #[.val (.ref p0), .val (.int (4 : Int32)), .val (.ref b2)] []))
  refine own_by (fun _ kz => XS.aloadN X5.here hx rfl (hb hby d7_31) rfl rfl kz) ?_
  show own_Go p.tables e below s _ _ _ (T5.setTop (mkF m 32 #[.val (.ref p0), .val (.int (4 : Int32)), .val (.ref b2)] [(.ref b2)]))
  exact own_retA X5 hx hlk Bd.returns rfl (hb hby d7_32) (by decide) (by decide) ⟨_, _, rfl, N5, by rw [e5]; exact K5, sz_b2, by rw [e5]; exact Ey5, by rw [e5]; exact V5⟩
theorem d3_0 : decode jdk_65_method_117_code 0 = .ok (.iconst 0, 1) := by decide +kernel
theorem d3_1 : decode jdk_65_method_117_code 1 = .ok (.istore_n 2, 1) := by decide +kernel
theorem d3_2 : decode jdk_65_method_117_code 2 = .ok (.aload_n 0, 1) := by decide +kernel
theorem d3_3 : decode jdk_65_method_117_code 3 = .ok (.arraylength, 1) := by decide +kernel
theorem d3_4 : decode jdk_65_method_117_code 4 = .ok (.istore_n 3, 1) := by decide +kernel
theorem d3_5 : decode jdk_65_method_117_code 5 = .ok (.iload_n 2, 1) := by decide +kernel
theorem d3_6 : decode jdk_65_method_117_code 6 = .ok (.iload_n 3, 1) := by decide +kernel
theorem d3_7 : decode jdk_65_method_117_code 7 = .ok (.if_icmp .ge 13, 3) := by decide +kernel
theorem d3_10 : decode jdk_65_method_117_code 10 = .ok (.aload_n 0, 1) := by decide +kernel
theorem d3_11 : decode jdk_65_method_117_code 11 = .ok (.iload_n 2, 1) := by decide +kernel
theorem d3_12 : decode jdk_65_method_117_code 12 = .ok (.aload_n 1, 1) := by decide +kernel
theorem d3_13 : decode jdk_65_method_117_code 13 = .ok (.aastore, 1) := by decide +kernel
theorem d3_14 : decode jdk_65_method_117_code 14 = .ok (.iinc 2 1, 3) := by decide +kernel
theorem d3_17 : decode jdk_65_method_117_code 17 = .ok (.goto (-12), 3) := by decide +kernel
theorem d3_20 : decode jdk_65_method_117_code 20 = .ok (.return_, 1) := by decide +kernel
theorem pf_3 : plainFor (⟨"java/util/Arrays", "fill", "([Ljava/lang/Object;Ljava/lang/Object;)V"⟩ : MethodName) = true := by first | exact plainFor_of_name (by first | (simp [plainName, overriddenIn]; done) | decide +kernel) | decide +kernel
theorem pd_3 : parseMethodDescriptor "([Ljava/lang/Object;Ljava/lang/Object;)V" = some ⟨[(.array (.object "java/lang/Object")), (.object "java/lang/Object")], none⟩ := by decide +kernel
theorem ef_3 (m : MethodId) (p0 : Addr) (p1 : Addr) : entryFrame m #[(.ref p0), (.ref p1)] 4 = mkF m 0 #[.val (.ref p0), .val (.ref p1), .unset, .unset] [] := by first | (simp [entryFrame, mkF, argsToLocals, Value.category]; done) | rfl
def Q3 (Z : State) (p0 : Addr) (p1 : Addr) (kt : ClassId) (h0 : Heap) (n0 : Nat) (v : Option Value) (h : Heap) (L : List Loc) : Prop := v = none ∧ Fr n0 L ∧ Keep h0 h [p0] ∧ Arv Z h p0 kt (.array .int) (2 : Int32) [.ref p1, .ref p1] .null
set_option maxRecDepth 65536 in
set_option maxHeartbeats 40000000 in
theorem rm3 (l : Launch) (Z : State) (a0 : Array Value) (hw : ∀ d ∈ tables_1, d.before a0 Z = true) (ws : List Jvm.Cond) (p0 : Addr) (p1 : Addr) (h0 : Heap) (n0 : Nat) (Z0 : n0 ≤ h0.size) (kt : ClassId) (Ov0 : OvrA Z kt .int "[I") (V0 : Arv Z h0 p0 kt (.array .int) (2 : Int32) [.null, .null] .null) (E0 : Exa Z h0 p1 "[I") (ge0 : n0 ≤ p0) :
    own_Met l Z (⟨"java/util/Arrays", "fill", "([Ljava/lang/Object;Ljava/lang/Object;)V"⟩ : MethodName) jdk_65_method_117_code 4 none ws ({ frames := 0, cells := 0, slots := 0, locals := 0 } : Room) #[(.ref p0), (.ref p1)] h0 (Q3 Z p0 p1 kt h0 n0) := by
  refine MetFree.of_bodySF pf_3 hisR ?_
  intro p e s m args below meth c s₁ Bd hml0 hP hK
  obtain ⟨rfl, hZ, hh⟩ := hP
  have hx := Bd.exec
  have hby := Bd.bytes
  have hlk : meth.locks = false := BodyLoose.notSynchronized Bd
  have hml : c.maxLocals = 4 := hml0
  have hown : s.vm.findClass "java/util/Arrays" = some m.cls := findClass_of_methodNamed Bd.named
  have hnm := (name_of_methodNamed Bd.named Bd.method).1
  have X0 : Stand p l e ({ frames := 0, cells := 0, slots := 0, locals := 0 } : Room) s m #[(.ref p0), (.ref p1)] below meth c s₁ [] 0 0 := Stand.of_body Bd
  have e0 : s₁.heap = h0 := by rw [← hh, Bd.state]; rfl
  have N0 := Fr.nil n0
  have K0 := Keep.refl h0 [p0]
  show own_Go p.tables e below s (Q3 Z p0 p1 kt h0 n0) ({ frames := 0, cells := 0, slots := 0, locals := 0 } : Room).cells ({ frames := 0, cells := 0, slots := 0, locals := 0 } : Room).slots _
  refine own_by (fun _ k => castTop (ef_3 m p0 p1) k) ?_
  show own_Go p.tables e below s _ _ _ (s₁.setTop (mkF m 0 #[.val (.ref p0), .val (.ref p1), .unset, .unset] []))
  refine own_by (fun _ kz => XS.iconst X0.here hx rfl (hb hby d3_0) kz) ?_
  show own_Go p.tables e below s _ _ _ (s₁.setTop (mkF m 1 #[.val (.ref p0), .val (.ref p1), .unset, .unset] [(.int (0 : Int32))]))
  refine own_by (fun _ kz => XS.istoreN X0.here hx rfl (hb hby d3_1) rfl (l' := #[.val (.ref p0), .val (.ref p1), .val (.int (0 : Int32)), .unset]) rfl kz) ?_
  show own_Go p.tables e below s _ _ _ (s₁.setTop (mkF m 2 #[.val (.ref p0), .val (.ref p1), .val (.int (0 : Int32)), .unset] []))
  refine own_by (fun _ kz => XS.aloadN X0.here hx rfl (hb hby d3_2) rfl rfl kz) ?_
  show own_Go p.tables e below s _ _ _ (s₁.setTop (mkF m 3 #[.val (.ref p0), .val (.ref p1), .val (.int (0 : Int32)), .unset] [(.ref p0)]))
  obtain ⟨cl1, Ar1, qk1, Sz1, Nn1, Hs1, Gt1⟩ := id V0
  refine own_by (fun _ kz => X0.arraylength hx (by rw [e0]; exact Ar1.1) (State.isArrayOf_alike hZ.alike Ar1.2.1) (g := (mkF m 3 #[.val (.ref p0), .val (.ref p1), .val (.int (0 : Int32)), .unset] [(.ref p0)])) rfl rfl (hb hby d3_3) _ kz) ?_
  rw [len_of Sz1 Nn1]
  show own_Go p.tables e below s _ _ _ (s₁.setTop (mkF m 4 #[.val (.ref p0), .val (.ref p1), .val (.int (0 : Int32)), .unset] [(.int (2 : Int32))]))
  refine own_by (fun _ kz => XS.istoreN X0.here hx rfl (hb hby d3_4) rfl (l' := #[.val (.ref p0), .val (.ref p1), .val (.int (0 : Int32)), .val (.int (2 : Int32))]) rfl kz) ?_
  show own_Go p.tables e below s _ _ _ (s₁.setTop (mkF m 5 #[.val (.ref p0), .val (.ref p1), .val (.int (0 : Int32)), .val (.int (2 : Int32))] []))
  refine own_by (fun _ kz => XS.iloadN X0.here hx rfl (hb hby d3_5) rfl kz) ?_
  show own_Go p.tables e below s _ _ _ (s₁.setTop (mkF m 6 #[.val (.ref p0), .val (.ref p1), .val (.int (0 : Int32)), .val (.int (2 : Int32))] [(.int (0 : Int32))]))
  refine own_by (fun _ kz => XS.iloadN X0.here hx rfl (hb hby d3_6) rfl kz) ?_
  show own_Go p.tables e below s _ _ _ (s₁.setTop (mkF m 7 #[.val (.ref p0), .val (.ref p1), .val (.int (0 : Int32)), .val (.int (2 : Int32))] [(.int (2 : Int32)), (.int (0 : Int32))]))
  refine own_by (fun _ kz => XS.icmpNo X0.here hx rfl (hb hby d3_7) rfl (tlt (by decide : ((0 : Int32) < (2 : Int32)))).2.1 kz) ?_
  show own_Go p.tables e below s _ _ _ (s₁.setTop (mkF m 10 #[.val (.ref p0), .val (.ref p1), .val (.int (0 : Int32)), .val (.int (2 : Int32))] []))
  refine own_by (fun _ kz => XS.aloadN X0.here hx rfl (hb hby d3_10) rfl rfl kz) ?_
  show own_Go p.tables e below s _ _ _ (s₁.setTop (mkF m 11 #[.val (.ref p0), .val (.ref p1), .val (.int (0 : Int32)), .val (.int (2 : Int32))] [(.ref p0)]))
  refine own_by (fun _ kz => XS.iloadN X0.here hx rfl (hb hby d3_11) rfl kz) ?_
  show own_Go p.tables e below s _ _ _ (s₁.setTop (mkF m 12 #[.val (.ref p0), .val (.ref p1), .val (.int (0 : Int32)), .val (.int (2 : Int32))] [(.int (0 : Int32)), (.ref p0)]))
  refine own_by (fun _ kz => XS.aloadN X0.here hx rfl (hb hby d3_12) rfl rfl kz) ?_
  show own_Go p.tables e below s _ _ _ (s₁.setTop (mkF m 13 #[.val (.ref p0), .val (.ref p1), .val (.int (0 : Int32)), .val (.int (2 : Int32))] [(.ref p1), (.int (0 : Int32)), (.ref p0)]))
  obtain ⟨T2, h2, X2, e2, W2, st2⟩ := own_stA X0 hx hZ e0 V0 Ov0 (Ins.self E0) (j := (0 : Int32)) (by decide) (g := (mkF m 13 #[.val (.ref p0), .val (.ref p1), .val (.int (0 : Int32)), .val (.int (2 : Int32))] [(.ref p1), (.int (0 : Int32)), (.ref p0)])) rfl rfl (hb hby d3_13)
  have N2 := Fr.snoc X2 N0 ge0
  have K2 := K0.wr W2 (Or.inl (List.mem_of_getElem? (i := 0) rfl))
  have V2 : Arv Z h2 p0 kt (.array .int) (2 : Int32) [(.ref p1), .null] .null := own_set V0 rfl W2 (i := 0) rfl (Nat.le_of_ble_eq_true rfl)
  have Ez2 := E0.wr W2
  refine own_by st2 ?_
  show own_Go p.tables e below s _ _ _ (T2.setTop (mkF m 14 #[.val (.ref p0), .val (.ref p1), .val (.int (0 : Int32)), .val (.int (2 : Int32))] []))
  refine own_by (fun _ kz => XS.iinc X2.here hx rfl (hb hby d3_14) rfl (l' := #[.val (.ref p0), .val (.ref p1), .val (.int (1 : Int32)), .val (.int (2 : Int32))]) rfl kz) ?_
  show own_Go p.tables e below s _ _ _ (T2.setTop (mkF m 17 #[.val (.ref p0), .val (.ref p1), .val (.int (1 : Int32)), .val (.int (2 : Int32))] []))
  refine own_by (fun _ kz => XS.goto X2.here hx rfl (pc0 := 17) (pc' := 5) rfl (hb hby d3_17) (by decide) (by decide) kz) ?_
  show own_Go p.tables e below s _ _ _ (T2.setTop (mkF m 5 #[.val (.ref p0), .val (.ref p1), .val (.int (1 : Int32)), .val (.int (2 : Int32))] []))
  refine own_by (fun _ kz => XS.iloadN X2.here hx rfl (hb hby d3_5) rfl kz) ?_
  show own_Go p.tables e below s _ _ _ (T2.setTop (mkF m 6 #[.val (.ref p0), .val (.ref p1), .val (.int (1 : Int32)), .val (.int (2 : Int32))] [(.int (1 : Int32))]))
  refine own_by (fun _ kz => XS.iloadN X2.here hx rfl (hb hby d3_6) rfl kz) ?_
  show own_Go p.tables e below s _ _ _ (T2.setTop (mkF m 7 #[.val (.ref p0), .val (.ref p1), .val (.int (1 : Int32)), .val (.int (2 : Int32))] [(.int (2 : Int32)), (.int (1 : Int32))]))
  refine own_by (fun _ kz => XS.icmpNo X2.here hx rfl (hb hby d3_7) rfl (tlt (by decide : ((1 : Int32) < (2 : Int32)))).2.1 kz) ?_
  show own_Go p.tables e below s _ _ _ (T2.setTop (mkF m 10 #[.val (.ref p0), .val (.ref p1), .val (.int (1 : Int32)), .val (.int (2 : Int32))] []))
  refine own_by (fun _ kz => XS.aloadN X2.here hx rfl (hb hby d3_10) rfl rfl kz) ?_
  show own_Go p.tables e below s _ _ _ (T2.setTop (mkF m 11 #[.val (.ref p0), .val (.ref p1), .val (.int (1 : Int32)), .val (.int (2 : Int32))] [(.ref p0)]))
  refine own_by (fun _ kz => XS.iloadN X2.here hx rfl (hb hby d3_11) rfl kz) ?_
  show own_Go p.tables e below s _ _ _ (T2.setTop (mkF m 12 #[.val (.ref p0), .val (.ref p1), .val (.int (1 : Int32)), .val (.int (2 : Int32))] [(.int (1 : Int32)), (.ref p0)]))
  refine own_by (fun _ kz => XS.aloadN X2.here hx rfl (hb hby d3_12) rfl rfl kz) ?_
  show own_Go p.tables e below s _ _ _ (T2.setTop (mkF m 13 #[.val (.ref p0), .val (.ref p1), .val (.int (1 : Int32)), .val (.int (2 : Int32))] [(.ref p1), (.int (1 : Int32)), (.ref p0)]))
  obtain ⟨T3, h3, X3, e3, W3, st3⟩ := own_stA X2 hx hZ e2 V2 Ov0 (Ins.self Ez2) (j := (1 : Int32)) (by decide) (g := (mkF m 13 #[.val (.ref p0), .val (.ref p1), .val (.int (1 : Int32)), .val (.int (2 : Int32))] [(.ref p1), (.int (1 : Int32)), (.ref p0)])) rfl rfl (hb hby d3_13)
  have N3 := Fr.snoc X3 N2 ge0
  have K3 := K2.wr W3 (Or.inl (List.mem_of_getElem? (i := 0) rfl))
  have V3 : Arv Z h3 p0 kt (.array .int) (2 : Int32) [(.ref p1), (.ref p1)] .null := own_set V2 rfl W3 (i := 1) rfl (Nat.le_of_ble_eq_true rfl)
  have Ez3 := Ez2.wr W3
  refine own_by st3 ?_
  show own_Go p.tables e below s _ _ _ (T3.setTop (mkF m 14 #[.val (.ref p0), .val (.ref p1), .val (.int (1 : Int32)), .val (.int (2 : Int32))] []))
  refine own_by (fun _ kz => XS.iinc X3.here hx rfl (hb hby d3_14) rfl (l' := #[.val (.ref p0), .val (.ref p1), .val (.int (2 : Int32)), .val (.int (2 : Int32))]) rfl kz) ?_
  show own_Go p.tables e below s _ _ _ (T3.setTop (mkF m 17 #[.val (.ref p0), .val (.ref p1), .val (.int (2 : Int32)), .val (.int (2 : Int32))] []))
  refine own_by (fun _ kz => XS.goto X3.here hx rfl (pc0 := 17) (pc' := 5) rfl (hb hby d3_17) (by decide) (by decide) kz) ?_
  show own_Go p.tables e below s _ _ _ (T3.setTop (mkF m 5 #[.val (.ref p0), .val (.ref p1), .val (.int (2 : Int32)), .val (.int (2 : Int32))] []))
  refine own_by (fun _ kz => XS.iloadN X3.here hx rfl (hb hby d3_5) rfl kz) ?_
  show own_Go p.tables e below s _ _ _ (T3.setTop (mkF m 6 #[.val (.ref p0), .val (.ref p1), .val (.int (2 : Int32)), .val (.int (2 : Int32))] [(.int (2 : Int32))]))
  refine own_by (fun _ kz => XS.iloadN X3.here hx rfl (hb hby d3_6) rfl kz) ?_
  show own_Go p.tables e below s _ _ _ (T3.setTop (mkF m 7 #[.val (.ref p0), .val (.ref p1), .val (.int (2 : Int32)), .val (.int (2 : Int32))] [(.int (2 : Int32)), (.int (2 : Int32))]))
  refine own_by (fun _ kz => XS.icmpYes X3.here hx rfl (pc0 := 7) (pc' := 20) rfl (hb hby d3_7) rfl (flt (by decide : ¬ ((2 : Int32) < (2 : Int32)))).2.1 (by decide) (by decide) kz) ?_
  show own_Go p.tables e below s _ _ _ (T3.setTop (mkF m 20 #[.val (.ref p0), .val (.ref p1), .val (.int (2 : Int32)), .val (.int (2 : Int32))] []))
  exact own_retV X3 hx hlk Bd.returns (hb hby d3_20) (by decide) (by decide) ⟨rfl, N3, by rw [e3]; exact K3, by rw [e3]; exact V3⟩
theorem d1_0 : decode prog_50_method_1_code 0 = .ok (.aload_n 0, 1) := by decide +kernel
theorem d1_1 : decode prog_50_method_1_code 1 = .ok (.invokespecial 1, 3) := by decide +kernel
theorem d1_4 : decode prog_50_method_1_code 4 = .ok (.aload_n 0, 1) := by decide +kernel
theorem d1_5 : decode prog_50_method_1_code 5 = .ok (.iload_n 1, 1) := by decide +kernel
theorem d1_6 : decode prog_50_method_1_code 6 = .ok (.anewarray 7, 3) := by decide +kernel
theorem d1_9 : decode prog_50_method_1_code 9 = .ok (.putfield 9, 3) := by decide +kernel
theorem d1_12 : decode prog_50_method_1_code 12 = .ok (.aload_n 0, 1) := by decide +kernel
theorem d1_13 : decode prog_50_method_1_code 13 = .ok (.getfield 9, 3) := by decide +kernel
theorem d1_16 : decode prog_50_method_1_code 16 = .ok (.getstatic 15, 3) := by decide +kernel
theorem d1_19 : decode prog_50_method_1_code 19 = .ok (.invokestatic 18, 3) := by decide +kernel
theorem d1_22 : decode prog_50_method_1_code 22 = .ok (.aload_n 0, 1) := by decide +kernel
theorem d1_23 : decode prog_50_method_1_code 23 = .ok (.iload_n 1, 1) := by decide +kernel
theorem d1_24 : decode prog_50_method_1_code 24 = .ok (.newarray .int, 2) := by decide +kernel
theorem d1_26 : decode prog_50_method_1_code 26 = .ok (.putfield 24, 3) := by decide +kernel
theorem d1_29 : decode prog_50_method_1_code 29 = .ok (.aload_n 0, 1) := by decide +kernel
theorem d1_30 : decode prog_50_method_1_code 30 = .ok (.iload_n 1, 1) := by decide +kernel
theorem d1_31 : decode prog_50_method_1_code 31 = .ok (.newarray .int, 2) := by decide +kernel
theorem d1_33 : decode prog_50_method_1_code 33 = .ok (.putfield 27, 3) := by decide +kernel
theorem d1_36 : decode prog_50_method_1_code 36 = .ok (.return_, 1) := by decide +kernel
theorem pf_1 : plainFor (⟨"cyclebreak/collector/ReferenceTable", "<init>", "(I)V"⟩ : MethodName) = true := by first | exact plainFor_of_name (by first | (simp [plainName, overriddenIn]; done) | decide +kernel) | decide +kernel
theorem pd_1 : parseMethodDescriptor "(I)V" = some ⟨[.int], none⟩ := by decide +kernel
theorem ef_1 (m : MethodId) (p0 : Addr) : entryFrame m #[(.ref p0), (.int (2 : Int32))] 2 = mkF m 0 #[.val (.ref p0), .val (.int (2 : Int32))] [] := by first | (simp [entryFrame, mkF, argsToLocals, Value.category]; done) | rfl
def Q1 (Z : State) (p0 : Addr) (N : Addr) (h0 : Heap) (n0 : Nat) (v : Option Value) (h : Heap) (L : List Loc) : Prop := ∃ t c f : Addr, v = none ∧ Fr n0 L ∧ n0 ≤ h.size ∧ own_Tab Z n0 N p0 t c f 0 h N N 0 0 0 0 [0, 0, 0, 0] [0, 0, 0, 0]
set_option maxRecDepth 65536 in
set_option maxHeartbeats 40000000 in
theorem rm1 (l : Launch) (Z : State) (a0 : Array Value) (hw : ∀ d ∈ tables_1, d.before a0 Z = true) (ws : List Jvm.Cond) (p0 : Addr) (h0 : Heap) (n0 : Nat) (Z0 : n0 ≤ h0.size) (N : Addr) (kN : ClassId) (O0 : Old Z n0 h0) (SN : Sta Z Z.heap "cyclebreak/collector/ReferenceTable" "NONE" "[I" (.ref N)) (EN : Exa Z Z.heap N "[I") (VN : Arv Z Z.heap N kN .int 0 [] (.int (0 : Int32))) (hN : N < n0) (Ex0 : Exa Z h0 p0 "cyclebreak/collector/ReferenceTable") (Fatargets : Fld Z h0 p0 "cyclebreak/collector/ReferenceTable" "targets" "[[I" .null) (Facounts : Fld Z h0 p0 "cyclebreak/collector/ReferenceTable" "counts" "[I" .null) (Fafixed : Fld Z h0 p0 "cyclebreak/collector/ReferenceTable" "fixed" "[I" .null) (ge0 : n0 ≤ p0) :
    own_Met l Z (⟨"cyclebreak/collector/ReferenceTable", "<init>", "(I)V"⟩ : MethodName) prog_50_method_1_code 2 none ws ({ frames := 1, cells := 3, slots := 6, locals := 24 } : Room) #[(.ref p0), (.int (2 : Int32))] h0 (Q1 Z p0 N h0 n0) := by
  refine MetFree.of_bodySF pf_1 hisR ?_
  intro p e s m args below meth c s₁ Bd hml0 hP hK
  obtain ⟨rfl, hZ, hh⟩ := hP
  have hx := Bd.exec
  have hby := Bd.bytes
  have hlk : meth.locks = false := BodyLoose.notSynchronized Bd
  have hml : c.maxLocals = 2 := hml0
  have hown : s.vm.findClass "cyclebreak/collector/ReferenceTable" = some m.cls := findClass_of_methodNamed Bd.named
  have hnm := (name_of_methodNamed Bd.named Bd.method).1
  have X0 : Stand p l e ({ frames := 1, cells := 3, slots := 6, locals := 24 } : Room) s m #[(.ref p0), (.int (2 : Int32))] below meth c s₁ [] 0 0 := Stand.of_body Bd
  have e0 : s₁.heap = h0 := by rw [← hh, Bd.state]; rfl
  have N0 := Fr.nil n0
  show own_Go p.tables e below s (Q1 Z p0 N h0 n0) ({ frames := 1, cells := 3, slots := 6, locals := 24 } : Room).cells ({ frames := 1, cells := 3, slots := 6, locals := 24 } : Room).slots _
  refine own_by (fun _ k => castTop (ef_1 m p0) k) ?_
  show own_Go p.tables e below s _ _ _ (s₁.setTop (mkF m 0 #[.val (.ref p0), .val (.int (2 : Int32))] []))
  refine own_by (fun _ kz => XS.aloadN X0.here hx rfl (hb hby d1_0) rfl rfl kz) ?_
  show own_Go p.tables e below s _ _ _ (s₁.setTop (mkF m 1 #[.val (.ref p0), .val (.int (2 : Int32))] [(.ref p0)]))
  obtain ⟨T1, X1, e1, st1⟩ := initO X0 hx hZ hown (hw _ (List.mem_of_getElem? (i := 6) rfl)) (hw _ (List.mem_of_getElem? (i := 7) rfl)) (hw _ (List.mem_of_getElem? (i := 8) rfl)) e0 (g := (mkF m 1 #[.val (.ref p0), .val (.int (2 : Int32))] [(.ref p0)])) rfl (by rw [hml]; rfl) rfl (hb hby d1_1) (by decide) (W := 0) (by show 2 * 0 + _ ≤ _; exact Nat.le_of_eq rfl) (by decide)
  refine own_by st1 ?_
  show own_Go p.tables e below s _ _ _ (T1.setTop (mkF m 4 #[.val (.ref p0), .val (.int (2 : Int32))] []))
  refine own_by (fun _ kz => XS.aloadN X1.here hx rfl (hb hby d1_4) rfl rfl kz) ?_
  show own_Go p.tables e below s _ _ _ (T1.setTop (mkF m 5 #[.val (.ref p0), .val (.int (2 : Int32))] [(.ref p0)]))
  refine own_by (fun _ kz => XS.iloadN X1.here hx rfl (hb hby d1_5) rfl kz) ?_
  show own_Go p.tables e below s _ _ _ (T1.setTop (mkF m 6 #[.val (.ref p0), .val (.int (2 : Int32))] [(.int (2 : Int32)), (.ref p0)]))
  obtain ⟨T2, h2, k2, X2, e2, E2, A2, Ex2, Ov2, st2⟩ := newRA X1 hx hZ hown (ty := .int) rfl (hw _ (List.mem_of_getElem? (i := 9) rfl)) (hw _ (List.mem_of_getElem? (i := 10) rfl)) e1 (g := (mkF m 6 #[.val (.ref p0), .val (.int (2 : Int32))] [(.int (2 : Int32)), (.ref p0)])) rfl (hb hby d1_6) rfl (by decide) (cap := 2) (by decide) (by decide) (by decide) (by decide) rfl
  obtain ⟨b2, g2⟩ : ∃ z, z = h0.size := ⟨_, rfl⟩
  rw [← g2] at A2 st2
  have ge_b2 : n0 ≤ b2 := Nat.le_trans Z0 (Nat.le_of_eq g2.symm)
  have ne_p0_b2 : p0 ≠ b2 := by rw [g2]; exact Nat.ne_of_lt Ex0.lt
  have Z2 : n0 ≤ h2.size := Nat.le_trans Z0 E2.1
  have O2 := O0.ext E2
  have Ex0_h2 := Ex0.ext E2
  have Fatargets_h2 := Fatargets.ext E2
  have Facounts_h2 := Facounts.ext E2
  have Fafixed_h2 := Fafixed.ext E2
  have V2 : Arv Z h2 b2 k2 (.array .int) (2 : Int32) [.null, .null] .null := (Arv.new A2 (by decide)).pad (fun i => pad_rep [] _ 2 i)
  refine own_by st2 ?_
  show own_Go p.tables e below s _ _ _ (T2.setTop (mkF m 9 #[.val (.ref p0), .val (.int (2 : Int32))] [(.ref b2), (.ref p0)]))
  obtain ⟨T3, h3, X3, e3, W3, st3⟩ := putF X2 hx hZ hown (host := "") (Or.inl (hw _ (List.mem_of_getElem? (i := 11) rfl))) Via.refl e2 Fatargets_h2 Ex0_h2 (Or.inr ⟨ (hw _ (List.mem_of_getElem? (i := 12) rfl)), rfl, hnm⟩) (hw _ (List.mem_of_getElem? (i := 1) rfl)) (ty := (.array (.array .int))) (by decide) rfl rfl (g := (mkF m 9 #[.val (.ref p0), .val (.int (2 : Int32))] [(.ref b2), (.ref p0)])) rfl rfl (hb hby d1_9)
  have N3 := Fr.snoc X3 N0 ge0
  have Z3 : n0 ≤ h3.size := by rw [W3.size]; exact Z2
  have O3 := O2.wr W3 ge0
  have Ex0_h3 := Ex0_h2.wr W3
  have Fatargets_h3 := Fatargets_h2.same W3
  have Facounts_h3 := Facounts_h2.other W3 (Or.inr (slot_ne (Or.inr (hw _ (List.mem_of_getElem? (i := 22) rfl))) (Or.inr (hw _ (List.mem_of_getElem? (i := 12) rfl))) (by decide) (by decide : parseFieldDescriptor "[I" = some (.array .int)) (by decide : parseFieldDescriptor "[[I" = some (.array (.array .int)))))
  have Fafixed_h3 := Fafixed_h2.other W3 (Or.inr (slot_ne (Or.inr (hw _ (List.mem_of_getElem? (i := 24) rfl))) (Or.inr (hw _ (List.mem_of_getElem? (i := 12) rfl))) (by decide) (by decide : parseFieldDescriptor "[I" = some (.array .int)) (by decide : parseFieldDescriptor "[[I" = some (.array (.array .int)))))
  have V2_h3 := V2.other W3 (Ne.symm ne_p0_b2)
  refine own_by st3 ?_
  show own_Go p.tables e below s _ _ _ (T3.setTop (mkF m 12 #[.val (.ref p0), .val (.int (2 : Int32))] []))
  refine own_by (fun _ kz => XS.aloadN X3.here hx rfl (hb hby d1_12) rfl rfl kz) ?_
  show own_Go p.tables e below s _ _ _ (T3.setTop (mkF m 13 #[.val (.ref p0), .val (.int (2 : Int32))] [(.ref p0)]))
  obtain ⟨T4, X4, e4, st4⟩ := getF X3 hx hZ hown (host := "") (Or.inl (hw _ (List.mem_of_getElem? (i := 11) rfl))) Via.refl e3 Fatargets_h3 (g := (mkF m 13 #[.val (.ref p0), .val (.int (2 : Int32))] [(.ref p0)])) rfl rfl (hb hby d1_13)
  refine own_by st4 ?_
  show own_Go p.tables e below s _ _ _ (T4.setTop (mkF m 16 #[.val (.ref p0), .val (.int (2 : Int32))] [(.ref b2)]))
  obtain ⟨T5, X5, e5, st5⟩ := getS2 X4 hx hZ hown (host := "") (Or.inl (hw _ (List.mem_of_getElem? (i := 13) rfl))) Via.refl e4 (SN.ext O3.2) (g := (mkF m 16 #[.val (.ref p0), .val (.int (2 : Int32))] [(.ref b2)])) rfl (hb hby d1_16)
  refine own_by st5 ?_
  show own_Go p.tables e below s _ _ _ (T5.setTop (mkF m 19 #[.val (.ref p0), .val (.int (2 : Int32))] [(.ref N), (.ref b2)]))
  obtain ⟨v6, T6, L6, X6, q6, st6⟩ := own_callS X5 hx hZ hown (hw _ (List.mem_of_getElem? (i := 15) rfl)) (hw _ (List.mem_of_getElem? (i := 16) rfl)) (hw _ (List.mem_of_getElem? (i := 17) rfl)) (hw _ (List.mem_of_getElem? (i := 18) rfl)) (by decide) (rm3 l Z a0 hw [] b2 N h3 n0 Z3 k2 Ov2 V2_h3 (EN.ext O3.2) ge_b2) (W := 0) (by decide) (by decide) e5 (g := (mkF m 19 #[.val (.ref p0), .val (.int (2 : Int32))] [(.ref N), (.ref b2)])) rfl (by rw [hml]; rfl) (argsL := [(.ref b2), (.ref N)]) (rest := []) (lenOf pd_3 rfl) rfl rfl (by show 2 * 0 + _ ≤ _; exact Nat.le_of_eq rfl) (hb hby d1_19) (by decide) (by decide)
  obtain ⟨rfl, Nq6, Kq6, Vq6⟩ := q6
  have N6 := Fr.app N3 Nq6
  have Z6 : n0 ≤ T6.heap.size := Nat.le_trans Z3 Kq6.1
  have O6 := O3.keep Kq6 (allS ge_b2 all0)
  have Ex0_h6 := Ex0_h3.keep Kq6
  have Fatargets_h6 := Fatargets_h3.keep Kq6 (ninS ne_p0_b2 nin0)
  have Facounts_h6 := Facounts_h3.keep Kq6 (ninS ne_p0_b2 nin0)
  have Fafixed_h6 := Fafixed_h3.keep Kq6 (ninS ne_p0_b2 nin0)
  refine own_by st6 ?_
  show own_Go p.tables e below s _ _ _ (T6.setTop (mkF m 22 #[.val (.ref p0), .val (.int (2 : Int32))] []))
  refine own_by (fun _ kz => XS.aloadN X6.here hx rfl (hb hby d1_22) rfl rfl kz) ?_
  show own_Go p.tables e below s _ _ _ (T6.setTop (mkF m 23 #[.val (.ref p0), .val (.int (2 : Int32))] [(.ref p0)]))
  refine own_by (fun _ kz => XS.iloadN X6.here hx rfl (hb hby d1_23) rfl kz) ?_
  show own_Go p.tables e below s _ _ _ (T6.setTop (mkF m 24 #[.val (.ref p0), .val (.int (2 : Int32))] [(.int (2 : Int32)), (.ref p0)]))
  obtain ⟨T7, h7, k7, X7, e7, E7, A7, st7⟩ := newP X6 hx hZ (hw _ (List.mem_of_getElem? (i := 20) rfl)) rfl (g := (mkF m 24 #[.val (.ref p0), .val (.int (2 : Int32))] [(.int (2 : Int32)), (.ref p0)])) rfl (hb hby d1_24) rfl (by decide) (cap := 2) (by decide) (by decide) (by decide) (by decide)
  obtain ⟨b7, g7⟩ : ∃ z, z = T6.heap.size := ⟨_, rfl⟩
  rw [← g7] at A7 st7
  have ge_b7 : n0 ≤ b7 := Nat.le_trans Z6 (Nat.le_of_eq g7.symm)
  have ne_p0_b7 : p0 ≠ b7 := by rw [g7]; exact Nat.ne_of_lt Ex0_h6.lt
  have ne_b2_b7 : b2 ≠ b7 := by rw [g7]; exact Nat.ne_of_lt Vq6.lt
  have Z7 : n0 ≤ h7.size := Nat.le_trans Z6 E7.1
  have O7 := O6.ext E7
  have Ex0_h7 := Ex0_h6.ext E7
  have Fatargets_h7 := Fatargets_h6.ext E7
  have Facounts_h7 := Facounts_h6.ext E7
  have Fafixed_h7 := Fafixed_h6.ext E7
  have Vq6_h7 := Vq6.ext E7
  have V7 : Arv Z h7 b7 k7 .int (2 : Int32) [(.int (0 : Int32)), (.int (0 : Int32))] (.int (0 : Int32)) := (Arv.new A7 (by decide)).pad (fun i => pad_rep [] _ 2 i)
  refine own_by st7 ?_
  show own_Go p.tables e below s _ _ _ (T7.setTop (mkF m 26 #[.val (.ref p0), .val (.int (2 : Int32))] [(.ref b7), (.ref p0)]))
  obtain ⟨T8, h8, X8, e8, W8, st8⟩ := putF X7 hx hZ hown (host := "") (Or.inl (hw _ (List.mem_of_getElem? (i := 21) rfl))) Via.refl e7 Facounts_h7 Ex0_h7 (Or.inr ⟨ (hw _ (List.mem_of_getElem? (i := 22) rfl)), rfl, hnm⟩) (hw _ (List.mem_of_getElem? (i := 1) rfl)) (ty := (.array .int)) (by decide) rfl rfl (g := (mkF m 26 #[.val (.ref p0), .val (.int (2 : Int32))] [(.ref b7), (.ref p0)])) rfl rfl (hb hby d1_26)
  have N8 := Fr.snoc X8 N6 ge0
  have Z8 : n0 ≤ h8.size := by rw [W8.size]; exact Z7
  have O8 := O7.wr W8 ge0
  have Ex0_h8 := Ex0_h7.wr W8
  have Fatargets_h8 := Fatargets_h7.other W8 (Or.inr (slot_ne (Or.inr (hw _ (List.mem_of_getElem? (i := 12) rfl))) (Or.inr (hw _ (List.mem_of_getElem? (i := 22) rfl))) (by decide) (by decide : parseFieldDescriptor "[[I" = some (.array (.array .int))) (by decide : parseFieldDescriptor "[I" = some (.array .int))))
  have Facounts_h8 := Facounts_h7.same W8
  have Fafixed_h8 := Fafixed_h7.other W8 (Or.inr (slot_ne (Or.inr (hw _ (List.mem_of_getElem? (i := 24) rfl))) (Or.inr (hw _ (List.mem_of_getElem? (i := 22) rfl))) (by decide) (by decide : parseFieldDescriptor "[I" = some (.array .int)) (by decide : parseFieldDescriptor "[I" = some (.array .int))))
  have Vq6_h8 := Vq6_h7.other W8 (Ne.symm ne_p0_b2)
  have V7_h8 := V7.other W8 (Ne.symm ne_p0_b7)
  refine own_by st8 ?_
  show own_Go p.tables e below s _ _ _ (T8.setTop (mkF m 29 #[.val (.ref p0), .val (.int (2 : Int32))] []))
  refine own_by (fun _ kz => XS.aloadN X8.here hx rfl (hb hby d1_29) rfl rfl kz) ?_
  show own_Go p.tables e below s _ _ _ (T8.setTop (mkF m 30 #[.val (.ref p0), .val (.int (2 : Int32))] [(.ref p0)]))
  refine own_by (fun _ kz => XS.iloadN X8.here hx rfl (hb hby d1_30) rfl kz) ?_
  show own_Go p.tables e below s _ _ _ (T8.setTop (mkF m 31 #[.val (.ref p0), .val (.int (2 : Int32))] [(.int (2 : Int32)), (.ref p0)]))
  obtain ⟨T9, h9, k9, X9, e9, E9, A9, st9⟩ := newP X8 hx hZ (hw _ (List.mem_of_getElem? (i := 20) rfl)) e8 (g := (mkF m 31 #[.val (.ref p0), .val (.int (2 : Int32))] [(.int (2 : Int32)), (.ref p0)])) rfl (hb hby d1_31) rfl (by decide) (cap := 2) (by decide) (by decide) (by decide) (by decide)
  obtain ⟨b9, g9⟩ : ∃ z, z = h8.size := ⟨_, rfl⟩
  rw [← g9] at A9 st9
  have ge_b9 : n0 ≤ b9 := Nat.le_trans Z8 (Nat.le_of_eq g9.symm)
  have ne_p0_b9 : p0 ≠ b9 := by rw [g9]; exact Nat.ne_of_lt Ex0_h8.lt
  have ne_b2_b9 : b2 ≠ b9 := by rw [g9]; exact Nat.ne_of_lt Vq6_h8.lt
  have ne_b7_b9 : b7 ≠ b9 := by rw [g9]; exact Nat.ne_of_lt V7_h8.lt
  have Z9 : n0 ≤ h9.size := Nat.le_trans Z8 E9.1
  have O9 := O8.ext E9
  have Ex0_h9 := Ex0_h8.ext E9
  have Fatargets_h9 := Fatargets_h8.ext E9
  have Facounts_h9 := Facounts_h8.ext E9
  have Fafixed_h9 := Fafixed_h8.ext E9
  have Vq6_h9 := Vq6_h8.ext E9
  have V7_h9 := V7_h8.ext E9
  have V9 : Arv Z h9 b9 k9 .int (2 : Int32) [(.int (0 : Int32)), (.int (0 : Int32))] (.int (0 : Int32)) := (Arv.new A9 (by decide)).pad (fun i => pad_rep [] _ 2 i)
  refine own_by st9 ?_
  show own_Go p.tables e below s _ _ _ (T9.setTop (mkF m 33 #[.val (.ref p0), .val (.int (2 : Int32))] [(.ref b9), (.ref p0)]))
  obtain ⟨T10, h10, X10, e10, W10, st10⟩ := putF X9 hx hZ hown (host := "") (Or.inl (hw _ (List.mem_of_getElem? (i := 23) rfl))) Via.refl e9 Fafixed_h9 Ex0_h9 (Or.inr ⟨ (hw _ (List.mem_of_getElem? (i := 24) rfl)), rfl, hnm⟩) (hw _ (List.mem_of_getElem? (i := 1) rfl)) (ty := (.array .int)) (by decide) rfl rfl (g := (mkF m 33 #[.val (.ref p0), .val (.int (2 : Int32))] [(.ref b9), (.ref p0)])) rfl rfl (hb hby d1_33)
  have N10 := Fr.snoc X10 N8 ge0
  have Z10 : n0 ≤ h10.size := by rw [W10.size]; exact Z9
  have O10 := O9.wr W10 ge0
  have Ex0_h10 := Ex0_h9.wr W10
  have Fatargets_h10 := Fatargets_h9.other W10 (Or.inr (slot_ne (Or.inr (hw _ (List.mem_of_getElem? (i := 12) rfl))) (Or.inr (hw _ (List.mem_of_getElem? (i := 24) rfl))) (by decide) (by decide : parseFieldDescriptor "[[I" = some (.array (.array .int))) (by decide : parseFieldDescriptor "[I" = some (.array .int))))
  have Facounts_h10 := Facounts_h9.other W10 (Or.inr (slot_ne (Or.inr (hw _ (List.mem_of_getElem? (i := 22) rfl))) (Or.inr (hw _ (List.mem_of_getElem? (i := 24) rfl))) (by decide) (by decide : parseFieldDescriptor "[I" = some (.array .int)) (by decide : parseFieldDescriptor "[I" = some (.array .int))))
  have Fafixed_h10 := Fafixed_h9.same W10
  have Vq6_h10 := Vq6_h9.other W10 (Ne.symm ne_p0_b2)
  have V7_h10 := V7_h9.other W10 (Ne.symm ne_p0_b7)
  have V9_h10 := V9.other W10 (Ne.symm ne_p0_b9)
  refine own_by st10 ?_
  show own_Go p.tables e below s _ _ _ (T10.setTop (mkF m 36 #[.val (.ref p0), .val (.int (2 : Int32))] []))
  have Bs : own_Base Z n0 N p0 b2 b7 b9 h10 := ⟨⟨ge0, ge_b2, ge_b7, ge_b9, hN⟩, ⟨ne_p0_b2, ne_p0_b7, ne_p0_b9, ne_b2_b7, ne_b2_b9, ne_b7_b9⟩, Ex0_h10, Fatargets_h10, Facounts_h10, Fafixed_h10, kN, VN.ext O10.2⟩
  have Tb : own_Tab Z n0 N p0 b2 b7 b9 0 h10 N N 0 0 0 0 [0, 0, 0, 0] [0, 0, 0, 0] := ⟨Bs, ⟨_, Ov2, Vq6_h10⟩, ⟨_, V7_h10⟩, ⟨_, V9_h10⟩, Or.inl ⟨rfl, rfl, rfl⟩, Or.inl ⟨rfl, rfl, rfl⟩, fun q => absurd hN (Nat.not_lt.mpr q)⟩
  exact own_retV X10 hx hlk Bd.returns (hb hby d1_36) (by decide) (by decide) ⟨_, _, _, rfl, N10, by rw [e10]; exact Z10, by rw [e10]; exact Tb⟩
theorem d5_0 : decode prog_50_method_4_code 0 = .ok (.aload_n 0, 1) := by decide +kernel
theorem d5_1 : decode prog_50_method_4_code 1 = .ok (.getfield 24, 3) := by decide +kernel
theorem d5_4 : decode prog_50_method_4_code 4 = .ok (.iload_n 1, 1) := by decide +kernel
theorem d5_5 : decode prog_50_method_4_code 5 = .ok (.iaload, 1) := by decide +kernel
theorem d5_6 : decode prog_50_method_4_code 6 = .ok (.istore_n 2, 1) := by decide +kernel
theorem d5_7 : decode prog_50_method_4_code 7 = .ok (.iload_n 2, 1) := by decide +kernel
theorem d5_8 : decode prog_50_method_4_code 8 = .ok (.aload_n 0, 1) := by decide +kernel
theorem d5_9 : decode prog_50_method_4_code 9 = .ok (.getfield 9, 3) := by decide +kernel
theorem d5_12 : decode prog_50_method_4_code 12 = .ok (.iload_n 1, 1) := by decide +kernel
theorem d5_13 : decode prog_50_method_4_code 13 = .ok (.aaload, 1) := by decide +kernel
theorem d5_14 : decode prog_50_method_4_code 14 = .ok (.arraylength, 1) := by decide +kernel
theorem d5_15 : decode prog_50_method_4_code 15 = .ok (.if_icmp .ne 25, 3) := by decide +kernel
theorem d5_18 : decode prog_50_method_4_code 18 = .ok (.aload_n 0, 1) := by decide +kernel
theorem d5_19 : decode prog_50_method_4_code 19 = .ok (.getfield 9, 3) := by decide +kernel
theorem d5_22 : decode prog_50_method_4_code 22 = .ok (.iload_n 1, 1) := by decide +kernel
theorem d5_23 : decode prog_50_method_4_code 23 = .ok (.aload_n 0, 1) := by decide +kernel
theorem d5_24 : decode prog_50_method_4_code 24 = .ok (.getfield 9, 3) := by decide +kernel
theorem d5_27 : decode prog_50_method_4_code 27 = .ok (.iload_n 1, 1) := by decide +kernel
theorem d5_28 : decode prog_50_method_4_code 28 = .ok (.aaload, 1) := by decide +kernel
theorem d5_29 : decode prog_50_method_4_code 29 = .ok (.iconst 4, 1) := by decide +kernel
theorem d5_30 : decode prog_50_method_4_code 30 = .ok (.iconst 2, 1) := by decide +kernel
theorem d5_31 : decode prog_50_method_4_code 31 = .ok (.iload_n 2, 1) := by decide +kernel
theorem d5_32 : decode prog_50_method_4_code 32 = .ok (.imul, 1) := by decide +kernel
theorem d5_33 : decode prog_50_method_4_code 33 = .ok (.invokestatic 34, 3) := by decide +kernel
theorem d5_36 : decode prog_50_method_4_code 36 = .ok (.invokestatic 40, 3) := by decide +kernel
theorem d5_39 : decode prog_50_method_4_code 39 = .ok (.aastore, 1) := by decide +kernel
theorem d5_40 : decode prog_50_method_4_code 40 = .ok (.iload_n 2, 1) := by decide +kernel
theorem d5_41 : decode prog_50_method_4_code 41 = .ok (.ireturn, 1) := by decide +kernel
theorem pf_5 : plainFor (⟨"cyclebreak/collector/ReferenceTable", "grow", "(I)I"⟩ : MethodName) = true := by first | exact plainFor_of_name (by first | (simp [plainName, overriddenIn]; done) | decide +kernel) | decide +kernel
theorem pd_5 : parseMethodDescriptor "(I)I" = some ⟨[.int], some .int⟩ := by decide +kernel
theorem ef_5 (m : MethodId) (p0 : Addr) (i : Int32) : entryFrame m #[(.ref p0), (.int i)] 3 = mkF m 0 #[.val (.ref p0), .val (.int i), .unset] [] := by first | (simp [entryFrame, mkF, argsToLocals, Value.category]; done) | rfl
def Q5 (Z : State) (p0 : Addr) (i : Int32) (N : Addr) (ta : Addr) (ca : Addr) (fa : Addr) (r2 : Addr) (k : Nat) (k2 : Nat) (x : Nat) (x2 : Nat) (vs : List Int32) (us : List Int32) (h0 : Heap) (n0 : Nat) (v : Option Value) (h : Heap) (L : List Loc) : Prop := v = some (.int (own_i k)) ∧ Fr n0 L ∧ n0 ≤ h.size ∧ ∃ r3, own_Full Z n0 p0 ta ca fa h r3 vs ∧ own_Tab Z n0 N p0 ta ca fa i h r3 r2 k k2 x x2 vs us
set_option maxRecDepth 65536 in
set_option maxHeartbeats 40000000 in
theorem rm5 (l : Launch) (Z : State) (a0 : Array Value) (hw : ∀ d ∈ tables_1, d.before a0 Z = true) (ws : List Jvm.Cond) (p0 : Addr) (i : Int32) (h0 : Heap) (n0 : Nat) (Z0 : n0 ≤ h0.size) (N ta ca fa r r2 : Addr) (k k2 x x2 : Nat) (vs us : List Int32) (hi : i = 0 ∨ i = 1) (TB0 : own_Tab Z n0 N p0 ta ca fa i h0 r r2 k k2 x x2 vs us) (hk : k < 4) :
    own_Met l Z (⟨"cyclebreak/collector/ReferenceTable", "grow", "(I)I"⟩ : MethodName) prog_50_method_4_code 3 (some .int) ws ({ frames := 2, cells := 1, slots := 4, locals := 64 } : Room) #[(.ref p0), (.int i)] h0 (Q5 Z p0 i N ta ca fa r2 k k2 x x2 vs us h0 n0) := by
  refine MetFree.of_bodySF pf_5 hisR ?_
  intro p e s m args below meth c s₁ Bd hml0 hP hK
  obtain ⟨rfl, hZ, hh⟩ := hP
  have hx := Bd.exec
  have hby := Bd.bytes
  have hlk : meth.locks = false := BodyLoose.notSynchronized Bd
  have hml : c.maxLocals = 3 := hml0
  have hown : s.vm.findClass "cyclebreak/collector/ReferenceTable" = some m.cls := findClass_of_methodNamed Bd.named
  have hnm := (name_of_methodNamed Bd.named Bd.method).1
  have X0 : Stand p l e ({ frames := 2, cells := 1, slots := 4, locals := 64 } : Room) s m #[(.ref p0), (.int i)] below meth c s₁ [] 0 0 := Stand.of_body Bd
  have e0 : s₁.heap = h0 := by rw [← hh, Bd.state]; rfl
  have N0 := Fr.nil n0
  show own_Go p.tables e below s (Q5 Z p0 i N ta ca fa r2 k k2 x x2 vs us h0 n0) ({ frames := 2, cells := 1, slots := 4, locals := 64 } : Room).cells ({ frames := 2, cells := 1, slots := 4, locals := 64 } : Room).slots _
  refine own_by (fun _ k => castTop (ef_5 m p0 i) k) ?_
  show own_Go p.tables e below s _ _ _ (s₁.setTop (mkF m 0 #[.val (.ref p0), .val (.int i), .unset] []))
  refine own_by (fun _ kz => XS.aloadN X0.here hx rfl (hb hby d5_0) rfl rfl kz) ?_
  show own_Go p.tables e below s _ _ _ (s₁.setTop (mkF m 1 #[.val (.ref p0), .val (.int i), .unset] [(.ref p0)]))
  obtain ⟨T1, X1, e1, st1⟩ := getF X0 hx hZ hown (host := "") (Or.inl (hw _ (List.mem_of_getElem? (i := 21) rfl))) Via.refl e0 TB0.fC (g := (mkF m 1 #[.val (.ref p0), .val (.int i), .unset] [(.ref p0)])) rfl rfl (hb hby d5_1)
  refine own_by st1 ?_
  show own_Go p.tables e below s _ _ _ (T1.setTop (mkF m 4 #[.val (.ref p0), .val (.int i), .unset] [(.ref ca)]))
  refine own_by (fun _ kz => XS.iloadN X1.here hx rfl (hb hby d5_4) rfl kz) ?_
  show own_Go p.tables e below s _ _ _ (T1.setTop (mkF m 5 #[.val (.ref p0), .val (.int i), .unset] [(.int i), (.ref ca)]))
  obtain ⟨kc2, Vc2⟩ := TB0.2.2.1
  refine own_by (fun _ kz => own_ld X1 hx hZ e1 Vc2 (own_i01 hi) (own_pr_get hi _ _ _) (g := (mkF m 5 #[.val (.ref p0), .val (.int i), .unset] [(.int i), (.ref ca)])) rfl rfl (hb hby d5_5) _ kz) ?_
  show own_Go p.tables e below s _ _ _ (T1.setTop (mkF m 6 #[.val (.ref p0), .val (.int i), .unset] [(.int (own_i k))]))
  refine own_by (fun _ kz => XS.istoreN X1.here hx rfl (hb hby d5_6) rfl (l' := #[.val (.ref p0), .val (.int i), .val (.int (own_i k))]) rfl kz) ?_
  show own_Go p.tables e below s _ _ _ (T1.setTop (mkF m 7 #[.val (.ref p0), .val (.int i), .val (.int (own_i k))] []))
  refine own_by (fun _ kz => XS.iloadN X1.here hx rfl (hb hby d5_7) rfl kz) ?_
  show own_Go p.tables e below s _ _ _ (T1.setTop (mkF m 8 #[.val (.ref p0), .val (.int i), .val (.int (own_i k))] [(.int (own_i k))]))
  refine own_by (fun _ kz => XS.aloadN X1.here hx rfl (hb hby d5_8) rfl rfl kz) ?_
  show own_Go p.tables e below s _ _ _ (T1.setTop (mkF m 9 #[.val (.ref p0), .val (.int i), .val (.int (own_i k))] [(.ref p0), (.int (own_i k))]))
  obtain ⟨T3, X3, e3, st3⟩ := getF X1 hx hZ hown (host := "") (Or.inl (hw _ (List.mem_of_getElem? (i := 11) rfl))) Via.refl e1 TB0.fT (g := (mkF m 9 #[.val (.ref p0), .val (.int i), .val (.int (own_i k))] [(.ref p0), (.int (own_i k))])) rfl rfl (hb hby d5_9)
  refine own_by st3 ?_
  show own_Go p.tables e below s _ _ _ (T3.setTop (mkF m 12 #[.val (.ref p0), .val (.int i), .val (.int (own_i k))] [(.ref ta), (.int (own_i k))]))
  refine own_by (fun _ kz => XS.iloadN X3.here hx rfl (hb hby d5_12) rfl kz) ?_
  show own_Go p.tables e below s _ _ _ (T3.setTop (mkF m 13 #[.val (.ref p0), .val (.int i), .val (.int (own_i k))] [(.int i), (.ref ta), (.int (own_i k))]))
  obtain ⟨kt4, Ov4, Vt4⟩ := TB0.2.1
  refine own_by (fun _ kz => own_ldA X3 hx hZ e3 Vt4 rfl (own_i01 hi) (own_pr_get hi _ _ _) (g := (mkF m 13 #[.val (.ref p0), .val (.int i), .val (.int (own_i k))] [(.int i), (.ref ta), (.int (own_i k))])) rfl rfl (hb hby d5_13) _ kz) ?_
  show own_Go p.tables e below s _ _ _ (T3.setTop (mkF m 14 #[.val (.ref p0), .val (.int i), .val (.int (own_i k))] [(.ref r), (.int (own_i k))]))
  rcases TB0.2.2.2.2.1 with ⟨er, ek, ev⟩ | FU0
  · obtain ⟨kN, VN⟩ : ∃ kN, Arv Z h0 r kN .int 0 [] (.int (0 : Int32)) := by rw [er]; exact TB0.1.2.2.2.2.2.2
    refine own_by (fun _ kz => own_len X3 hx hZ e3 VN (g := (mkF m 14 #[.val (.ref p0), .val (.int i), .val (.int (own_i k))] [(.ref r), (.int (own_i k))])) rfl rfl (hb hby d5_14) _ kz) ?_
    show own_Go p.tables e below s _ _ _ (T3.setTop (mkF m 15 #[.val (.ref p0), .val (.int i), .val (.int (own_i k))] [(.int (0 : Int32)), (.int (own_i k))]))
    refine own_by (fun _ kz => XS.icmpNo X3.here hx rfl (hb hby d5_15) rfl (teq (show (own_i k) = (0 : Int32) by rw [ek]; rfl)).2 kz) ?_
    show own_Go p.tables e below s _ _ _ (T3.setTop (mkF m 18 #[.val (.ref p0), .val (.int i), .val (.int (own_i k))] []))
    refine own_by (fun _ kz => XS.aloadN X3.here hx rfl (hb hby d5_18) rfl rfl kz) ?_
    show own_Go p.tables e below s _ _ _ (T3.setTop (mkF m 19 #[.val (.ref p0), .val (.int i), .val (.int (own_i k))] [(.ref p0)]))
    obtain ⟨T5, X5, e5, st5⟩ := getF X3 hx hZ hown (host := "") (Or.inl (hw _ (List.mem_of_getElem? (i := 11) rfl))) Via.refl e3 TB0.fT (g := (mkF m 19 #[.val (.ref p0), .val (.int i), .val (.int (own_i k))] [(.ref p0)])) rfl rfl (hb hby d5_19)
    refine own_by st5 ?_
    show own_Go p.tables e below s _ _ _ (T5.setTop (mkF m 22 #[.val (.ref p0), .val (.int i), .val (.int (own_i k))] [(.ref ta)]))
    refine own_by (fun _ kz => XS.iloadN X5.here hx rfl (hb hby d5_22) rfl kz) ?_
    show own_Go p.tables e below s _ _ _ (T5.setTop (mkF m 23 #[.val (.ref p0), .val (.int i), .val (.int (own_i k))] [(.int i), (.ref ta)]))
    refine own_by (fun _ kz => XS.aloadN X5.here hx rfl (hb hby d5_23) rfl rfl kz) ?_
    show own_Go p.tables e below s _ _ _ (T5.setTop (mkF m 24 #[.val (.ref p0), .val (.int i), .val (.int (own_i k))] [(.ref p0), (.int i), (.ref ta)]))
    obtain ⟨T6, X6, e6, st6⟩ := getF X5 hx hZ hown (host := "") (Or.inl (hw _ (List.mem_of_getElem? (i := 11) rfl))) Via.refl e5 TB0.fT (g := (mkF m 24 #[.val (.ref p0), .val (.int i), .val (.int (own_i k))] [(.ref p0), (.int i), (.ref ta)])) rfl rfl (hb hby d5_24)
    refine own_by st6 ?_
    show own_Go p.tables e below s _ _ _ (T6.setTop (mkF m 27 #[.val (.ref p0), .val (.int i), .val (.int (own_i k))] [(.ref ta), (.int i), (.ref ta)]))
    refine own_by (fun _ kz => XS.iloadN X6.here hx rfl (hb hby d5_27) rfl kz) ?_
    show own_Go p.tables e below s _ _ _ (T6.setTop (mkF m 28 #[.val (.ref p0), .val (.int i), .val (.int (own_i k))] [(.int i), (.ref ta), (.int i), (.ref ta)]))
    obtain ⟨kt7, Ov7, Vt7⟩ := TB0.2.1
    refine own_by (fun _ kz => own_ldA X6 hx hZ e6 Vt7 rfl (own_i01 hi) (own_pr_get hi _ _ _) (g := (mkF m 28 #[.val (.ref p0), .val (.int i), .val (.int (own_i k))] [(.int i), (.ref ta), (.int i), (.ref ta)])) rfl rfl (hb hby d5_28) _ kz) ?_
    show own_Go p.tables e below s _ _ _ (T6.setTop (mkF m 29 #[.val (.ref p0), .val (.int i), .val (.int (own_i k))] [(.ref r), (.int i), (.ref ta)]))
    refine own_by (fun _ kz => XS.iconst X6.here hx rfl (hb hby d5_29) kz) ?_
    show own_Go p.tables e below s _ _ _ (T6.setTop (mkF m 30 #[.val (.ref p0), .val (.int i), .val (.int (own_i k))] [(.int (4 : Int32)), (.ref r), (.int i), (.ref ta)]))
    refine own_by (fun _ kz => XS.iconst X6.here hx rfl (hb hby d5_30) kz) ?_
    show own_Go p.tables e below s _ _ _ (T6.setTop (mkF m 31 #[.val (.ref p0), .val (.int i), .val (.int (own_i k))] [(.int (2 : Int32)), (.int (4 : Int32)), (.ref r), (.int i), (.ref ta)]))
    refine own_by (fun _ kz => XS.iloadN X6.here hx rfl (hb hby d5_31) rfl kz) ?_
    show own_Go p.tables e below s _ _ _ (T6.setTop (mkF m 32 #[.val (.ref p0), .val (.int i), .val (.int (own_i k))] [(.int (own_i k)), (.int (2 : Int32)), (.int (4 : Int32)), (.ref r), (.int i), (.ref ta)]))
    refine own_by (fun _ kz => XS.imul X6.here hx rfl (hb hby d5_32) rfl kz) ?_
    show own_Go p.tables e below s _ _ _ (T6.setTop (mkF m 33 #[.val (.ref p0), .val (.int i), .val (.int (own_i k))] [(.int ((2 : Int32) * (own_i k))), (.int (4 : Int32)), (.ref r), (.int i), (.ref ta)]))
    obtain ⟨v8, T8, L8, X8, q8, st8⟩ := own_callS X6 hx hZ hown (hw _ (List.mem_of_getElem? (i := 34) rfl)) (hw _ (List.mem_of_getElem? (i := 35) rfl)) (hw _ (List.mem_of_getElem? (i := 36) rfl)) (hw _ (List.mem_of_getElem? (i := 37) rfl)) (by decide) (rm6 l Z a0 hw [] (4 : Int32) ((2 : Int32) * (own_i k)) h0 n0 Z0) (W := 3) (by decide) (by decide) e6 (g := (mkF m 33 #[.val (.ref p0), .val (.int i), .val (.int (own_i k))] [(.int ((2 : Int32) * (own_i k))), (.int (4 : Int32)), (.ref r), (.int i), (.ref ta)])) rfl (by rw [hml]; rfl) (argsL := [(.int (4 : Int32)), (.int ((2 : Int32) * (own_i k)))]) (rest := [(.ref r), (.int i), (.ref ta)]) (lenOf pd_6 rfl) rfl rfl (by show 2 * 0 + _ ≤ _; exact Nat.le_of_eq rfl) (hb hby d5_33) (by decide) (by decide)
    obtain ⟨rfl, Nq8, hh8⟩ := q8
    have N8 := Fr.app N0 Nq8
    refine own_by st8 ?_
    show own_Go p.tables e below s _ _ _ (T8.setTop (mkF m 36 #[.val (.ref p0), .val (.int i), .val (.int (own_i k))] [(.int (if (4 : Int32) < ((2 : Int32) * (own_i k)) then ((2 : Int32) * (own_i k)) else (4 : Int32))), (.ref r), (.int i), (.ref ta)]))
    rw [show (if (4 : Int32) < ((2 : Int32) * (own_i k)) then ((2 : Int32) * (own_i k)) else (4 : Int32)) = (4 : Int32) by rw [ek]; decide]
    show own_Go p.tables e below s _ _ _ (T8.setTop (mkF m 36 #[.val (.ref p0), .val (.int i), .val (.int (own_i k))] [(.int (4 : Int32)), (.ref r), (.int i), (.ref ta)]))
    obtain ⟨v9, T9, L9, X9, q9, st9⟩ := own_callS X8 hx hZ hown (hw _ (List.mem_of_getElem? (i := 38) rfl)) (hw _ (List.mem_of_getElem? (i := 39) rfl)) (hw _ (List.mem_of_getElem? (i := 17) rfl)) (hw _ (List.mem_of_getElem? (i := 40) rfl)) (by decide) (rm7 l Z a0 hw [] r h0 n0 Z0 kN VN) (W := 2) (by decide) (by decide) hh8 (g := (mkF m 36 #[.val (.ref p0), .val (.int i), .val (.int (own_i k))] [(.int (4 : Int32)), (.ref r), (.int i), (.ref ta)])) rfl (by rw [hml]; rfl) (argsL := [(.ref r), (.int (4 : Int32))]) (rest := [(.int i), (.ref ta)]) (lenOf pd_7 rfl) rfl rfl (by show 2 * 0 + _ ≤ _; exact Nat.le_of_eq rfl) (hb hby d5_36) (by decide) (by decide)
    obtain ⟨b9, kb9, rfl, Nq9, Kq9, gb9, Eb9, Vb9⟩ := q9
    have N9 := Fr.app N8 Nq9
    have Z9 : n0 ≤ T9.heap.size := Nat.le_trans Z0 Kq9.1
    refine own_by st9 ?_
    show own_Go p.tables e below s _ _ _ (T9.setTop (mkF m 39 #[.val (.ref p0), .val (.int i), .val (.int (own_i k))] [(.ref b9), (.int i), (.ref ta)]))
    have TB9 := TB0.ext (own_keep_ext Kq9)
    have fr9 := TB0.fresh gb9
    simp only [List.mem_cons, List.not_mem_nil, or_false, forall_eq_or_imp, forall_eq] at fr9
    have FU9 : own_Full Z n0 p0 ta ca fa T9.heap b9 vs := ⟨Nat.le_trans Z0 gb9, ⟨fr9.2.1.symm, fr9.2.2.1.symm, fr9.2.2.2.1.symm, fr9.2.2.2.2.1.symm⟩, by rw [ev]; rfl, kb9, by rw [ev]; exact Vb9⟩
    obtain ⟨kt10, Ov10, Vt10⟩ := TB9.2.1
    obtain ⟨T10, h10, X10, e10, W10, st10⟩ := own_stA X9 hx hZ rfl Vt10 Ov10 (Ins.self Eb9) (j := i) (own_i01 hi) (g := (mkF m 39 #[.val (.ref p0), .val (.int i), .val (.int (own_i k))] [(.ref b9), (.int i), (.ref ta)])) rfl rfl (hb hby d5_39)
    have N10 := Fr.snoc X10 N9 TB9.1.1.2.1
    have Z10 : n0 ≤ h10.size := by rw [W10.size]; exact Z9
    obtain ⟨TB10, FU10⟩ := TB9.setTgt hi FU9 fr9.2.2.2.2.2.2.symm W10
    refine own_by st10 ?_
    show own_Go p.tables e below s _ _ _ (T10.setTop (mkF m 40 #[.val (.ref p0), .val (.int i), .val (.int (own_i k))] []))
    refine own_by (fun _ kz => XS.iloadN X10.here hx rfl (hb hby d5_40) rfl kz) ?_
    show own_Go p.tables e below s _ _ _ (T10.setTop (mkF m 41 #[.val (.ref p0), .val (.int i), .val (.int (own_i k))] [(.int (own_i k))]))
    exact own_retI X10 hx hlk Bd.returns (hb hby d5_41) (by decide) (by decide) ⟨rfl, N10, by rw [e10]; exact Z10, _, by rw [e10]; exact FU10, by rw [e10]; exact TB10⟩
  · obtain ⟨-, -, -, kr0, Vr0⟩ := id FU0
    refine own_by (fun _ kz => own_len X3 hx hZ e3 Vr0 (g := (mkF m 14 #[.val (.ref p0), .val (.int i), .val (.int (own_i k))] [(.ref r), (.int (own_i k))])) rfl rfl (hb hby d5_14) _ kz) ?_
    show own_Go p.tables e below s _ _ _ (T3.setTop (mkF m 15 #[.val (.ref p0), .val (.int i), .val (.int (own_i k))] [(.int (4 : Int32)), (.int (own_i k))]))
    refine own_by (fun _ kz => XS.icmpYes X3.here hx rfl (pc0 := 15) (pc' := 40) rfl (hb hby d5_15) rfl (feq (show ¬ (own_i k) = (4 : Int32) from fun q => by have := (own_i_eq k (by omega) 4 (by omega)).mp q; omega)).2 (by decide) (by decide) kz) ?_
    show own_Go p.tables e below s _ _ _ (T3.setTop (mkF m 40 #[.val (.ref p0), .val (.int i), .val (.int (own_i k))] []))
    refine own_by (fun _ kz => XS.iloadN X3.here hx rfl (hb hby d5_40) rfl kz) ?_
    show own_Go p.tables e below s _ _ _ (T3.setTop (mkF m 41 #[.val (.ref p0), .val (.int i), .val (.int (own_i k))] [(.int (own_i k))]))
    exact own_retI X3 hx hlk Bd.returns (hb hby d5_41) (by decide) (by decide) ⟨rfl, N0, by rw [e3]; exact Z0, _, by rw [e3]; exact FU0, by rw [e3]; exact TB0⟩
theorem d4_0 : decode prog_50_method_2_code 0 = .ok (.aload_n 0, 1) := by decide +kernel
theorem d4_1 : decode prog_50_method_2_code 1 = .ok (.iload_n 1, 1) := by decide +kernel
theorem d4_2 : decode prog_50_method_2_code 2 = .ok (.invokevirtual 30, 3) := by decide +kernel
theorem d4_5 : decode prog_50_method_2_code 5 = .ok (.istore_n 3, 1) := by decide +kernel
theorem d4_6 : decode prog_50_method_2_code 6 = .ok (.aload_n 0, 1) := by decide +kernel
theorem d4_7 : decode prog_50_method_2_code 7 = .ok (.getfield 9, 3) := by decide +kernel
theorem d4_10 : decode prog_50_method_2_code 10 = .ok (.iload_n 1, 1) := by decide +kernel
theorem d4_11 : decode prog_50_method_2_code 11 = .ok (.aaload, 1) := by decide +kernel
theorem d4_12 : decode prog_50_method_2_code 12 = .ok (.iload_n 3, 1) := by decide +kernel
theorem d4_13 : decode prog_50_method_2_code 13 = .ok (.iload_n 2, 1) := by decide +kernel
theorem d4_14 : decode prog_50_method_2_code 14 = .ok (.iastore, 1) := by decide +kernel
theorem d4_15 : decode prog_50_method_2_code 15 = .ok (.aload_n 0, 1) := by decide +kernel
theorem d4_16 : decode prog_50_method_2_code 16 = .ok (.getfield 24, 3) := by decide +kernel
theorem d4_19 : decode prog_50_method_2_code 19 = .ok (.iload_n 1, 1) := by decide +kernel
theorem d4_20 : decode prog_50_method_2_code 20 = .ok (.iload_n 3, 1) := by decide +kernel
theorem d4_21 : decode prog_50_method_2_code 21 = .ok (.iconst 1, 1) := by decide +kernel
theorem d4_22 : decode prog_50_method_2_code 22 = .ok (.iadd, 1) := by decide +kernel
theorem d4_23 : decode prog_50_method_2_code 23 = .ok (.iastore, 1) := by decide +kernel
theorem d4_24 : decode prog_50_method_2_code 24 = .ok (.return_, 1) := by decide +kernel
theorem pf_4 : plainFor (⟨"cyclebreak/collector/ReferenceTable", "add", "(II)V"⟩ : MethodName) = true := by first | exact plainFor_of_name (by first | (simp [plainName, overriddenIn]; done) | decide +kernel) | decide +kernel
theorem pd_4 : parseMethodDescriptor "(II)V" = some ⟨[.int, .int], none⟩ := by decide +kernel
theorem ef_4 (m : MethodId) (p0 : Addr) (i : Int32) (p2 : Int32) : entryFrame m #[(.ref p0), (.int i), (.int p2)] 4 = mkF m 0 #[.val (.ref p0), .val (.int i), .val (.int p2), .unset] [] := by first | (simp [entryFrame, mkF, argsToLocals, Value.category]; done) | rfl
def Q4 (Z : State) (p0 : Addr) (i : Int32) (N : Addr) (ta : Addr) (ca : Addr) (fa : Addr) (r2 : Addr) (k : Nat) (k2 : Nat) (x : Nat) (x2 : Nat) (vs : List Int32) (us : List Int32) (p2 : Int32) (h0 : Heap) (n0 : Nat) (v : Option Value) (h : Heap) (L : List Loc) : Prop := v = none ∧ Fr n0 L ∧ n0 ≤ h.size ∧ ∃ r3, own_Tab Z n0 N p0 ta ca fa i h r3 r2 (k + 1) k2 x x2 (vs.set k p2) us
set_option maxRecDepth 65536 in
set_option maxHeartbeats 40000000 in
theorem rm4 (l : Launch) (Z : State) (a0 : Array Value) (hw : ∀ d ∈ tables_1, d.before a0 Z = true) (ws : List Jvm.Cond) (p0 : Addr) (i : Int32) (p2 : Int32) (h0 : Heap) (n0 : Nat) (Z0 : n0 ≤ h0.size) (N ta ca fa r r2 : Addr) (k k2 x x2 : Nat) (vs us : List Int32) (hi : i = 0 ∨ i = 1) (TB0 : own_Tab Z n0 N p0 ta ca fa i h0 r r2 k k2 x x2 vs us) (hk : k < 4) :
    own_Met l Z (⟨"cyclebreak/collector/ReferenceTable", "add", "(II)V"⟩ : MethodName) prog_50_method_2_code 4 none ws ({ frames := 3, cells := 1, slots := 4, locals := 96 } : Room) #[(.ref p0), (.int i), (.int p2)] h0 (Q4 Z p0 i N ta ca fa r2 k k2 x x2 vs us p2 h0 n0) := by
  refine MetFree.of_bodySF pf_4 hisR ?_
  intro p e s m args below meth c s₁ Bd hml0 hP hK
  obtain ⟨rfl, hZ, hh⟩ := hP
  have hx := Bd.exec
  have hby := Bd.bytes
  have hlk : meth.locks = false := BodyLoose.notSynchronized Bd
  have hml : c.maxLocals = 4 := hml0
  have hown : s.vm.findClass "cyclebreak/collector/ReferenceTable" = some m.cls := findClass_of_methodNamed Bd.named
  have hnm := (name_of_methodNamed Bd.named Bd.method).1
  have X0 : Stand p l e ({ frames := 3, cells := 1, slots := 4, locals := 96 } : Room) s m #[(.ref p0), (.int i), (.int p2)] below meth c s₁ [] 0 0 := Stand.of_body Bd
  have e0 : s₁.heap = h0 := by rw [← hh, Bd.state]; rfl
  have N0 := Fr.nil n0
  show own_Go p.tables e below s (Q4 Z p0 i N ta ca fa r2 k k2 x x2 vs us p2 h0 n0) ({ frames := 3, cells := 1, slots := 4, locals := 96 } : Room).cells ({ frames := 3, cells := 1, slots := 4, locals := 96 } : Room).slots _
  refine own_by (fun _ k => castTop (ef_4 m p0 i p2) k) ?_
  show own_Go p.tables e below s _ _ _ (s₁.setTop (mkF m 0 #[.val (.ref p0), .val (.int i), .val (.int p2), .unset] []))
  refine own_by (fun _ kz => XS.aloadN X0.here hx rfl (hb hby d4_0) rfl rfl kz) ?_
  show own_Go p.tables e below s _ _ _ (s₁.setTop (mkF m 1 #[.val (.ref p0), .val (.int i), .val (.int p2), .unset] [(.ref p0)]))
  refine own_by (fun _ kz => XS.iloadN X0.here hx rfl (hb hby d4_1) rfl kz) ?_
  show own_Go p.tables e below s _ _ _ (s₁.setTop (mkF m 2 #[.val (.ref p0), .val (.int i), .val (.int p2), .unset] [(.int i), (.ref p0)]))
  obtain ⟨v1, T1, L1, X1, q1, st1⟩ := own_callP X0 hx hZ hown (hw _ (List.mem_of_getElem? (i := 30) rfl)) (hw _ (List.mem_of_getElem? (i := 31) rfl)) (hw _ (List.mem_of_getElem? (i := 32) rfl)) (hw _ (List.mem_of_getElem? (i := 28) rfl)) rfl (hw _ (List.mem_of_getElem? (i := 2) rfl)) (hw _ (List.mem_of_getElem? (i := 33) rfl)) (by decide) (rm5 l Z a0 hw [] p0 i h0 n0 Z0 N ta ca fa r r2 k k2 x x2 vs us hi TB0 hk) (W := 0) (by decide) (by decide) e0 TB0.exa (g := (mkF m 2 #[.val (.ref p0), .val (.int i), .val (.int p2), .unset] [(.int i), (.ref p0)])) rfl (by rw [hml]; rfl) (argsL := [(.int i)]) (rest := []) (lenOf pd_5 rfl) rfl rfl (by show 2 * 0 + _ ≤ _; exact Nat.le_of_eq rfl) (hb hby d4_2) (by decide) (by decide)
  obtain ⟨rfl, Nq1, Zq1, r3, FU1, TB1⟩ := q1
  have N1 := Fr.app N0 Nq1
  refine own_by st1 ?_
  show own_Go p.tables e below s _ _ _ (T1.setTop (mkF m 5 #[.val (.ref p0), .val (.int i), .val (.int p2), .unset] [(.int (own_i k))]))
  refine own_by (fun _ kz => XS.istoreN X1.here hx rfl (hb hby d4_5) rfl (l' := #[.val (.ref p0), .val (.int i), .val (.int p2), .val (.int (own_i k))]) rfl kz) ?_
  show own_Go p.tables e below s _ _ _ (T1.setTop (mkF m 6 #[.val (.ref p0), .val (.int i), .val (.int p2), .val (.int (own_i k))] []))
  refine own_by (fun _ kz => XS.aloadN X1.here hx rfl (hb hby d4_6) rfl rfl kz) ?_
  show own_Go p.tables e below s _ _ _ (T1.setTop (mkF m 7 #[.val (.ref p0), .val (.int i), .val (.int p2), .val (.int (own_i k))] [(.ref p0)]))
  obtain ⟨T2, X2, e2, st2⟩ := getF X1 hx hZ hown (host := "") (Or.inl (hw _ (List.mem_of_getElem? (i := 11) rfl))) Via.refl rfl TB1.fT (g := (mkF m 7 #[.val (.ref p0), .val (.int i), .val (.int p2), .val (.int (own_i k))] [(.ref p0)])) rfl rfl (hb hby d4_7)
  refine own_by st2 ?_
  show own_Go p.tables e below s _ _ _ (T2.setTop (mkF m 10 #[.val (.ref p0), .val (.int i), .val (.int p2), .val (.int (own_i k))] [(.ref ta)]))
  refine own_by (fun _ kz => XS.iloadN X2.here hx rfl (hb hby d4_10) rfl kz) ?_
  show own_Go p.tables e below s _ _ _ (T2.setTop (mkF m 11 #[.val (.ref p0), .val (.int i), .val (.int p2), .val (.int (own_i k))] [(.int i), (.ref ta)]))
  obtain ⟨kt3, Ov3, Vt3⟩ := TB1.2.1
  refine own_by (fun _ kz => own_ldA X2 hx hZ e2 Vt3 rfl (own_i01 hi) (own_pr_get hi _ _ _) (g := (mkF m 11 #[.val (.ref p0), .val (.int i), .val (.int p2), .val (.int (own_i k))] [(.int i), (.ref ta)])) rfl rfl (hb hby d4_11) _ kz) ?_
  show own_Go p.tables e below s _ _ _ (T2.setTop (mkF m 12 #[.val (.ref p0), .val (.int i), .val (.int p2), .val (.int (own_i k))] [(.ref r3)]))
  refine own_by (fun _ kz => XS.iloadN X2.here hx rfl (hb hby d4_12) rfl kz) ?_
  show own_Go p.tables e below s _ _ _ (T2.setTop (mkF m 13 #[.val (.ref p0), .val (.int i), .val (.int p2), .val (.int (own_i k))] [(.int (own_i k)), (.ref r3)]))
  refine own_by (fun _ kz => XS.iloadN X2.here hx rfl (hb hby d4_13) rfl kz) ?_
  show own_Go p.tables e below s _ _ _ (T2.setTop (mkF m 14 #[.val (.ref p0), .val (.int i), .val (.int p2), .val (.int (own_i k))] [(.int p2), (.int (own_i k)), (.ref r3)]))
  obtain ⟨-, -, -, kr4, Vr4⟩ := id FU1
  obtain ⟨T4, h4, X4, e4, W4, st4⟩ := own_st X2 hx hZ e2 Vr4 (j := (own_i k)) (own_i_lt4 hk) (g := (mkF m 14 #[.val (.ref p0), .val (.int i), .val (.int p2), .val (.int (own_i k))] [(.int p2), (.int (own_i k)), (.ref r3)])) rfl rfl (hb hby d4_14)
  have N4 := Fr.snoc X4 N1 FU1.1
  have Z4 : n0 ≤ h4.size := by rw [W4.size]; exact Zq1
  obtain ⟨TB4, FU4⟩ := TB1.setRow FU1 hk W4
  refine own_by st4 ?_
  show own_Go p.tables e below s _ _ _ (T4.setTop (mkF m 15 #[.val (.ref p0), .val (.int i), .val (.int p2), .val (.int (own_i k))] []))
  refine own_by (fun _ kz => XS.aloadN X4.here hx rfl (hb hby d4_15) rfl rfl kz) ?_
  show own_Go p.tables e below s _ _ _ (T4.setTop (mkF m 16 #[.val (.ref p0), .val (.int i), .val (.int p2), .val (.int (own_i k))] [(.ref p0)]))
  obtain ⟨T5, X5, e5, st5⟩ := getF X4 hx hZ hown (host := "") (Or.inl (hw _ (List.mem_of_getElem? (i := 21) rfl))) Via.refl e4 TB4.fC (g := (mkF m 16 #[.val (.ref p0), .val (.int i), .val (.int p2), .val (.int (own_i k))] [(.ref p0)])) rfl rfl (hb hby d4_16)
  refine own_by st5 ?_
  show own_Go p.tables e below s _ _ _ (T5.setTop (mkF m 19 #[.val (.ref p0), .val (.int i), .val (.int p2), .val (.int (own_i k))] [(.ref ca)]))
  refine own_by (fun _ kz => XS.iloadN X5.here hx rfl (hb hby d4_19) rfl kz) ?_
  show own_Go p.tables e below s _ _ _ (T5.setTop (mkF m 20 #[.val (.ref p0), .val (.int i), .val (.int p2), .val (.int (own_i k))] [(.int i), (.ref ca)]))
  refine own_by (fun _ kz => XS.iloadN X5.here hx rfl (hb hby d4_20) rfl kz) ?_
  show own_Go p.tables e below s _ _ _ (T5.setTop (mkF m 21 #[.val (.ref p0), .val (.int i), .val (.int p2), .val (.int (own_i k))] [(.int (own_i k)), (.int i), (.ref ca)]))
  refine own_by (fun _ kz => XS.iconst X5.here hx rfl (hb hby d4_21) kz) ?_
  show own_Go p.tables e below s _ _ _ (T5.setTop (mkF m 22 #[.val (.ref p0), .val (.int i), .val (.int p2), .val (.int (own_i k))] [(.int (1 : Int32)), (.int (own_i k)), (.int i), (.ref ca)]))
  refine own_by (fun _ kz => XS.iadd X5.here hx rfl (hb hby d4_22) rfl kz) ?_
  show own_Go p.tables e below s _ _ _ (T5.setTop (mkF m 23 #[.val (.ref p0), .val (.int i), .val (.int p2), .val (.int (own_i k))] [(.int ((own_i k) + (1 : Int32))), (.int i), (.ref ca)]))
  rw [own_i_succ (k) (by omega)]
  show own_Go p.tables e below s _ _ _ (T5.setTop (mkF m 23 #[.val (.ref p0), .val (.int i), .val (.int p2), .val (.int (own_i k))] [(.int (own_i (k + 1))), (.int i), (.ref ca)]))
  obtain ⟨kc6, Vc6⟩ := TB4.2.2.1
  obtain ⟨T6, h6, X6, e6, W6, st6⟩ := own_st X5 hx hZ e5 Vc6 (j := i) (own_i01 hi) (g := (mkF m 23 #[.val (.ref p0), .val (.int i), .val (.int p2), .val (.int (own_i k))] [(.int (own_i (k + 1))), (.int i), (.ref ca)])) rfl rfl (hb hby d4_23)
  have N6 := Fr.snoc X6 N4 TB4.1.1.2.2.1
  have Z6 : n0 ≤ h6.size := by rw [W6.size]; exact Z4
  obtain ⟨TB6, FU6⟩ := TB4.setCnt hi FU4 W6
  refine own_by st6 ?_
  show own_Go p.tables e below s _ _ _ (T6.setTop (mkF m 24 #[.val (.ref p0), .val (.int i), .val (.int p2), .val (.int (own_i k))] []))
  exact own_retV X6 hx hlk Bd.returns (hb hby d4_24) (by decide) (by decide) ⟨rfl, N6, by rw [e6]; exact Z6, _, by rw [e6]; exact TB6⟩
theorem d9_0 : decode prog_50_method_3_code 0 = .ok (.aload_n 0, 1) := by decide +kernel
theorem d9_1 : decode prog_50_method_3_code 1 = .ok (.iload_n 1, 1) := by decide +kernel
theorem d9_2 : decode prog_50_method_3_code 2 = .ok (.invokevirtual 30, 3) := by decide +kernel
theorem d9_5 : decode prog_50_method_3_code 5 = .ok (.istore_n 3, 1) := by decide +kernel
theorem d9_6 : decode prog_50_method_3_code 6 = .ok (.aload_n 0, 1) := by decide +kernel
theorem d9_7 : decode prog_50_method_3_code 7 = .ok (.getfield 27, 3) := by decide +kernel
theorem d9_10 : decode prog_50_method_3_code 10 = .ok (.iload_n 1, 1) := by decide +kernel
theorem d9_11 : decode prog_50_method_3_code 11 = .ok (.iaload, 1) := by decide +kernel
theorem d9_12 : decode prog_50_method_3_code 12 = .ok (.istore 4, 2) := by decide +kernel
theorem d9_14 : decode prog_50_method_3_code 14 = .ok (.aload_n 0, 1) := by decide +kernel
theorem d9_15 : decode prog_50_method_3_code 15 = .ok (.getfield 9, 3) := by decide +kernel
theorem d9_18 : decode prog_50_method_3_code 18 = .ok (.iload_n 1, 1) := by decide +kernel
theorem d9_19 : decode prog_50_method_3_code 19 = .ok (.aaload, 1) := by decide +kernel
theorem d9_20 : decode prog_50_method_3_code 20 = .ok (.iload_n 3, 1) := by decide +kernel
theorem d9_21 : decode prog_50_method_3_code 21 = .ok (.aload_n 0, 1) := by decide +kernel
theorem d9_22 : decode prog_50_method_3_code 22 = .ok (.getfield 9, 3) := by decide +kernel
theorem d9_25 : decode prog_50_method_3_code 25 = .ok (.iload_n 1, 1) := by decide +kernel
theorem d9_26 : decode prog_50_method_3_code 26 = .ok (.aaload, 1) := by decide +kernel
theorem d9_27 : decode prog_50_method_3_code 27 = .ok (.iload 4, 2) := by decide +kernel
theorem d9_29 : decode prog_50_method_3_code 29 = .ok (.iaload, 1) := by decide +kernel
theorem d9_30 : decode prog_50_method_3_code 30 = .ok (.iastore, 1) := by decide +kernel
theorem d9_31 : decode prog_50_method_3_code 31 = .ok (.aload_n 0, 1) := by decide +kernel
theorem d9_32 : decode prog_50_method_3_code 32 = .ok (.getfield 9, 3) := by decide +kernel
theorem d9_35 : decode prog_50_method_3_code 35 = .ok (.iload_n 1, 1) := by decide +kernel
theorem d9_36 : decode prog_50_method_3_code 36 = .ok (.aaload, 1) := by decide +kernel
theorem d9_37 : decode prog_50_method_3_code 37 = .ok (.iload 4, 2) := by decide +kernel
theorem d9_39 : decode prog_50_method_3_code 39 = .ok (.iload_n 2, 1) := by decide +kernel
theorem d9_40 : decode prog_50_method_3_code 40 = .ok (.iastore, 1) := by decide +kernel
theorem d9_41 : decode prog_50_method_3_code 41 = .ok (.aload_n 0, 1) := by decide +kernel
theorem d9_42 : decode prog_50_method_3_code 42 = .ok (.getfield 27, 3) := by decide +kernel
theorem d9_45 : decode prog_50_method_3_code 45 = .ok (.iload_n 1, 1) := by decide +kernel
theorem d9_46 : decode prog_50_method_3_code 46 = .ok (.iload 4, 2) := by decide +kernel
theorem d9_48 : decode prog_50_method_3_code 48 = .ok (.iconst 1, 1) := by decide +kernel
theorem d9_49 : decode prog_50_method_3_code 49 = .ok (.iadd, 1) := by decide +kernel
theorem d9_50 : decode prog_50_method_3_code 50 = .ok (.iastore, 1) := by decide +kernel
theorem d9_51 : decode prog_50_method_3_code 51 = .ok (.aload_n 0, 1) := by decide +kernel
theorem d9_52 : decode prog_50_method_3_code 52 = .ok (.getfield 24, 3) := by decide +kernel
theorem d9_55 : decode prog_50_method_3_code 55 = .ok (.iload_n 1, 1) := by decide +kernel
theorem d9_56 : decode prog_50_method_3_code 56 = .ok (.iload_n 3, 1) := by decide +kernel
theorem d9_57 : decode prog_50_method_3_code 57 = .ok (.iconst 1, 1) := by decide +kernel
theorem d9_58 : decode prog_50_method_3_code 58 = .ok (.iadd, 1) := by decide +kernel
theorem d9_59 : decode prog_50_method_3_code 59 = .ok (.iastore, 1) := by decide +kernel
theorem d9_60 : decode prog_50_method_3_code 60 = .ok (.return_, 1) := by decide +kernel
theorem pf_9 : plainFor (⟨"cyclebreak/collector/ReferenceTable", "addFixed", "(II)V"⟩ : MethodName) = true := by first | exact plainFor_of_name (by first | (simp [plainName, overriddenIn]; done) | decide +kernel) | decide +kernel
theorem pd_9 : parseMethodDescriptor "(II)V" = some ⟨[.int, .int], none⟩ := by decide +kernel
theorem ef_9 (m : MethodId) (p0 : Addr) (i : Int32) (p2 : Int32) : entryFrame m #[(.ref p0), (.int i), (.int p2)] 5 = mkF m 0 #[.val (.ref p0), .val (.int i), .val (.int p2), .unset, .unset] [] := by first | (simp [entryFrame, mkF, argsToLocals, Value.category]; done) | rfl
def Q9 (Z : State) (p0 : Addr) (i : Int32) (N : Addr) (ta : Addr) (ca : Addr) (fa : Addr) (r2 : Addr) (k : Nat) (k2 : Nat) (x : Nat) (x2 : Nat) (vs : List Int32) (us : List Int32) (p2 : Int32) (h0 : Heap) (n0 : Nat) (v : Option Value) (h : Heap) (L : List Loc) : Prop := v = none ∧ Fr n0 L ∧ n0 ≤ h.size ∧ ∃ r3, own_Tab Z n0 N p0 ta ca fa i h r3 r2 (k + 1) k2 (x + 1) x2 ((vs.set k (vs.getD x 0)).set x p2) us
set_option maxRecDepth 65536 in
set_option maxHeartbeats 40000000 in
theorem rm9 (l : Launch) (Z : State) (a0 : Array Value) (hw : ∀ d ∈ tables_1, d.before a0 Z = true) (ws : List Jvm.Cond) (p0 : Addr) (i : Int32) (p2 : Int32) (h0 : Heap) (n0 : Nat) (Z0 : n0 ≤ h0.size) (N ta ca fa r r2 : Addr) (k k2 x x2 : Nat) (vs us : List Int32) (hi : i = 0 ∨ i = 1) (TB0 : own_Tab Z n0 N p0 ta ca fa i h0 r r2 k k2 x x2 vs us) (hk : k < 4) (hxk : x ≤ k) :
    own_Met l Z (⟨"cyclebreak/collector/ReferenceTable", "addFixed", "(II)V"⟩ : MethodName) prog_50_method_3_code 5 none ws ({ frames := 3, cells := 1, slots := 4, locals := 96 } : Room) #[(.ref p0), (.int i), (.int p2)] h0 (Q9 Z p0 i N ta ca fa r2 k k2 x x2 vs us p2 h0 n0) := by
  refine MetFree.of_bodySF pf_9 hisR ?_
  intro p e s m args below meth c s₁ Bd hml0 hP hK
  obtain ⟨rfl, hZ, hh⟩ := hP
  have hx := Bd.exec
  have hby := Bd.bytes
  have hlk : meth.locks = false := BodyLoose.notSynchronized Bd
  have hml : c.maxLocals = 5 := hml0
  have hown : s.vm.findClass "cyclebreak/collector/ReferenceTable" = some m.cls := findClass_of_methodNamed Bd.named
  have hnm := (name_of_methodNamed Bd.named Bd.method).1
  have X0 : Stand p l e ({ frames := 3, cells := 1, slots := 4, locals := 96 } : Room) s m #[(.ref p0), (.int i), (.int p2)] below meth c s₁ [] 0 0 := Stand.of_body Bd
  have e0 : s₁.heap = h0 := by rw [← hh, Bd.state]; rfl
  have N0 := Fr.nil n0
  show own_Go p.tables e below s (Q9 Z p0 i N ta ca fa r2 k k2 x x2 vs us p2 h0 n0) ({ frames := 3, cells := 1, slots := 4, locals := 96 } : Room).cells ({ frames := 3, cells := 1, slots := 4, locals := 96 } : Room).slots _
  refine own_by (fun _ k => castTop (ef_9 m p0 i p2) k) ?_
  show own_Go p.tables e below s _ _ _ (s₁.setTop (mkF m 0 #[.val (.ref p0), .val (.int i), .val (.int p2), .unset, .unset] []))
  refine own_by (fun _ kz => XS.aloadN X0.here hx rfl (hb hby d9_0) rfl rfl kz) ?_
  show own_Go p.tables e below s _ _ _ (s₁.setTop (mkF m 1 #[.val (.ref p0), .val (.int i), .val (.int p2), .unset, .unset] [(.ref p0)]))
  refine own_by (fun _ kz => XS.iloadN X0.here hx rfl (hb hby d9_1) rfl kz) ?_
  show own_Go p.tables e below s _ _ _ (s₁.setTop (mkF m 2 #[.val (.ref p0), .val (.int i), .val (.int p2), .unset, .unset] [(.int i), (.ref p0)]))
  obtain ⟨v1, T1, L1, X1, q1, st1⟩ := own_callP X0 hx hZ hown (hw _ (List.mem_of_getElem? (i := 30) rfl)) (hw _ (List.mem_of_getElem? (i := 31) rfl)) (hw _ (List.mem_of_getElem? (i := 32) rfl)) (hw _ (List.mem_of_getElem? (i := 28) rfl)) rfl (hw _ (List.mem_of_getElem? (i := 2) rfl)) (hw _ (List.mem_of_getElem? (i := 33) rfl)) (by decide) (rm5 l Z a0 hw [] p0 i h0 n0 Z0 N ta ca fa r r2 k k2 x x2 vs us hi TB0 hk) (W := 0) (by decide) (by decide) e0 TB0.exa (g := (mkF m 2 #[.val (.ref p0), .val (.int i), .val (.int p2), .unset, .unset] [(.int i), (.ref p0)])) rfl (by rw [hml]; rfl) (argsL := [(.int i)]) (rest := []) (lenOf pd_5 rfl) rfl rfl (by show 2 * 0 + _ ≤ _; exact Nat.le_of_eq rfl) (hb hby d9_2) (by decide) (by decide)
  obtain ⟨rfl, Nq1, Zq1, r3, FU1, TB1⟩ := q1
  have N1 := Fr.app N0 Nq1
  refine own_by st1 ?_
  show own_Go p.tables e below s _ _ _ (T1.setTop (mkF m 5 #[.val (.ref p0), .val (.int i), .val (.int p2), .unset, .unset] [(.int (own_i k))]))
  refine own_by (fun _ kz => XS.istoreN X1.here hx rfl (hb hby d9_5) rfl (l' := #[.val (.ref p0), .val (.int i), .val (.int p2), .val (.int (own_i k)), .unset]) rfl kz) ?_
  show own_Go p.tables e below s _ _ _ (T1.setTop (mkF m 6 #[.val (.ref p0), .val (.int i), .val (.int p2), .val (.int (own_i k)), .unset] []))
  refine own_by (fun _ kz => XS.aloadN X1.here hx rfl (hb hby d9_6) rfl rfl kz) ?_
  show own_Go p.tables e below s _ _ _ (T1.setTop (mkF m 7 #[.val (.ref p0), .val (.int i), .val (.int p2), .val (.int (own_i k)), .unset] [(.ref p0)]))
  obtain ⟨T2, X2, e2, st2⟩ := getF X1 hx hZ hown (host := "") (Or.inl (hw _ (List.mem_of_getElem? (i := 23) rfl))) Via.refl rfl TB1.fF (g := (mkF m 7 #[.val (.ref p0), .val (.int i), .val (.int p2), .val (.int (own_i k)), .unset] [(.ref p0)])) rfl rfl (hb hby d9_7)
  refine own_by st2 ?_
  show own_Go p.tables e below s _ _ _ (T2.setTop (mkF m 10 #[.val (.ref p0), .val (.int i), .val (.int p2), .val (.int (own_i k)), .unset] [(.ref fa)]))
  refine own_by (fun _ kz => XS.iloadN X2.here hx rfl (hb hby d9_10) rfl kz) ?_
  show own_Go p.tables e below s _ _ _ (T2.setTop (mkF m 11 #[.val (.ref p0), .val (.int i), .val (.int p2), .val (.int (own_i k)), .unset] [(.int i), (.ref fa)]))
  obtain ⟨kc3, Vc3⟩ := TB1.2.2.2.1
  refine own_by (fun _ kz => own_ld X2 hx hZ e2 Vc3 (own_i01 hi) (own_pr_get hi _ _ _) (g := (mkF m 11 #[.val (.ref p0), .val (.int i), .val (.int p2), .val (.int (own_i k)), .unset] [(.int i), (.ref fa)])) rfl rfl (hb hby d9_11) _ kz) ?_
  show own_Go p.tables e below s _ _ _ (T2.setTop (mkF m 12 #[.val (.ref p0), .val (.int i), .val (.int p2), .val (.int (own_i k)), .unset] [(.int (own_i x))]))
  refine own_by (fun _ kz => XS.istore X2.here hx rfl (hb hby d9_12) rfl (l' := #[.val (.ref p0), .val (.int i), .val (.int p2), .val (.int (own_i k)), .val (.int (own_i x))]) rfl kz) ?_
  show own_Go p.tables e below s _ _ _ (T2.setTop (mkF m 14 #[.val (.ref p0), .val (.int i), .val (.int p2), .val (.int (own_i k)), .val (.int (own_i x))] []))
  refine own_by (fun _ kz => XS.aloadN X2.here hx rfl (hb hby d9_14) rfl rfl kz) ?_
  show own_Go p.tables e below s _ _ _ (T2.setTop (mkF m 15 #[.val (.ref p0), .val (.int i), .val (.int p2), .val (.int (own_i k)), .val (.int (own_i x))] [(.ref p0)]))
  obtain ⟨T4, X4, e4, st4⟩ := getF X2 hx hZ hown (host := "") (Or.inl (hw _ (List.mem_of_getElem? (i := 11) rfl))) Via.refl e2 TB1.fT (g := (mkF m 15 #[.val (.ref p0), .val (.int i), .val (.int p2), .val (.int (own_i k)), .val (.int (own_i x))] [(.ref p0)])) rfl rfl (hb hby d9_15)
  refine own_by st4 ?_
  show own_Go p.tables e below s _ _ _ (T4.setTop (mkF m 18 #[.val (.ref p0), .val (.int i), .val (.int p2), .val (.int (own_i k)), .val (.int (own_i x))] [(.ref ta)]))
  refine own_by (fun _ kz => XS.iloadN X4.here hx rfl (hb hby d9_18) rfl kz) ?_
  show own_Go p.tables e below s _ _ _ (T4.setTop (mkF m 19 #[.val (.ref p0), .val (.int i), .val (.int p2), .val (.int (own_i k)), .val (.int (own_i x))] [(.int i), (.ref ta)]))
  obtain ⟨kt5, Ov5, Vt5⟩ := TB1.2.1
  refine own_by (fun _ kz => own_ldA X4 hx hZ e4 Vt5 rfl (own_i01 hi) (own_pr_get hi _ _ _) (g := (mkF m 19 #[.val (.ref p0), .val (.int i), .val (.int p2), .val (.int (own_i k)), .val (.int (own_i x))] [(.int i), (.ref ta)])) rfl rfl (hb hby d9_19) _ kz) ?_
  show own_Go p.tables e below s _ _ _ (T4.setTop (mkF m 20 #[.val (.ref p0), .val (.int i), .val (.int p2), .val (.int (own_i k)), .val (.int (own_i x))] [(.ref r3)]))
  refine own_by (fun _ kz => XS.iloadN X4.here hx rfl (hb hby d9_20) rfl kz) ?_
  show own_Go p.tables e below s _ _ _ (T4.setTop (mkF m 21 #[.val (.ref p0), .val (.int i), .val (.int p2), .val (.int (own_i k)), .val (.int (own_i x))] [(.int (own_i k)), (.ref r3)]))
  refine own_by (fun _ kz => XS.aloadN X4.here hx rfl (hb hby d9_21) rfl rfl kz) ?_
  show own_Go p.tables e below s _ _ _ (T4.setTop (mkF m 22 #[.val (.ref p0), .val (.int i), .val (.int p2), .val (.int (own_i k)), .val (.int (own_i x))] [(.ref p0), (.int (own_i k)), (.ref r3)]))
  obtain ⟨T6, X6, e6, st6⟩ := getF X4 hx hZ hown (host := "") (Or.inl (hw _ (List.mem_of_getElem? (i := 11) rfl))) Via.refl e4 TB1.fT (g := (mkF m 22 #[.val (.ref p0), .val (.int i), .val (.int p2), .val (.int (own_i k)), .val (.int (own_i x))] [(.ref p0), (.int (own_i k)), (.ref r3)])) rfl rfl (hb hby d9_22)
  refine own_by st6 ?_
  show own_Go p.tables e below s _ _ _ (T6.setTop (mkF m 25 #[.val (.ref p0), .val (.int i), .val (.int p2), .val (.int (own_i k)), .val (.int (own_i x))] [(.ref ta), (.int (own_i k)), (.ref r3)]))
  refine own_by (fun _ kz => XS.iloadN X6.here hx rfl (hb hby d9_25) rfl kz) ?_
  show own_Go p.tables e below s _ _ _ (T6.setTop (mkF m 26 #[.val (.ref p0), .val (.int i), .val (.int p2), .val (.int (own_i k)), .val (.int (own_i x))] [(.int i), (.ref ta), (.int (own_i k)), (.ref r3)]))
  obtain ⟨kt7, Ov7, Vt7⟩ := TB1.2.1
  refine own_by (fun _ kz => own_ldA X6 hx hZ e6 Vt7 rfl (own_i01 hi) (own_pr_get hi _ _ _) (g := (mkF m 26 #[.val (.ref p0), .val (.int i), .val (.int p2), .val (.int (own_i k)), .val (.int (own_i x))] [(.int i), (.ref ta), (.int (own_i k)), (.ref r3)])) rfl rfl (hb hby d9_26) _ kz) ?_
  show own_Go p.tables e below s _ _ _ (T6.setTop (mkF m 27 #[.val (.ref p0), .val (.int i), .val (.int p2), .val (.int (own_i k)), .val (.int (own_i x))] [(.ref r3), (.int (own_i k)), (.ref r3)]))
  refine own_by (fun _ kz => XS.iload X6.here hx rfl (hb hby d9_27) rfl kz) ?_
  show own_Go p.tables e below s _ _ _ (T6.setTop (mkF m 29 #[.val (.ref p0), .val (.int i), .val (.int p2), .val (.int (own_i k)), .val (.int (own_i x))] [(.int (own_i x)), (.ref r3), (.int (own_i k)), (.ref r3)]))
  obtain ⟨-, -, -, kr8, Vr8⟩ := id FU1
  refine own_by (fun _ kz => own_ld X6 hx hZ e6 Vr8 (own_i_lt4 (Nat.lt_of_le_of_lt hxk hk)) (own_at (Nat.lt_of_le_of_lt hxk hk) vs) (g := (mkF m 29 #[.val (.ref p0), .val (.int i), .val (.int p2), .val (.int (own_i k)), .val (.int (own_i x))] [(.int (own_i x)), (.ref r3), (.int (own_i k)), (.ref r3)])) rfl rfl (hb hby d9_29) _ kz) ?_
  show own_Go p.tables e below s _ _ _ (T6.setTop (mkF m 30 #[.val (.ref p0), .val (.int i), .val (.int p2), .val (.int (own_i k)), .val (.int (own_i x))] [(.int (vs.getD (x) 0)), (.int (own_i k)), (.ref r3)]))
  obtain ⟨-, -, -, kr9, Vr9⟩ := id FU1
  obtain ⟨T9, h9, X9, e9, W9, st9⟩ := own_st X6 hx hZ e6 Vr9 (j := (own_i k)) (own_i_lt4 hk) (g := (mkF m 30 #[.val (.ref p0), .val (.int i), .val (.int p2), .val (.int (own_i k)), .val (.int (own_i x))] [(.int (vs.getD (x) 0)), (.int (own_i k)), (.ref r3)])) rfl rfl (hb hby d9_30)
  have N9 := Fr.snoc X9 N1 FU1.1
  have Z9 : n0 ≤ h9.size := by rw [W9.size]; exact Zq1
  obtain ⟨TB9, FU9⟩ := TB1.setRow FU1 hk W9
  refine own_by st9 ?_
  show own_Go p.tables e below s _ _ _ (T9.setTop (mkF m 31 #[.val (.ref p0), .val (.int i), .val (.int p2), .val (.int (own_i k)), .val (.int (own_i x))] []))
  refine own_by (fun _ kz => XS.aloadN X9.here hx rfl (hb hby d9_31) rfl rfl kz) ?_
  show own_Go p.tables e below s _ _ _ (T9.setTop (mkF m 32 #[.val (.ref p0), .val (.int i), .val (.int p2), .val (.int (own_i k)), .val (.int (own_i x))] [(.ref p0)]))
  obtain ⟨T10, X10, e10, st10⟩ := getF X9 hx hZ hown (host := "") (Or.inl (hw _ (List.mem_of_getElem? (i := 11) rfl))) Via.refl e9 TB9.fT (g := (mkF m 32 #[.val (.ref p0), .val (.int i), .val (.int p2), .val (.int (own_i k)), .val (.int (own_i x))] [(.ref p0)])) rfl rfl (hb hby d9_32)
  refine own_by st10 ?_
  show own_Go p.tables e below s _ _ _ (T10.setTop (mkF m 35 #[.val (.ref p0), .val (.int i), .val (.int p2), .val (.int (own_i k)), .val (.int (own_i x))] [(.ref ta)]))
  refine own_by (fun _ kz => XS.iloadN X10.here hx rfl (hb hby d9_35) rfl kz) ?_
  show own_Go p.tables e below s _ _ _ (T10.setTop (mkF m 36 #[.val (.ref p0), .val (.int i), .val (.int p2), .val (.int (own_i k)), .val (.int (own_i x))] [(.int i), (.ref ta)]))
  obtain ⟨kt11, Ov11, Vt11⟩ := TB9.2.1
  refine own_by (fun _ kz => own_ldA X10 hx hZ e10 Vt11 rfl (own_i01 hi) (own_pr_get hi _ _ _) (g := (mkF m 36 #[.val (.ref p0), .val (.int i), .val (.int p2), .val (.int (own_i k)), .val (.int (own_i x))] [(.int i), (.ref ta)])) rfl rfl (hb hby d9_36) _ kz) ?_
  show own_Go p.tables e below s _ _ _ (T10.setTop (mkF m 37 #[.val (.ref p0), .val (.int i), .val (.int p2), .val (.int (own_i k)), .val (.int (own_i x))] [(.ref r3)]))
  refine own_by (fun _ kz => XS.iload X10.here hx rfl (hb hby d9_37) rfl kz) ?_
  show own_Go p.tables e below s _ _ _ (T10.setTop (mkF m 39 #[.val (.ref p0), .val (.int i), .val (.int p2), .val (.int (own_i k)), .val (.int (own_i x))] [(.int (own_i x)), (.ref r3)]))
  refine own_by (fun _ kz => XS.iloadN X10.here hx rfl (hb hby d9_39) rfl kz) ?_
  show own_Go p.tables e below s _ _ _ (T10.setTop (mkF m 40 #[.val (.ref p0), .val (.int i), .val (.int p2), .val (.int (own_i k)), .val (.int (own_i x))] [(.int p2), (.int (own_i x)), (.ref r3)]))
  obtain ⟨-, -, -, kr12, Vr12⟩ := id FU9
  obtain ⟨T12, h12, X12, e12, W12, st12⟩ := own_st X10 hx hZ e10 Vr12 (j := (own_i x)) (own_i_lt4 (Nat.lt_of_le_of_lt hxk hk)) (g := (mkF m 40 #[.val (.ref p0), .val (.int i), .val (.int p2), .val (.int (own_i k)), .val (.int (own_i x))] [(.int p2), (.int (own_i x)), (.ref r3)])) rfl rfl (hb hby d9_40)
  have N12 := Fr.snoc X12 N9 FU9.1
  have Z12 : n0 ≤ h12.size := by rw [W12.size]; exact Z9
  obtain ⟨TB12, FU12⟩ := TB9.setRow FU9 (Nat.lt_of_le_of_lt hxk hk) W12
  refine own_by st12 ?_
  show own_Go p.tables e below s _ _ _ (T12.setTop (mkF m 41 #[.val (.ref p0), .val (.int i), .val (.int p2), .val (.int (own_i k)), .val (.int (own_i x))] []))
  refine own_by (fun _ kz => XS.aloadN X12.here hx rfl (hb hby d9_41) rfl rfl kz) ?_
  show own_Go p.tables e below s _ _ _ (T12.setTop (mkF m 42 #[.val (.ref p0), .val (.int i), .val (.int p2), .val (.int (own_i k)), .val (.int (own_i x))] [(.ref p0)]))
  obtain ⟨T13, X13, e13, st13⟩ := getF X12 hx hZ hown (host := "") (Or.inl (hw _ (List.mem_of_getElem? (i := 23) rfl))) Via.refl e12 TB12.fF (g := (mkF m 42 #[.val (.ref p0), .val (.int i), .val (.int p2), .val (.int (own_i k)), .val (.int (own_i x))] [(.ref p0)])) rfl rfl (hb hby d9_42)
  refine own_by st13 ?_
  show own_Go p.tables e below s _ _ _ (T13.setTop (mkF m 45 #[.val (.ref p0), .val (.int i), .val (.int p2), .val (.int (own_i k)), .val (.int (own_i x))] [(.ref fa)]))
  refine own_by (fun _ kz => XS.iloadN X13.here hx rfl (hb hby d9_45) rfl kz) ?_
  show own_Go p.tables e below s _ _ _ (T13.setTop (mkF m 46 #[.val (.ref p0), .val (.int i), .val (.int p2), .val (.int (own_i k)), .val (.int (own_i x))] [(.int i), (.ref fa)]))
  refine own_by (fun _ kz => XS.iload X13.here hx rfl (hb hby d9_46) rfl kz) ?_
  show own_Go p.tables e below s _ _ _ (T13.setTop (mkF m 48 #[.val (.ref p0), .val (.int i), .val (.int p2), .val (.int (own_i k)), .val (.int (own_i x))] [(.int (own_i x)), (.int i), (.ref fa)]))
  refine own_by (fun _ kz => XS.iconst X13.here hx rfl (hb hby d9_48) kz) ?_
  show own_Go p.tables e below s _ _ _ (T13.setTop (mkF m 49 #[.val (.ref p0), .val (.int i), .val (.int p2), .val (.int (own_i k)), .val (.int (own_i x))] [(.int (1 : Int32)), (.int (own_i x)), (.int i), (.ref fa)]))
  refine own_by (fun _ kz => XS.iadd X13.here hx rfl (hb hby d9_49) rfl kz) ?_
  show own_Go p.tables e below s _ _ _ (T13.setTop (mkF m 50 #[.val (.ref p0), .val (.int i), .val (.int p2), .val (.int (own_i k)), .val (.int (own_i x))] [(.int ((own_i x) + (1 : Int32))), (.int i), (.ref fa)]))
  rw [own_i_succ (x) (by omega)]
  show own_Go p.tables e below s _ _ _ (T13.setTop (mkF m 50 #[.val (.ref p0), .val (.int i), .val (.int p2), .val (.int (own_i k)), .val (.int (own_i x))] [(.int (own_i (x + 1))), (.int i), (.ref fa)]))
  obtain ⟨kc14, Vc14⟩ := TB12.2.2.2.1
  obtain ⟨T14, h14, X14, e14, W14, st14⟩ := own_st X13 hx hZ e13 Vc14 (j := i) (own_i01 hi) (g := (mkF m 50 #[.val (.ref p0), .val (.int i), .val (.int p2), .val (.int (own_i k)), .val (.int (own_i x))] [(.int (own_i (x + 1))), (.int i), (.ref fa)])) rfl rfl (hb hby d9_50)
  have N14 := Fr.snoc X14 N12 TB12.1.1.2.2.2.1
  have Z14 : n0 ≤ h14.size := by rw [W14.size]; exact Z12
  obtain ⟨TB14, FU14⟩ := TB12.setFix hi FU12 W14
  refine own_by st14 ?_
  show own_Go p.tables e below s _ _ _ (T14.setTop (mkF m 51 #[.val (.ref p0), .val (.int i), .val (.int p2), .val (.int (own_i k)), .val (.int (own_i x))] []))
  refine own_by (fun _ kz => XS.aloadN X14.here hx rfl (hb hby d9_51) rfl rfl kz) ?_
  show own_Go p.tables e below s _ _ _ (T14.setTop (mkF m 52 #[.val (.ref p0), .val (.int i), .val (.int p2), .val (.int (own_i k)), .val (.int (own_i x))] [(.ref p0)]))
  obtain ⟨T15, X15, e15, st15⟩ := getF X14 hx hZ hown (host := "") (Or.inl (hw _ (List.mem_of_getElem? (i := 21) rfl))) Via.refl e14 TB14.fC (g := (mkF m 52 #[.val (.ref p0), .val (.int i), .val (.int p2), .val (.int (own_i k)), .val (.int (own_i x))] [(.ref p0)])) rfl rfl (hb hby d9_52)
  refine own_by st15 ?_
  show own_Go p.tables e below s _ _ _ (T15.setTop (mkF m 55 #[.val (.ref p0), .val (.int i), .val (.int p2), .val (.int (own_i k)), .val (.int (own_i x))] [(.ref ca)]))
  refine own_by (fun _ kz => XS.iloadN X15.here hx rfl (hb hby d9_55) rfl kz) ?_
  show own_Go p.tables e below s _ _ _ (T15.setTop (mkF m 56 #[.val (.ref p0), .val (.int i), .val (.int p2), .val (.int (own_i k)), .val (.int (own_i x))] [(.int i), (.ref ca)]))
  refine own_by (fun _ kz => XS.iloadN X15.here hx rfl (hb hby d9_56) rfl kz) ?_
  show own_Go p.tables e below s _ _ _ (T15.setTop (mkF m 57 #[.val (.ref p0), .val (.int i), .val (.int p2), .val (.int (own_i k)), .val (.int (own_i x))] [(.int (own_i k)), (.int i), (.ref ca)]))
  refine own_by (fun _ kz => XS.iconst X15.here hx rfl (hb hby d9_57) kz) ?_
  show own_Go p.tables e below s _ _ _ (T15.setTop (mkF m 58 #[.val (.ref p0), .val (.int i), .val (.int p2), .val (.int (own_i k)), .val (.int (own_i x))] [(.int (1 : Int32)), (.int (own_i k)), (.int i), (.ref ca)]))
  refine own_by (fun _ kz => XS.iadd X15.here hx rfl (hb hby d9_58) rfl kz) ?_
  show own_Go p.tables e below s _ _ _ (T15.setTop (mkF m 59 #[.val (.ref p0), .val (.int i), .val (.int p2), .val (.int (own_i k)), .val (.int (own_i x))] [(.int ((own_i k) + (1 : Int32))), (.int i), (.ref ca)]))
  rw [own_i_succ (k) (by omega)]
  show own_Go p.tables e below s _ _ _ (T15.setTop (mkF m 59 #[.val (.ref p0), .val (.int i), .val (.int p2), .val (.int (own_i k)), .val (.int (own_i x))] [(.int (own_i (k + 1))), (.int i), (.ref ca)]))
  obtain ⟨kc16, Vc16⟩ := TB14.2.2.1
  obtain ⟨T16, h16, X16, e16, W16, st16⟩ := own_st X15 hx hZ e15 Vc16 (j := i) (own_i01 hi) (g := (mkF m 59 #[.val (.ref p0), .val (.int i), .val (.int p2), .val (.int (own_i k)), .val (.int (own_i x))] [(.int (own_i (k + 1))), (.int i), (.ref ca)])) rfl rfl (hb hby d9_59)
  have N16 := Fr.snoc X16 N14 TB14.1.1.2.2.1
  have Z16 : n0 ≤ h16.size := by rw [W16.size]; exact Z14
  obtain ⟨TB16, FU16⟩ := TB14.setCnt hi FU14 W16
  refine own_by st16 ?_
  show own_Go p.tables e below s _ _ _ (T16.setTop (mkF m 60 #[.val (.ref p0), .val (.int i), .val (.int p2), .val (.int (own_i k)), .val (.int (own_i x))] []))
  exact own_retV X16 hx hlk Bd.returns (hb hby d9_60) (by decide) (by decide) ⟨rfl, N16, by rw [e16]; exact Z16, _, by rw [e16]; exact TB16⟩
theorem d10_0 : decode prog_50_method_6_code 0 = .ok (.aload_n 0, 1) := by decide +kernel
theorem d10_1 : decode prog_50_method_6_code 1 = .ok (.getfield 27, 3) := by decide +kernel
theorem d10_4 : decode prog_50_method_6_code 4 = .ok (.iload_n 1, 1) := by decide +kernel
theorem d10_5 : decode prog_50_method_6_code 5 = .ok (.iaload, 1) := by decide +kernel
theorem d10_6 : decode prog_50_method_6_code 6 = .ok (.istore_n 3, 1) := by decide +kernel
theorem d10_7 : decode prog_50_method_6_code 7 = .ok (.iload_n 3, 1) := by decide +kernel
theorem d10_8 : decode prog_50_method_6_code 8 = .ok (.aload_n 0, 1) := by decide +kernel
theorem d10_9 : decode prog_50_method_6_code 9 = .ok (.getfield 24, 3) := by decide +kernel
theorem d10_12 : decode prog_50_method_6_code 12 = .ok (.iload_n 1, 1) := by decide +kernel
theorem d10_13 : decode prog_50_method_6_code 13 = .ok (.iaload, 1) := by decide +kernel
theorem d10_14 : decode prog_50_method_6_code 14 = .ok (.if_icmp .ge 23, 3) := by decide +kernel
theorem d10_17 : decode prog_50_method_6_code 17 = .ok (.aload_n 0, 1) := by decide +kernel
theorem d10_18 : decode prog_50_method_6_code 18 = .ok (.getfield 9, 3) := by decide +kernel
theorem d10_21 : decode prog_50_method_6_code 21 = .ok (.iload_n 1, 1) := by decide +kernel
theorem d10_22 : decode prog_50_method_6_code 22 = .ok (.aaload, 1) := by decide +kernel
theorem d10_23 : decode prog_50_method_6_code 23 = .ok (.iload_n 3, 1) := by decide +kernel
theorem d10_24 : decode prog_50_method_6_code 24 = .ok (.iaload, 1) := by decide +kernel
theorem d10_25 : decode prog_50_method_6_code 25 = .ok (.iload_n 2, 1) := by decide +kernel
theorem d10_26 : decode prog_50_method_6_code 26 = .ok (.if_icmp .ne 5, 3) := by decide +kernel
theorem d10_29 : decode prog_50_method_6_code 29 = .ok (.iconst 1, 1) := by decide +kernel
theorem d10_30 : decode prog_50_method_6_code 30 = .ok (.ireturn, 1) := by decide +kernel
theorem d10_31 : decode prog_50_method_6_code 31 = .ok (.iinc 3 1, 3) := by decide +kernel
theorem d10_34 : decode prog_50_method_6_code 34 = .ok (.goto (-27), 3) := by decide +kernel
theorem d10_37 : decode prog_50_method_6_code 37 = .ok (.iconst 0, 1) := by decide +kernel
theorem d10_38 : decode prog_50_method_6_code 38 = .ok (.ireturn, 1) := by decide +kernel
theorem pf_10 : plainFor (⟨"cyclebreak/collector/ReferenceTable", "holds", "(II)Z"⟩ : MethodName) = true := by first | exact plainFor_of_name (by first | (simp [plainName, overriddenIn]; done) | decide +kernel) | decide +kernel
theorem pd_10 : parseMethodDescriptor "(II)Z" = some ⟨[.int, .int], some .boolean⟩ := by decide +kernel
theorem ef_10 (m : MethodId) (p0 : Addr) (i : Int32) (p2 : Int32) : entryFrame m #[(.ref p0), (.int i), (.int p2)] 4 = mkF m 0 #[.val (.ref p0), .val (.int i), .val (.int p2), .unset] [] := by first | (simp [entryFrame, mkF, argsToLocals, Value.category]; done) | rfl
def Q10 (k : Nat) (x : Nat) (vs : List Int32) (p2 : Int32) (h0 : Heap) (n0 : Nat) (v : Option Value) (h : Heap) (L : List Loc) : Prop := v = some (.int (own_b vs x k p2)) ∧ Fr n0 L ∧ h = h0
set_option maxRecDepth 65536 in
set_option maxHeartbeats 40000000 in
theorem rm10 (l : Launch) (Z : State) (a0 : Array Value) (hw : ∀ d ∈ tables_1, d.before a0 Z = true) (ws : List Jvm.Cond) (p0 : Addr) (i : Int32) (p2 : Int32) (h0 : Heap) (n0 : Nat) (Z0 : n0 ≤ h0.size) (N ta ca fa r r2 : Addr) (k k2 x x2 : Nat) (vs us : List Int32) (hi : i = 0 ∨ i = 1) (TB0 : own_Tab Z n0 N p0 ta ca fa i h0 r r2 k k2 x x2 vs us) (hxk : x ≤ k) (hk : k < 5) :
    own_Met l Z (⟨"cyclebreak/collector/ReferenceTable", "holds", "(II)Z"⟩ : MethodName) prog_50_method_6_code 4 (some .boolean) ws ({ frames := 0, cells := 0, slots := 0, locals := 0 } : Room) #[(.ref p0), (.int i), (.int p2)] h0 (Q10 k x vs p2 h0 n0) := by
  refine MetFree.of_bodySF pf_10 hisR ?_
  intro p e s m args below meth c s₁ Bd hml0 hP hK
  obtain ⟨rfl, hZ, hh⟩ := hP
  have hx := Bd.exec
  have hby := Bd.bytes
  have hlk : meth.locks = false := BodyLoose.notSynchronized Bd
  have hml : c.maxLocals = 4 := hml0
  have hown : s.vm.findClass "cyclebreak/collector/ReferenceTable" = some m.cls := findClass_of_methodNamed Bd.named
  have hnm := (name_of_methodNamed Bd.named Bd.method).1
  have X0 : Stand p l e ({ frames := 0, cells := 0, slots := 0, locals := 0 } : Room) s m #[(.ref p0), (.int i), (.int p2)] below meth c s₁ [] 0 0 := Stand.of_body Bd
  have e0 : s₁.heap = h0 := by rw [← hh, Bd.state]; rfl
  have N0 := Fr.nil n0
  show own_Go p.tables e below s (Q10 k x vs p2 h0 n0) ({ frames := 0, cells := 0, slots := 0, locals := 0 } : Room).cells ({ frames := 0, cells := 0, slots := 0, locals := 0 } : Room).slots _
  refine own_by (fun _ k => castTop (ef_10 m p0 i p2) k) ?_
  show own_Go p.tables e below s _ _ _ (s₁.setTop (mkF m 0 #[.val (.ref p0), .val (.int i), .val (.int p2), .unset] []))
  refine own_by (fun _ kz => XS.aloadN X0.here hx rfl (hb hby d10_0) rfl rfl kz) ?_
  show own_Go p.tables e below s _ _ _ (s₁.setTop (mkF m 1 #[.val (.ref p0), .val (.int i), .val (.int p2), .unset] [(.ref p0)]))
  obtain ⟨T1, X1, e1, st1⟩ := getF X0 hx hZ hown (host := "") (Or.inl (hw _ (List.mem_of_getElem? (i := 23) rfl))) Via.refl e0 TB0.fF (g := (mkF m 1 #[.val (.ref p0), .val (.int i), .val (.int p2), .unset] [(.ref p0)])) rfl rfl (hb hby d10_1)
  refine own_by st1 ?_
  show own_Go p.tables e below s _ _ _ (T1.setTop (mkF m 4 #[.val (.ref p0), .val (.int i), .val (.int p2), .unset] [(.ref fa)]))
  refine own_by (fun _ kz => XS.iloadN X1.here hx rfl (hb hby d10_4) rfl kz) ?_
  show own_Go p.tables e below s _ _ _ (T1.setTop (mkF m 5 #[.val (.ref p0), .val (.int i), .val (.int p2), .unset] [(.int i), (.ref fa)]))
  obtain ⟨kc2, Vc2⟩ := TB0.2.2.2.1
  refine own_by (fun _ kz => own_ld X1 hx hZ e1 Vc2 (own_i01 hi) (own_pr_get hi _ _ _) (g := (mkF m 5 #[.val (.ref p0), .val (.int i), .val (.int p2), .unset] [(.int i), (.ref fa)])) rfl rfl (hb hby d10_5) _ kz) ?_
  show own_Go p.tables e below s _ _ _ (T1.setTop (mkF m 6 #[.val (.ref p0), .val (.int i), .val (.int p2), .unset] [(.int (own_i x))]))
  refine own_by (fun _ kz => XS.istoreN X1.here hx rfl (hb hby d10_6) rfl (l' := #[.val (.ref p0), .val (.int i), .val (.int p2), .val (.int (own_i x))]) rfl kz) ?_
  show own_Go p.tables e below s _ _ _ (T1.setTop (mkF m 7 #[.val (.ref p0), .val (.int i), .val (.int p2), .val (.int (own_i x))] []))
  have loop : ∀ (n j : Nat) (T : State), Stand p l e ({ frames := 0, cells := 0, slots := 0, locals := 0 } : Room) s m #[(.ref p0), (.int i), (.int p2)] below meth c T [] 0 0 → T.heap = h0 → j + n = k → own_has vs p2 (k - x) x = own_has vs p2 n j → own_Go p.tables e below s (Q10 k x vs p2 h0 n0) ({ frames := 0, cells := 0, slots := 0, locals := 0 } : Room).cells ({ frames := 0, cells := 0, slots := 0, locals := 0 } : Room).slots (T.setTop (mkF m 7 #[.val (.ref p0), .val (.int i), .val (.int p2), .val (.int (own_i j))] [])) := by
    intro n
    induction n with
    | zero =>
      intro j T X eT hjn he
      refine own_by (fun _ kz => XS.iloadN X.here hx rfl (hb hby d10_7) rfl kz) ?_
      show own_Go p.tables e below s _ _ _ (T.setTop (mkF m 8 #[.val (.ref p0), .val (.int i), .val (.int p2), .val (.int (own_i j))] [(.int (own_i j))]))
      refine own_by (fun _ kz => XS.aloadN X.here hx rfl (hb hby d10_8) rfl rfl kz) ?_
      show own_Go p.tables e below s _ _ _ (T.setTop (mkF m 9 #[.val (.ref p0), .val (.int i), .val (.int p2), .val (.int (own_i j))] [(.ref p0), (.int (own_i j))]))
      obtain ⟨T3, X3, e3, st3⟩ := getF X hx hZ hown (host := "") (Or.inl (hw _ (List.mem_of_getElem? (i := 21) rfl))) Via.refl eT TB0.fC (g := (mkF m 9 #[.val (.ref p0), .val (.int i), .val (.int p2), .val (.int (own_i j))] [(.ref p0), (.int (own_i j))])) rfl rfl (hb hby d10_9)
      refine own_by st3 ?_
      show own_Go p.tables e below s _ _ _ (T3.setTop (mkF m 12 #[.val (.ref p0), .val (.int i), .val (.int p2), .val (.int (own_i j))] [(.ref ca), (.int (own_i j))]))
      refine own_by (fun _ kz => XS.iloadN X3.here hx rfl (hb hby d10_12) rfl kz) ?_
      show own_Go p.tables e below s _ _ _ (T3.setTop (mkF m 13 #[.val (.ref p0), .val (.int i), .val (.int p2), .val (.int (own_i j))] [(.int i), (.ref ca), (.int (own_i j))]))
      obtain ⟨kc4, Vc4⟩ := TB0.2.2.1
      refine own_by (fun _ kz => own_ld X3 hx hZ e3 Vc4 (own_i01 hi) (own_pr_get hi _ _ _) (g := (mkF m 13 #[.val (.ref p0), .val (.int i), .val (.int p2), .val (.int (own_i j))] [(.int i), (.ref ca), (.int (own_i j))])) rfl rfl (hb hby d10_13) _ kz) ?_
      show own_Go p.tables e below s _ _ _ (T3.setTop (mkF m 14 #[.val (.ref p0), .val (.int i), .val (.int p2), .val (.int (own_i j))] [(.int (own_i k)), (.int (own_i j))]))
      refine own_by (fun _ kz => XS.icmpYes X3.here hx rfl (pc0 := 14) (pc' := 37) rfl (hb hby d10_14) rfl (flt (show ¬ (own_i j) < (own_i k) from fun q => by have := (own_i_lt j (by omega) k (by omega)).mp q; omega)).2.1 (by decide) (by decide) kz) ?_
      show own_Go p.tables e below s _ _ _ (T3.setTop (mkF m 37 #[.val (.ref p0), .val (.int i), .val (.int p2), .val (.int (own_i j))] []))
      refine own_by (fun _ kz => XS.iconst X3.here hx rfl (hb hby d10_37) kz) ?_
      show own_Go p.tables e below s _ _ _ (T3.setTop (mkF m 38 #[.val (.ref p0), .val (.int i), .val (.int p2), .val (.int (own_i j))] [(.int (0 : Int32))]))
      have hb' : own_b vs x k p2 = 0 := by unfold own_b; rw [he]; rfl
      exact own_retZ X3 hx hlk Bd.returns (hb hby d10_38) (by decide) (by decide) ⟨by rw [hb']; rfl, N0, e3⟩
    | succ n ih =>
      intro j T X eT hjn he
      have FU0 := TB0.full (by omega)
      refine own_by (fun _ kz => XS.iloadN X.here hx rfl (hb hby d10_7) rfl kz) ?_
      show own_Go p.tables e below s _ _ _ (T.setTop (mkF m 8 #[.val (.ref p0), .val (.int i), .val (.int p2), .val (.int (own_i j))] [(.int (own_i j))]))
      refine own_by (fun _ kz => XS.aloadN X.here hx rfl (hb hby d10_8) rfl rfl kz) ?_
      show own_Go p.tables e below s _ _ _ (T.setTop (mkF m 9 #[.val (.ref p0), .val (.int i), .val (.int p2), .val (.int (own_i j))] [(.ref p0), (.int (own_i j))]))
      obtain ⟨T5, X5, e5, st5⟩ := getF X hx hZ hown (host := "") (Or.inl (hw _ (List.mem_of_getElem? (i := 21) rfl))) Via.refl eT TB0.fC (g := (mkF m 9 #[.val (.ref p0), .val (.int i), .val (.int p2), .val (.int (own_i j))] [(.ref p0), (.int (own_i j))])) rfl rfl (hb hby d10_9)
      refine own_by st5 ?_
      show own_Go p.tables e below s _ _ _ (T5.setTop (mkF m 12 #[.val (.ref p0), .val (.int i), .val (.int p2), .val (.int (own_i j))] [(.ref ca), (.int (own_i j))]))
      refine own_by (fun _ kz => XS.iloadN X5.here hx rfl (hb hby d10_12) rfl kz) ?_
      show own_Go p.tables e below s _ _ _ (T5.setTop (mkF m 13 #[.val (.ref p0), .val (.int i), .val (.int p2), .val (.int (own_i j))] [(.int i), (.ref ca), (.int (own_i j))]))
      obtain ⟨kc6, Vc6⟩ := TB0.2.2.1
      refine own_by (fun _ kz => own_ld X5 hx hZ e5 Vc6 (own_i01 hi) (own_pr_get hi _ _ _) (g := (mkF m 13 #[.val (.ref p0), .val (.int i), .val (.int p2), .val (.int (own_i j))] [(.int i), (.ref ca), (.int (own_i j))])) rfl rfl (hb hby d10_13) _ kz) ?_
      show own_Go p.tables e below s _ _ _ (T5.setTop (mkF m 14 #[.val (.ref p0), .val (.int i), .val (.int p2), .val (.int (own_i j))] [(.int (own_i k)), (.int (own_i j))]))
      refine own_by (fun _ kz => XS.icmpNo X5.here hx rfl (hb hby d10_14) rfl (tlt (show (own_i j) < (own_i k) from (own_i_lt j (by omega) k (by omega)).mpr (by omega))).2.1 kz) ?_
      show own_Go p.tables e below s _ _ _ (T5.setTop (mkF m 17 #[.val (.ref p0), .val (.int i), .val (.int p2), .val (.int (own_i j))] []))
      refine own_by (fun _ kz => XS.aloadN X5.here hx rfl (hb hby d10_17) rfl rfl kz) ?_
      show own_Go p.tables e below s _ _ _ (T5.setTop (mkF m 18 #[.val (.ref p0), .val (.int i), .val (.int p2), .val (.int (own_i j))] [(.ref p0)]))
      obtain ⟨T7, X7, e7, st7⟩ := getF X5 hx hZ hown (host := "") (Or.inl (hw _ (List.mem_of_getElem? (i := 11) rfl))) Via.refl e5 TB0.fT (g := (mkF m 18 #[.val (.ref p0), .val (.int i), .val (.int p2), .val (.int (own_i j))] [(.ref p0)])) rfl rfl (hb hby d10_18)
      refine own_by st7 ?_
      show own_Go p.tables e below s _ _ _ (T7.setTop (mkF m 21 #[.val (.ref p0), .val (.int i), .val (.int p2), .val (.int (own_i j))] [(.ref ta)]))
      refine own_by (fun _ kz => XS.iloadN X7.here hx rfl (hb hby d10_21) rfl kz) ?_
      show own_Go p.tables e below s _ _ _ (T7.setTop (mkF m 22 #[.val (.ref p0), .val (.int i), .val (.int p2), .val (.int (own_i j))] [(.int i), (.ref ta)]))
      obtain ⟨kt8, Ov8, Vt8⟩ := TB0.2.1
      refine own_by (fun _ kz => own_ldA X7 hx hZ e7 Vt8 rfl (own_i01 hi) (own_pr_get hi _ _ _) (g := (mkF m 22 #[.val (.ref p0), .val (.int i), .val (.int p2), .val (.int (own_i j))] [(.int i), (.ref ta)])) rfl rfl (hb hby d10_22) _ kz) ?_
      show own_Go p.tables e below s _ _ _ (T7.setTop (mkF m 23 #[.val (.ref p0), .val (.int i), .val (.int p2), .val (.int (own_i j))] [(.ref r)]))
      refine own_by (fun _ kz => XS.iloadN X7.here hx rfl (hb hby d10_23) rfl kz) ?_
      show own_Go p.tables e below s _ _ _ (T7.setTop (mkF m 24 #[.val (.ref p0), .val (.int i), .val (.int p2), .val (.int (own_i j))] [(.int (own_i j)), (.ref r)]))
      obtain ⟨-, -, -, kr9, Vr9⟩ := id FU0
      refine own_by (fun _ kz => own_ld X7 hx hZ e7 Vr9 (own_i_lt4 (show j < 4 by omega)) (own_at (show j < 4 by omega) vs) (g := (mkF m 24 #[.val (.ref p0), .val (.int i), .val (.int p2), .val (.int (own_i j))] [(.int (own_i j)), (.ref r)])) rfl rfl (hb hby d10_24) _ kz) ?_
      show own_Go p.tables e below s _ _ _ (T7.setTop (mkF m 25 #[.val (.ref p0), .val (.int i), .val (.int p2), .val (.int (own_i j))] [(.int (vs.getD (j) 0))]))
      refine own_by (fun _ kz => XS.iloadN X7.here hx rfl (hb hby d10_25) rfl kz) ?_
      show own_Go p.tables e below s _ _ _ (T7.setTop (mkF m 26 #[.val (.ref p0), .val (.int i), .val (.int p2), .val (.int (own_i j))] [(.int p2), (.int (vs.getD (j) 0))]))
      by_cases hc26_10 : (vs.getD (j) 0) = p2
      · refine own_by (fun _ kz => XS.icmpNo X7.here hx rfl (hb hby d10_26) rfl (teq hc26_10).2 kz) ?_
        show own_Go p.tables e below s _ _ _ (T7.setTop (mkF m 29 #[.val (.ref p0), .val (.int i), .val (.int p2), .val (.int (own_i j))] []))
        refine own_by (fun _ kz => XS.iconst X7.here hx rfl (hb hby d10_29) kz) ?_
        show own_Go p.tables e below s _ _ _ (T7.setTop (mkF m 30 #[.val (.ref p0), .val (.int i), .val (.int p2), .val (.int (own_i j))] [(.int (1 : Int32))]))
        have hb' : own_b vs x k p2 = 1 := by unfold own_b; rw [he]; simp only [own_has, decide_eq_true hc26_10, Bool.true_or, if_true]
        exact own_retZ X7 hx hlk Bd.returns (hb hby d10_30) (by decide) (by decide) ⟨by rw [hb']; rfl, N0, e7⟩
      · refine own_by (fun _ kz => XS.icmpYes X7.here hx rfl (pc0 := 26) (pc' := 31) rfl (hb hby d10_26) rfl (feq hc26_10).2 (by decide) (by decide) kz) ?_
        show own_Go p.tables e below s _ _ _ (T7.setTop (mkF m 31 #[.val (.ref p0), .val (.int i), .val (.int p2), .val (.int (own_i j))] []))
        refine own_by (fun _ kz => XS.iinc X7.here hx rfl (hb hby d10_31) rfl (l' := #[.val (.ref p0), .val (.int i), .val (.int p2), .val (.int (own_i j + 1))]) rfl kz) ?_
        show own_Go p.tables e below s _ _ _ (T7.setTop (mkF m 34 #[.val (.ref p0), .val (.int i), .val (.int p2), .val (.int (own_i j + 1))] []))
        rw [own_i_succ j (by omega)]
        show own_Go p.tables e below s _ _ _ (T7.setTop (mkF m 34 #[.val (.ref p0), .val (.int i), .val (.int p2), .val (.int (own_i (j + 1)))] []))
        refine own_by (fun _ kz => XS.goto X7.here hx rfl (pc0 := 34) (pc' := 7) rfl (hb hby d10_34) (by decide) (by decide) kz) ?_
        exact ih (j + 1) _ X7 e7 (by omega) (by rw [he]; simp only [own_has, decide_eq_false hc26_10, Bool.false_or])
  exact loop (k - x) x _ X1 e1 (by omega) rfl
/-! ## which ints the rows hold, fixed ones left out -/
def own_In (vs : List Int32) (x k : Nat) (y : Int32) : Prop := ∃ j, x ≤ j ∧ j < k ∧ vs.getD j 0 = y
theorem own_has_iff (vs : List Int32) (y : Int32) : ∀ n j, own_has vs y n j = true ↔ ∃ q, j ≤ q ∧ q < j + n ∧ vs.getD q 0 = y := by
  intro n
  induction n with
  | zero => intro j; constructor
            · intro q; cases q
            · rintro ⟨q, h1, h2, -⟩; omega
  | succ n ih =>
    intro j
    simp only [own_has, Bool.or_eq_true, decide_eq_true_eq, ih]
    constructor
    · rintro (q | ⟨q, h1, h2, h3⟩)
      · exact ⟨j, Nat.le_refl _, by omega, q⟩
      · exact ⟨q, by omega, by omega, h3⟩
    · rintro ⟨q, h1, h2, h3⟩
      by_cases e : q = j
      · subst e; exact Or.inl h3
      · exact Or.inr ⟨q, by omega, by omega, h3⟩
theorem own_b1 {vs : List Int32} {x k : Nat} {y : Int32} (h : own_In vs x k y) : own_b vs x k y = 1 := by
  obtain ⟨j, h1, h2, h3⟩ := h
  exact if_pos ((own_has_iff vs y (k - x) x).mpr ⟨j, h1, by omega, h3⟩)
theorem own_b0 {vs : List Int32} {x k : Nat} {y : Int32} (h : ¬ own_In vs x k y) : own_b vs x k y = 0 := by
  refine if_neg fun q => h ?_
  obtain ⟨j, h1, h2, h3⟩ := (own_has_iff vs y (k - x) x).mp q
  exact ⟨j, h1, by omega, h3⟩
theorem own_getD_set (vs : List Int32) (i j : Nat) (z : Int32) (hi : i < vs.length) : (vs.set i z).getD j 0 = if j = i then z else vs.getD j 0 := by
  simp only [List.getD_eq_getElem?_getD, List.getElem?_set]
  by_cases e : i = j
  · subst e; simp [hi]
  · have e' : ¬ j = i := fun q => e q.symm
    simp [e, e']
theorem own_In_add {vs : List Int32} {x k : Nat} {z : Int32} (hl : k < vs.length) (hx : x ≤ k) (y : Int32) : own_In (vs.set k z) x (k + 1) y ↔ own_In vs x k y ∨ y = z := by
  constructor
  · rintro ⟨j, h1, h2, h3⟩
    rw [own_getD_set vs k j z hl] at h3
    by_cases e : j = k
    · rw [if_pos e] at h3; exact Or.inr h3.symm
    · rw [if_neg e] at h3; exact Or.inl ⟨j, h1, by omega, h3⟩
  · rintro (⟨j, h1, h2, h3⟩ | rfl)
    · exact ⟨j, h1, by omega, by rw [own_getD_set vs k j z hl, if_neg (by omega)]; exact h3⟩
    · exact ⟨k, hx, by omega, by rw [own_getD_set vs k k y hl, if_pos rfl]⟩
theorem own_In_fix {vs : List Int32} {x k : Nat} {z : Int32} (hl : k < vs.length) (hx : x ≤ k) (y : Int32) : own_In ((vs.set k (vs.getD x 0)).set x z) (x + 1) (k + 1) y ↔ own_In vs x k y := by
  have hl' : x < (vs.set k (vs.getD x 0)).length := by rw [List.length_set]; omega
  have g : ∀ j, x + 1 ≤ j → ((vs.set k (vs.getD x 0)).set x z).getD j 0 = if j = k then vs.getD x 0 else vs.getD j 0 := fun j hj => by
    rw [own_getD_set _ x j z hl', if_neg (by omega), own_getD_set vs k j _ hl]
  constructor
  · rintro ⟨j, h1, h2, h3⟩
    rw [g j h1] at h3
    by_cases e : j = k
    · rw [if_pos e] at h3; exact ⟨x, Nat.le_refl _, by omega, h3⟩
    · rw [if_neg e] at h3; exact ⟨j, by omega, by omega, h3⟩
  · rintro ⟨j, h1, h2, h3⟩
    by_cases e : j = x
    · subst e; exact ⟨k, by omega, by omega, by rw [g k (by omega), if_pos rfl]; exact h3⟩
    · exact ⟨j, by omega, by omega, by rw [g j (by omega), if_neg (by omega)]; exact h3⟩
/-- the table between two steps of the law -/
def own_S (Z : State) (n0 : Nat) (N a t c f : Addr) (h : Heap) (A B : Int32 → Prop) (b0 b1 : Nat) : Prop :=
  ∃ (r r2 : Addr) (k k2 x x2 : Nat) (vs us : List Int32), own_Tab Z n0 N a t c f 0 h r r2 k k2 x x2 vs us ∧ (x ≤ k ∧ k ≤ b0 ∧ vs.length = 4) ∧ (x2 ≤ k2 ∧ k2 ≤ b1 ∧ us.length = 4) ∧ (∀ y, own_In vs x k y ↔ A y) ∧ (∀ y, own_In us x2 k2 y ↔ B y)
theorem own_S.mono {Z : State} {n0 : Nat} {N a t c f : Addr} {h : Heap} {A B A' B' : Int32 → Prop} {b0 b1 b0' b1' : Nat} (S : own_S Z n0 N a t c f h A B b0 b1) (hA : ∀ y, A y ↔ A' y) (hB : ∀ y, B y ↔ B' y) (h0 : b0 ≤ b0') (h1 : b1 ≤ b1') : own_S Z n0 N a t c f h A' B' b0' b1' := by
  obtain ⟨r, r2, k, k2, x, x2, vs, us, T, ⟨q1, q2, q3⟩, ⟨q4, q5, q6⟩, q7, q8⟩ := S
  exact ⟨r, r2, k, k2, x, x2, vs, us, T, ⟨q1, by omega, q3⟩, ⟨q4, by omega, q6⟩, fun y => (q7 y).trans (hA y), fun y => (q8 y).trans (hB y)⟩


theorem pf_0 : plainFor x = true := by first | exact plainFor_of_name (by first | (simp [plainName, overriddenIn]; done) | decide +kernel) | decide +kernel
theorem pd_0 : parseMethodDescriptor "(IIIIII)Z" = some ⟨[.int, .int, .int, .int, .int, .int], some .boolean⟩ := by decide +kernel
theorem ef_0 (m : MethodId) (p0 : Int32) (p1 : Int32) (p2 : Int32) (p3 : Int32) (p4 : Int32) (p5 : Int32) : entryFrame m #[(.int p0), (.int p1), (.int p2), (.int p3), (.int p4), (.int p5)] maxLocals = mkF m 0 #[.val (.int p0), .val (.int p1), .val (.int p2), .val (.int p3), .val (.int p4), .val (.int p5), .unset, .unset, .unset, .unset, .unset, .unset, .unset, .unset, .unset, .unset, .unset] [] := by first | (simp [entryFrame, mkF, argsToLocals, Value.category, maxLocals]; done) | rfl
def Q0 (p0 : Int32) (p1 : Int32) (p2 : Int32) (p3 : Int32) (p4 : Int32) (p5 : Int32) (h0 : Heap) (n0 : Nat) (v : Option Value) (h : Heap) (L : List Loc) : Prop := v = some (.int 1) ∧ Fr n0 L
set_option maxRecDepth 65536 in
set_option maxHeartbeats 40000000 in
theorem rm0 (l : Launch) (Z : State) (a0 : Array Value) (hw : ∀ d ∈ tables_1, d.before a0 Z = true) (ws : List Jvm.Cond) (p0 : Int32) (p1 : Int32) (p2 : Int32) (p3 : Int32) (p4 : Int32) (p5 : Int32) (h0 : Heap) (n0 : Nat) (Z0 : n0 ≤ h0.size) (N : Addr) (kN : ClassId) (O0 : Old Z n0 h0) (SN : Sta Z Z.heap "cyclebreak/collector/ReferenceTable" "NONE" "[I" (.ref N)) (EN : Exa Z Z.heap N "[I") (VN : Arv Z Z.heap N kN .int 0 [] (.int (0 : Int32))) (hN : N < n0) :
    own_Met l Z x code maxLocals ret ws room_1 #[(.int p0), (.int p1), (.int p2), (.int p3), (.int p4), (.int p5)] h0 (Q0 p0 p1 p2 p3 p4 p5 h0 n0) := by
  refine MetFree.of_bodySF pf_0 hisR ?_
  intro p e s m args below meth c s₁ Bd hml0 hP hK
  obtain ⟨rfl, hZ, hh⟩ := hP
  have hx := Bd.exec
  have hby := Bd.bytes
  have hlk : meth.locks = false := BodyLoose.notSynchronized Bd
  have hml : c.maxLocals = 17 := hml0
  have hown : s.vm.findClass "cyclebreak/collector/ReferenceTableHoldsPinLaw" = some m.cls := findClass_of_methodNamed Bd.named
  have hnm := (name_of_methodNamed Bd.named Bd.method).1
  have X0 : Stand p l e room_1 s m #[(.int p0), (.int p1), (.int p2), (.int p3), (.int p4), (.int p5)] below meth c s₁ [] 0 0 := Stand.of_body Bd
  have e0 : s₁.heap = h0 := by rw [← hh, Bd.state]; rfl
  have N0 := Fr.nil n0
  show own_Go p.tables e below s (Q0 p0 p1 p2 p3 p4 p5 h0 n0) room_1.cells room_1.slots _
  refine own_by (fun _ k => castTop (ef_0 m p0 p1 p2 p3 p4 p5) k) ?_
  show own_Go p.tables e below s _ _ _ (s₁.setTop (mkF m 0 #[.val (.int p0), .val (.int p1), .val (.int p2), .val (.int p3), .val (.int p4), .val (.int p5), .unset, .unset, .unset, .unset, .unset, .unset, .unset, .unset, .unset, .unset, .unset] []))
  have j12 : ∀ z6 : Int32, own_Go p.tables e below s (Q0 p0 p1 p2 p3 p4 p5 h0 n0) room_1.cells room_1.slots (s₁.setTop (mkF m 12 #[.val (.int p0), .val (.int p1), .val (.int p2), .val (.int p3), .val (.int p4), .val (.int p5), .unset, .unset, .unset, .unset, .unset, .unset, .unset, .unset, .unset, .unset, .unset] [(.int z6)])) := by
    intro z6
    refine own_by (fun _ kz => XS.istore X0.here hx rfl (hb hby at_12) rfl (l' := #[.val (.int p0), .val (.int p1), .val (.int p2), .val (.int p3), .val (.int p4), .val (.int p5), .val (.int z6), .unset, .unset, .unset, .unset, .unset, .unset, .unset, .unset, .unset, .unset]) rfl kz) ?_
    show own_Go p.tables e below s _ _ _ (s₁.setTop (mkF m 14 #[.val (.int p0), .val (.int p1), .val (.int p2), .val (.int p3), .val (.int p4), .val (.int p5), .val (.int z6), .unset, .unset, .unset, .unset, .unset, .unset, .unset, .unset, .unset, .unset] []))
    have j26 : ∀ z7 : Int32, own_Go p.tables e below s (Q0 p0 p1 p2 p3 p4 p5 h0 n0) room_1.cells room_1.slots (s₁.setTop (mkF m 26 #[.val (.int p0), .val (.int p1), .val (.int p2), .val (.int p3), .val (.int p4), .val (.int p5), .val (.int z6), .unset, .unset, .unset, .unset, .unset, .unset, .unset, .unset, .unset, .unset] [(.int z7)])) := by
      intro z7
      refine own_by (fun _ kz => XS.istore X0.here hx rfl (hb hby at_26) rfl (l' := #[.val (.int p0), .val (.int p1), .val (.int p2), .val (.int p3), .val (.int p4), .val (.int p5), .val (.int z6), .val (.int z7), .unset, .unset, .unset, .unset, .unset, .unset, .unset, .unset, .unset]) rfl kz) ?_
      show own_Go p.tables e below s _ _ _ (s₁.setTop (mkF m 28 #[.val (.int p0), .val (.int p1), .val (.int p2), .val (.int p3), .val (.int p4), .val (.int p5), .val (.int z6), .val (.int z7), .unset, .unset, .unset, .unset, .unset, .unset, .unset, .unset, .unset] []))
      have j40 : ∀ z8 : Int32, own_Go p.tables e below s (Q0 p0 p1 p2 p3 p4 p5 h0 n0) room_1.cells room_1.slots (s₁.setTop (mkF m 40 #[.val (.int p0), .val (.int p1), .val (.int p2), .val (.int p3), .val (.int p4), .val (.int p5), .val (.int z6), .val (.int z7), .unset, .unset, .unset, .unset, .unset, .unset, .unset, .unset, .unset] [(.int z8)])) := by
        intro z8
        refine own_by (fun _ kz => XS.istore X0.here hx rfl (hb hby at_40) rfl (l' := #[.val (.int p0), .val (.int p1), .val (.int p2), .val (.int p3), .val (.int p4), .val (.int p5), .val (.int z6), .val (.int z7), .val (.int z8), .unset, .unset, .unset, .unset, .unset, .unset, .unset, .unset]) rfl kz) ?_
        show own_Go p.tables e below s _ _ _ (s₁.setTop (mkF m 42 #[.val (.int p0), .val (.int p1), .val (.int p2), .val (.int p3), .val (.int p4), .val (.int p5), .val (.int z6), .val (.int z7), .val (.int z8), .unset, .unset, .unset, .unset, .unset, .unset, .unset, .unset] []))
        have j55 : ∀ z9 : Int32, own_Go p.tables e below s (Q0 p0 p1 p2 p3 p4 p5 h0 n0) room_1.cells room_1.slots (s₁.setTop (mkF m 55 #[.val (.int p0), .val (.int p1), .val (.int p2), .val (.int p3), .val (.int p4), .val (.int p5), .val (.int z6), .val (.int z7), .val (.int z8), .unset, .unset, .unset, .unset, .unset, .unset, .unset, .unset] [(.int z9)])) := by
          intro z9
          refine own_by (fun _ kz => XS.istore X0.here hx rfl (hb hby at_55) rfl (l' := #[.val (.int p0), .val (.int p1), .val (.int p2), .val (.int p3), .val (.int p4), .val (.int p5), .val (.int z6), .val (.int z7), .val (.int z8), .val (.int z9), .unset, .unset, .unset, .unset, .unset, .unset, .unset]) rfl kz) ?_
          show own_Go p.tables e below s _ _ _ (s₁.setTop (mkF m 57 #[.val (.int p0), .val (.int p1), .val (.int p2), .val (.int p3), .val (.int p4), .val (.int p5), .val (.int z6), .val (.int z7), .val (.int z8), .val (.int z9), .unset, .unset, .unset, .unset, .unset, .unset, .unset] []))
          have j70 : ∀ z10 : Int32, own_Go p.tables e below s (Q0 p0 p1 p2 p3 p4 p5 h0 n0) room_1.cells room_1.slots (s₁.setTop (mkF m 70 #[.val (.int p0), .val (.int p1), .val (.int p2), .val (.int p3), .val (.int p4), .val (.int p5), .val (.int z6), .val (.int z7), .val (.int z8), .val (.int z9), .unset, .unset, .unset, .unset, .unset, .unset, .unset] [(.int z10)])) := by
            intro z10
            refine own_by (fun _ kz => XS.istore X0.here hx rfl (hb hby at_70) rfl (l' := #[.val (.int p0), .val (.int p1), .val (.int p2), .val (.int p3), .val (.int p4), .val (.int p5), .val (.int z6), .val (.int z7), .val (.int z8), .val (.int z9), .val (.int z10), .unset, .unset, .unset, .unset, .unset, .unset]) rfl kz) ?_
            show own_Go p.tables e below s _ _ _ (s₁.setTop (mkF m 72 #[.val (.int p0), .val (.int p1), .val (.int p2), .val (.int p3), .val (.int p4), .val (.int p5), .val (.int z6), .val (.int z7), .val (.int z8), .val (.int z9), .val (.int z10), .unset, .unset, .unset, .unset, .unset, .unset] []))
            have j85 : ∀ z11 : Int32, own_Go p.tables e below s (Q0 p0 p1 p2 p3 p4 p5 h0 n0) room_1.cells room_1.slots (s₁.setTop (mkF m 85 #[.val (.int p0), .val (.int p1), .val (.int p2), .val (.int p3), .val (.int p4), .val (.int p5), .val (.int z6), .val (.int z7), .val (.int z8), .val (.int z9), .val (.int z10), .unset, .unset, .unset, .unset, .unset, .unset] [(.int z11)])) := by
              intro z11
              refine own_by (fun _ kz => XS.istore X0.here hx rfl (hb hby at_85) rfl (l' := #[.val (.int p0), .val (.int p1), .val (.int p2), .val (.int p3), .val (.int p4), .val (.int p5), .val (.int z6), .val (.int z7), .val (.int z8), .val (.int z9), .val (.int z10), .val (.int z11), .unset, .unset, .unset, .unset, .unset]) rfl kz) ?_
              show own_Go p.tables e below s _ _ _ (s₁.setTop (mkF m 87 #[.val (.int p0), .val (.int p1), .val (.int p2), .val (.int p3), .val (.int p4), .val (.int p5), .val (.int z6), .val (.int z7), .val (.int z8), .val (.int z9), .val (.int z10), .val (.int z11), .unset, .unset, .unset, .unset, .unset] []))
              obtain ⟨T1, h1, X1, e1, E1, A1, D1, -, st1⟩ := newO X0 hx hZ hown (hw _ (List.mem_of_getElem? (i := 0) rfl)) (hw _ (List.mem_of_getElem? (i := 1) rfl)) (hw _ (List.mem_of_getElem? (i := 2) rfl)) e0 (g := (mkF m 87 #[.val (.int p0), .val (.int p1), .val (.int p2), .val (.int p3), .val (.int p4), .val (.int p5), .val (.int z6), .val (.int z7), .val (.int z8), .val (.int z9), .val (.int z10), .val (.int z11), .unset, .unset, .unset, .unset, .unset] [])) rfl (hb hby at_87) (by decide) (by decide)
              obtain ⟨b1, g1⟩ : ∃ z, z = h0.size := ⟨_, rfl⟩
              rw [← g1] at A1 D1 st1
              have ge_b1 : n0 ≤ b1 := Nat.le_trans Z0 (Nat.le_of_eq g1.symm)
              have Z1 : n0 ≤ h1.size := Nat.le_trans Z0 E1.1
              have O1 := O0.ext E1
              have F1_targets : Fld Z h1 b1 "cyclebreak/collector/ReferenceTable" "targets" "[[I" .null := D1 (Or.inr (hw _ (List.mem_of_getElem? (i := 12) rfl))) (ty := (.array (.array .int))) (by decide)
              have F1_counts : Fld Z h1 b1 "cyclebreak/collector/ReferenceTable" "counts" "[I" .null := D1 (Or.inr (hw _ (List.mem_of_getElem? (i := 22) rfl))) (ty := (.array .int)) (by decide)
              have F1_fixed : Fld Z h1 b1 "cyclebreak/collector/ReferenceTable" "fixed" "[I" .null := D1 (Or.inr (hw _ (List.mem_of_getElem? (i := 24) rfl))) (ty := (.array .int)) (by decide)
              refine own_by st1 ?_
              show own_Go p.tables e below s _ _ _ (T1.setTop (mkF m 90 #[.val (.int p0), .val (.int p1), .val (.int p2), .val (.int p3), .val (.int p4), .val (.int p5), .val (.int z6), .val (.int z7), .val (.int z8), .val (.int z9), .val (.int z10), .val (.int z11), .unset, .unset, .unset, .unset, .unset] [(.ref b1)]))
              refine own_by (fun _ kz => XS.dup X1.here hx rfl (hb hby at_90) rfl rfl kz) ?_
              show own_Go p.tables e below s _ _ _ (T1.setTop (mkF m 91 #[.val (.int p0), .val (.int p1), .val (.int p2), .val (.int p3), .val (.int p4), .val (.int p5), .val (.int z6), .val (.int z7), .val (.int z8), .val (.int z9), .val (.int z10), .val (.int z11), .unset, .unset, .unset, .unset, .unset] [(.ref b1), (.ref b1)]))
              refine own_by (fun _ kz => XS.iconst X1.here hx rfl (hb hby at_91) kz) ?_
              show own_Go p.tables e below s _ _ _ (T1.setTop (mkF m 92 #[.val (.int p0), .val (.int p1), .val (.int p2), .val (.int p3), .val (.int p4), .val (.int p5), .val (.int z6), .val (.int z7), .val (.int z8), .val (.int z9), .val (.int z10), .val (.int z11), .unset, .unset, .unset, .unset, .unset] [(.int (2 : Int32)), (.ref b1), (.ref b1)]))
              obtain ⟨v2, T2, L2, X2, q2, st2⟩ := own_callI X1 hx hZ rfl hown (hw _ (List.mem_of_getElem? (i := 3) rfl)) (hw _ (List.mem_of_getElem? (i := 4) rfl)) (hw _ (List.mem_of_getElem? (i := 2) rfl)) (hw _ (List.mem_of_getElem? (i := 5) rfl)) (by decide) (rm1 l Z a0 hw [] b1 h1 n0 Z1 N kN O1 SN EN VN hN A1 F1_targets F1_counts F1_fixed ge_b1) (W := 1) (by decide) (by decide) e1 (g := (mkF m 92 #[.val (.int p0), .val (.int p1), .val (.int p2), .val (.int p3), .val (.int p4), .val (.int p5), .val (.int z6), .val (.int z7), .val (.int z8), .val (.int z9), .val (.int z10), .val (.int z11), .unset, .unset, .unset, .unset, .unset] [(.int (2 : Int32)), (.ref b1), (.ref b1)])) rfl (by rw [hml]; rfl) (a := b1) (argsL := [(.int (2 : Int32))]) (rest := [(.ref b1)]) (lenOf pd_1 rfl) rfl rfl (by show 2 * 0 + _ ≤ _; exact Nat.le_of_eq rfl) (hb hby at_92) (by decide) (by decide)
              obtain ⟨ta, ca, fa, rfl, Nq2, Zq2, TB2⟩ := q2
              have N2 := Fr.app N0 Nq2
              refine own_by st2 ?_
              show own_Go p.tables e below s _ _ _ (T2.setTop (mkF m 95 #[.val (.int p0), .val (.int p1), .val (.int p2), .val (.int p3), .val (.int p4), .val (.int p5), .val (.int z6), .val (.int z7), .val (.int z8), .val (.int z9), .val (.int z10), .val (.int z11), .unset, .unset, .unset, .unset, .unset] [(.ref b1)]))
              have S0 : own_S Z n0 N b1 ta ca fa T2.heap (fun y => False) (fun y => False) 0 0 := ⟨_, _, _, _, _, _, _, _, TB2, ⟨Nat.le_refl _, Nat.le_refl _, rfl⟩, ⟨Nat.le_refl _, Nat.le_refl _, rfl⟩, fun y => ⟨fun ⟨j, _, q, _⟩ => absurd q (Nat.not_lt_zero _), False.elim⟩, fun y => ⟨fun ⟨j, _, q, _⟩ => absurd q (Nat.not_lt_zero _), False.elim⟩⟩
              show own_Go p.tables e below s _ _ _ (T2.setTop (mkF m 95 #[.val (.int p0), .val (.int p1), .val (.int p2), .val (.int p3), .val (.int p4), .val (.int p5), .val (.int z6), .val (.int z7), .val (.int z8), .val (.int z9), .val (.int z10), .val (.int z11), .unset, .unset, .unset, .unset, .unset] [(.ref b1)]))
              refine own_by (fun _ kz => XS.astore X2.here hx rfl (hb hby at_95) rfl rfl (l' := #[.val (.int p0), .val (.int p1), .val (.int p2), .val (.int p3), .val (.int p4), .val (.int p5), .val (.int z6), .val (.int z7), .val (.int z8), .val (.int z9), .val (.int z10), .val (.int z11), .val (.ref b1), .unset, .unset, .unset, .unset]) rfl kz) ?_
              show own_Go p.tables e below s _ _ _ (T2.setTop (mkF m 97 #[.val (.int p0), .val (.int p1), .val (.int p2), .val (.int p3), .val (.int p4), .val (.int p5), .val (.int z6), .val (.int z7), .val (.int z8), .val (.int z9), .val (.int z10), .val (.int z11), .val (.ref b1), .unset, .unset, .unset, .unset] []))
              have s1 : ∀ (T_1 : State) (L_1 : List Loc), Stand p l e room_1 s m #[(.int p0), (.int p1), (.int p2), (.int p3), (.int p4), (.int p5)] below meth c T_1 L_1 5 13 → Fr n0 L_1 → n0 ≤ T_1.heap.size → own_S Z n0 N b1 ta ca fa T_1.heap (fun y => (¬ z6 = 0 ∧ y = p0)) (fun y => False) 1 0 → own_Go p.tables e below s (Q0 p0 p1 p2 p3 p4 p5 h0 n0) room_1.cells room_1.slots (T_1.setTop (mkF m 109 #[.val (.int p0), .val (.int p1), .val (.int p2), .val (.int p3), .val (.int p4), .val (.int p5), .val (.int z6), .val (.int z7), .val (.int z8), .val (.int z9), .val (.int z10), .val (.int z11), .val (.ref b1), .unset, .unset, .unset, .unset] [])) := by
                intro T_1 L_1 X_1 N_1 Z_1 S_1
                have s2 : ∀ (T_2 : State) (L_2 : List Loc), Stand p l e room_1 s m #[(.int p0), (.int p1), (.int p2), (.int p3), (.int p4), (.int p5)] below meth c T_2 L_2 6 17 → Fr n0 L_2 → n0 ≤ T_2.heap.size → own_S Z n0 N b1 ta ca fa T_2.heap (fun y => (¬ z6 = 0 ∧ y = p0)) (fun y => False) 2 0 → own_Go p.tables e below s (Q0 p0 p1 p2 p3 p4 p5 h0 n0) room_1.cells room_1.slots (T_2.setTop (mkF m 121 #[.val (.int p0), .val (.int p1), .val (.int p2), .val (.int p3), .val (.int p4), .val (.int p5), .val (.int z6), .val (.int z7), .val (.int z8), .val (.int z9), .val (.int z10), .val (.int z11), .val (.ref b1), .unset, .unset, .unset, .unset] [])) := by
                  intro T_2 L_2 X_2 N_2 Z_2 S_2
                  have s3 : ∀ (T_3 : State) (L_3 : List Loc), Stand p l e room_1 s m #[(.int p0), (.int p1), (.int p2), (.int p3), (.int p4), (.int p5)] below meth c T_3 L_3 7 21 → Fr n0 L_3 → n0 ≤ T_3.heap.size → own_S Z n0 N b1 ta ca fa T_3.heap (fun y => ((¬ z6 = 0 ∧ y = p0) ∨ (¬ z8 = 0 ∧ y = p2))) (fun y => False) 3 0 → own_Go p.tables e below s (Q0 p0 p1 p2 p3 p4 p5 h0 n0) room_1.cells room_1.slots (T_3.setTop (mkF m 133 #[.val (.int p0), .val (.int p1), .val (.int p2), .val (.int p3), .val (.int p4), .val (.int p5), .val (.int z6), .val (.int z7), .val (.int z8), .val (.int z9), .val (.int z10), .val (.int z11), .val (.ref b1), .unset, .unset, .unset, .unset] [])) := by
                    intro T_3 L_3 X_3 N_3 Z_3 S_3
                    have s4 : ∀ (T_4 : State) (L_4 : List Loc), Stand p l e room_1 s m #[(.int p0), (.int p1), (.int p2), (.int p3), (.int p4), (.int p5)] below meth c T_4 L_4 8 25 → Fr n0 L_4 → n0 ≤ T_4.heap.size → own_S Z n0 N b1 ta ca fa T_4.heap (fun y => ((¬ z6 = 0 ∧ y = p0) ∨ (¬ z8 = 0 ∧ y = p2))) (fun y => False) 4 0 → own_Go p.tables e below s (Q0 p0 p1 p2 p3 p4 p5 h0 n0) room_1.cells room_1.slots (T_4.setTop (mkF m 145 #[.val (.int p0), .val (.int p1), .val (.int p2), .val (.int p3), .val (.int p4), .val (.int p5), .val (.int z6), .val (.int z7), .val (.int z8), .val (.int z9), .val (.int z10), .val (.int z11), .val (.ref b1), .unset, .unset, .unset, .unset] [])) := by
                      intro T_4 L_4 X_4 N_4 Z_4 S_4
                      have s5 : ∀ (T_5 : State) (L_5 : List Loc), Stand p l e room_1 s m #[(.int p0), (.int p1), (.int p2), (.int p3), (.int p4), (.int p5)] below meth c T_5 L_5 9 29 → Fr n0 L_5 → n0 ≤ T_5.heap.size → own_S Z n0 N b1 ta ca fa T_5.heap (fun y => ((¬ z6 = 0 ∧ y = p0) ∨ (¬ z8 = 0 ∧ y = p2))) (fun y => (¬ z10 = 0 ∧ y = p3)) 4 1 → own_Go p.tables e below s (Q0 p0 p1 p2 p3 p4 p5 h0 n0) room_1.cells room_1.slots (T_5.setTop (mkF m 157 #[.val (.int p0), .val (.int p1), .val (.int p2), .val (.int p3), .val (.int p4), .val (.int p5), .val (.int z6), .val (.int z7), .val (.int z8), .val (.int z9), .val (.int z10), .val (.int z11), .val (.ref b1), .unset, .unset, .unset, .unset] [])) := by
                        intro T_5 L_5 X_5 N_5 Z_5 S_5
                        have s6 : ∀ (T_6 : State) (L_6 : List Loc), Stand p l e room_1 s m #[(.int p0), (.int p1), (.int p2), (.int p3), (.int p4), (.int p5)] below meth c T_6 L_6 10 33 → Fr n0 L_6 → n0 ≤ T_6.heap.size → own_S Z n0 N b1 ta ca fa T_6.heap (fun y => ((¬ z6 = 0 ∧ y = p0) ∨ (¬ z8 = 0 ∧ y = p2))) (fun y => (¬ z10 = 0 ∧ y = p3)) 4 2 → own_Go p.tables e below s (Q0 p0 p1 p2 p3 p4 p5 h0 n0) room_1.cells room_1.slots (T_6.setTop (mkF m 169 #[.val (.int p0), .val (.int p1), .val (.int p2), .val (.int p3), .val (.int p4), .val (.int p5), .val (.int z6), .val (.int z7), .val (.int z8), .val (.int z9), .val (.int z10), .val (.int z11), .val (.ref b1), .unset, .unset, .unset, .unset] [])) := by
                          intro T_6 L_6 X_6 N_6 Z_6 S_6
                          refine own_by (fun _ kz => XS.iload X_6.here hx rfl (hb hby at_169) rfl kz) ?_
                          show own_Go p.tables e below s _ _ _ (T_6.setTop (mkF m 171 #[.val (.int p0), .val (.int p1), .val (.int p2), .val (.int p3), .val (.int p4), .val (.int p5), .val (.int z6), .val (.int z7), .val (.int z8), .val (.int z9), .val (.int z10), .val (.int z11), .val (.ref b1), .unset, .unset, .unset, .unset] [(.int p5)]))
                          refine own_by (fun _ kz => XS.bipush X_6.here hx rfl (hb hby at_171) kz) ?_
                          show own_Go p.tables e below s _ _ _ (T_6.setTop (mkF m 173 #[.val (.int p0), .val (.int p1), .val (.int p2), .val (.int p3), .val (.int p4), .val (.int p5), .val (.int z6), .val (.int z7), .val (.int z8), .val (.int z9), .val (.int z10), .val (.int z11), .val (.ref b1), .unset, .unset, .unset, .unset] [(.int (6 : Int32)), (.int p5)]))
                          refine own_by (fun _ kz => XS.iushr X_6.here hx rfl (hb hby at_173) rfl kz) ?_
                          show own_Go p.tables e below s _ _ _ (T_6.setTop (mkF m 174 #[.val (.int p0), .val (.int p1), .val (.int p2), .val (.int p3), .val (.int p4), .val (.int p5), .val (.int z6), .val (.int z7), .val (.int z8), .val (.int z9), .val (.int z10), .val (.int z11), .val (.ref b1), .unset, .unset, .unset, .unset] [(.int (own_sri p5 (6 : Int32)))]))
                          refine own_by (fun _ kz => XS.iconst X_6.here hx rfl (hb hby at_174) kz) ?_
                          show own_Go p.tables e below s _ _ _ (T_6.setTop (mkF m 175 #[.val (.int p0), .val (.int p1), .val (.int p2), .val (.int p3), .val (.int p4), .val (.int p5), .val (.int z6), .val (.int z7), .val (.int z8), .val (.int z9), .val (.int z10), .val (.int z11), .val (.ref b1), .unset, .unset, .unset, .unset] [(.int (1 : Int32)), (.int (own_sri p5 (6 : Int32)))]))
                          refine own_by (fun _ kz => XS.iand X_6.here hx rfl (hb hby at_175) rfl kz) ?_
                          show own_Go p.tables e below s _ _ _ (T_6.setTop (mkF m 176 #[.val (.int p0), .val (.int p1), .val (.int p2), .val (.int p3), .val (.int p4), .val (.int p5), .val (.int z6), .val (.int z7), .val (.int z8), .val (.int z9), .val (.int z10), .val (.int z11), .val (.ref b1), .unset, .unset, .unset, .unset] [(.int ((own_sri p5 (6 : Int32)) &&& (1 : Int32)))]))
                          refine own_by (fun _ kz => XS.istore X_6.here hx rfl (hb hby at_176) rfl (l' := #[.val (.int p0), .val (.int p1), .val (.int p2), .val (.int p3), .val (.int p4), .val (.int p5), .val (.int z6), .val (.int z7), .val (.int z8), .val (.int z9), .val (.int z10), .val (.int z11), .val (.ref b1), .val (.int ((own_sri p5 (6 : Int32)) &&& (1 : Int32))), .unset, .unset, .unset]) rfl kz) ?_
                          show own_Go p.tables e below s _ _ _ (T_6.setTop (mkF m 178 #[.val (.int p0), .val (.int p1), .val (.int p2), .val (.int p3), .val (.int p4), .val (.int p5), .val (.int z6), .val (.int z7), .val (.int z8), .val (.int z9), .val (.int z10), .val (.int z11), .val (.ref b1), .val (.int ((own_sri p5 (6 : Int32)) &&& (1 : Int32))), .unset, .unset, .unset] []))
                          refine own_by (fun _ kz => XS.iload X_6.here hx rfl (hb hby at_178) rfl kz) ?_
                          show own_Go p.tables e below s _ _ _ (T_6.setTop (mkF m 180 #[.val (.int p0), .val (.int p1), .val (.int p2), .val (.int p3), .val (.int p4), .val (.int p5), .val (.int z6), .val (.int z7), .val (.int z8), .val (.int z9), .val (.int z10), .val (.int z11), .val (.ref b1), .val (.int ((own_sri p5 (6 : Int32)) &&& (1 : Int32))), .unset, .unset, .unset] [(.int p5)]))
                          refine own_by (fun _ kz => XS.bipush X_6.here hx rfl (hb hby at_180) kz) ?_
                          show own_Go p.tables e below s _ _ _ (T_6.setTop (mkF m 182 #[.val (.int p0), .val (.int p1), .val (.int p2), .val (.int p3), .val (.int p4), .val (.int p5), .val (.int z6), .val (.int z7), .val (.int z8), .val (.int z9), .val (.int z10), .val (.int z11), .val (.ref b1), .val (.int ((own_sri p5 (6 : Int32)) &&& (1 : Int32))), .unset, .unset, .unset] [(.int (7 : Int32)), (.int p5)]))
                          refine own_by (fun _ kz => XS.iushr X_6.here hx rfl (hb hby at_182) rfl kz) ?_
                          show own_Go p.tables e below s _ _ _ (T_6.setTop (mkF m 183 #[.val (.int p0), .val (.int p1), .val (.int p2), .val (.int p3), .val (.int p4), .val (.int p5), .val (.int z6), .val (.int z7), .val (.int z8), .val (.int z9), .val (.int z10), .val (.int z11), .val (.ref b1), .val (.int ((own_sri p5 (6 : Int32)) &&& (1 : Int32))), .unset, .unset, .unset] [(.int (own_sri p5 (7 : Int32)))]))
                          refine own_by (fun _ kz => XS.bipush X_6.here hx rfl (hb hby at_183) kz) ?_
                          show own_Go p.tables e below s _ _ _ (T_6.setTop (mkF m 185 #[.val (.int p0), .val (.int p1), .val (.int p2), .val (.int p3), .val (.int p4), .val (.int p5), .val (.int z6), .val (.int z7), .val (.int z8), .val (.int z9), .val (.int z10), .val (.int z11), .val (.ref b1), .val (.int ((own_sri p5 (6 : Int32)) &&& (1 : Int32))), .unset, .unset, .unset] [(.int (7 : Int32)), (.int (own_sri p5 (7 : Int32)))]))
                          refine own_by (fun _ kz => XS.iand X_6.here hx rfl (hb hby at_185) rfl kz) ?_
                          show own_Go p.tables e below s _ _ _ (T_6.setTop (mkF m 186 #[.val (.int p0), .val (.int p1), .val (.int p2), .val (.int p3), .val (.int p4), .val (.int p5), .val (.int z6), .val (.int z7), .val (.int z8), .val (.int z9), .val (.int z10), .val (.int z11), .val (.ref b1), .val (.int ((own_sri p5 (6 : Int32)) &&& (1 : Int32))), .unset, .unset, .unset] [(.int ((own_sri p5 (7 : Int32)) &&& (7 : Int32)))]))
                          refine own_by (fun _ kz => XS.istore X_6.here hx rfl (hb hby at_186) rfl (l' := #[.val (.int p0), .val (.int p1), .val (.int p2), .val (.int p3), .val (.int p4), .val (.int p5), .val (.int z6), .val (.int z7), .val (.int z8), .val (.int z9), .val (.int z10), .val (.int z11), .val (.ref b1), .val (.int ((own_sri p5 (6 : Int32)) &&& (1 : Int32))), .val (.int ((own_sri p5 (7 : Int32)) &&& (7 : Int32))), .unset, .unset]) rfl kz) ?_
                          show own_Go p.tables e below s _ _ _ (T_6.setTop (mkF m 188 #[.val (.int p0), .val (.int p1), .val (.int p2), .val (.int p3), .val (.int p4), .val (.int p5), .val (.int z6), .val (.int z7), .val (.int z8), .val (.int z9), .val (.int z10), .val (.int z11), .val (.ref b1), .val (.int ((own_sri p5 (6 : Int32)) &&& (1 : Int32))), .val (.int ((own_sri p5 (7 : Int32)) &&& (7 : Int32))), .unset, .unset] []))
                          have j239 : ∀ tg : Int32, own_Go p.tables e below s (Q0 p0 p1 p2 p3 p4 p5 h0 n0) room_1.cells room_1.slots (T_6.setTop (mkF m 239 #[.val (.int p0), .val (.int p1), .val (.int p2), .val (.int p3), .val (.int p4), .val (.int p5), .val (.int z6), .val (.int z7), .val (.int z8), .val (.int z9), .val (.int z10), .val (.int z11), .val (.ref b1), .val (.int ((own_sri p5 (6 : Int32)) &&& (1 : Int32))), .val (.int ((own_sri p5 (7 : Int32)) &&& (7 : Int32))), .val (.int tg), .unset] [])) := by
                            intro tg
                            obtain ⟨r, r2, k, k2, x, x2, vs, us, TBs, ⟨a1, a2, a3⟩, ⟨a4, a5, a6⟩, a7, a8⟩ := S_6
                            refine own_by (fun _ kz => XS.iload X_6.here hx rfl (hb hby at_239) rfl kz) ?_
                            show own_Go p.tables e below s _ _ _ (T_6.setTop (mkF m 241 #[.val (.int p0), .val (.int p1), .val (.int p2), .val (.int p3), .val (.int p4), .val (.int p5), .val (.int z6), .val (.int z7), .val (.int z8), .val (.int z9), .val (.int z10), .val (.int z11), .val (.ref b1), .val (.int ((own_sri p5 (6 : Int32)) &&& (1 : Int32))), .val (.int ((own_sri p5 (7 : Int32)) &&& (7 : Int32))), .val (.int tg), .unset] [(.int ((own_sri p5 (6 : Int32)) &&& (1 : Int32)))]))
                            by_cases hc241_3 : ((own_sri p5 (6 : Int32)) &&& (1 : Int32)) = (0 : Int32)
                            · refine own_by (fun _ kz => XS.ifNo X_6.here hx rfl (hb hby at_241) rfl ((if0 _ _).trans (teq hc241_3).2) kz) ?_
                              show own_Go p.tables e below s _ _ _ (T_6.setTop (mkF m 244 #[.val (.int p0), .val (.int p1), .val (.int p2), .val (.int p3), .val (.int p4), .val (.int p5), .val (.int z6), .val (.int z7), .val (.int z8), .val (.int z9), .val (.int z10), .val (.int z11), .val (.ref b1), .val (.int ((own_sri p5 (6 : Int32)) &&& (1 : Int32))), .val (.int ((own_sri p5 (7 : Int32)) &&& (7 : Int32))), .val (.int tg), .unset] []))
                              refine own_by (fun _ kz => XS.iload X_6.here hx rfl (hb hby at_244) rfl kz) ?_
                              show own_Go p.tables e below s _ _ _ (T_6.setTop (mkF m 246 #[.val (.int p0), .val (.int p1), .val (.int p2), .val (.int p3), .val (.int p4), .val (.int p5), .val (.int z6), .val (.int z7), .val (.int z8), .val (.int z9), .val (.int z10), .val (.int z11), .val (.ref b1), .val (.int ((own_sri p5 (6 : Int32)) &&& (1 : Int32))), .val (.int ((own_sri p5 (7 : Int32)) &&& (7 : Int32))), .val (.int tg), .unset] [(.int z6)]))
                              by_cases hc246_4 : z6 = (0 : Int32)
                              · refine own_by (fun _ kz => XS.ifYes X_6.here hx rfl (pc0 := 246) (pc' := 255) rfl (hb hby at_246) rfl ((if0 _ _).trans (teq hc246_4).1) (by decide) (by decide) kz) ?_
                                show own_Go p.tables e below s _ _ _ (T_6.setTop (mkF m 255 #[.val (.int p0), .val (.int p1), .val (.int p2), .val (.int p3), .val (.int p4), .val (.int p5), .val (.int z6), .val (.int z7), .val (.int z8), .val (.int z9), .val (.int z10), .val (.int z11), .val (.ref b1), .val (.int ((own_sri p5 (6 : Int32)) &&& (1 : Int32))), .val (.int ((own_sri p5 (7 : Int32)) &&& (7 : Int32))), .val (.int tg), .unset] []))
                                refine own_by (fun _ kz => XS.iload X_6.here hx rfl (hb hby at_255) rfl kz) ?_
                                show own_Go p.tables e below s _ _ _ (T_6.setTop (mkF m 257 #[.val (.int p0), .val (.int p1), .val (.int p2), .val (.int p3), .val (.int p4), .val (.int p5), .val (.int z6), .val (.int z7), .val (.int z8), .val (.int z9), .val (.int z10), .val (.int z11), .val (.ref b1), .val (.int ((own_sri p5 (6 : Int32)) &&& (1 : Int32))), .val (.int ((own_sri p5 (7 : Int32)) &&& (7 : Int32))), .val (.int tg), .unset] [(.int z8)]))
                                by_cases hc257_5 : z8 = (0 : Int32)
                                · refine own_by (fun _ kz => XS.ifYes X_6.here hx rfl (pc0 := 257) (pc' := 270) rfl (hb hby at_257) rfl ((if0 _ _).trans (teq hc257_5).1) (by decide) (by decide) kz) ?_
                                  show own_Go p.tables e below s _ _ _ (T_6.setTop (mkF m 270 #[.val (.int p0), .val (.int p1), .val (.int p2), .val (.int p3), .val (.int p4), .val (.int p5), .val (.int z6), .val (.int z7), .val (.int z8), .val (.int z9), .val (.int z10), .val (.int z11), .val (.ref b1), .val (.int ((own_sri p5 (6 : Int32)) &&& (1 : Int32))), .val (.int ((own_sri p5 (7 : Int32)) &&& (7 : Int32))), .val (.int tg), .unset] []))
                                  refine own_by (fun _ kz => XS.iconst X_6.here hx rfl (hb hby at_270) kz) ?_
                                  show own_Go p.tables e below s _ _ _ (T_6.setTop (mkF m 271 #[.val (.int p0), .val (.int p1), .val (.int p2), .val (.int p3), .val (.int p4), .val (.int p5), .val (.int z6), .val (.int z7), .val (.int z8), .val (.int z9), .val (.int z10), .val (.int z11), .val (.ref b1), .val (.int ((own_sri p5 (6 : Int32)) &&& (1 : Int32))), .val (.int ((own_sri p5 (7 : Int32)) &&& (7 : Int32))), .val (.int tg), .unset] [(.int (0 : Int32))]))
                                  refine own_by (fun _ kz => XS.istore X_6.here hx rfl (hb hby at_271) rfl (l' := #[.val (.int p0), .val (.int p1), .val (.int p2), .val (.int p3), .val (.int p4), .val (.int p5), .val (.int z6), .val (.int z7), .val (.int z8), .val (.int z9), .val (.int z10), .val (.int z11), .val (.ref b1), .val (.int ((own_sri p5 (6 : Int32)) &&& (1 : Int32))), .val (.int ((own_sri p5 (7 : Int32)) &&& (7 : Int32))), .val (.int tg), .val (.int (0 : Int32))]) rfl kz) ?_
                                  show own_Go p.tables e below s _ _ _ (T_6.setTop (mkF m 273 #[.val (.int p0), .val (.int p1), .val (.int p2), .val (.int p3), .val (.int p4), .val (.int p5), .val (.int z6), .val (.int z7), .val (.int z8), .val (.int z9), .val (.int z10), .val (.int z11), .val (.ref b1), .val (.int ((own_sri p5 (6 : Int32)) &&& (1 : Int32))), .val (.int ((own_sri p5 (7 : Int32)) &&& (7 : Int32))), .val (.int tg), .val (.int (0 : Int32))] []))
                                  refine own_by (fun _ kz => XS.goto X_6.here hx rfl (pc0 := 273) (pc' := 294) rfl (hb hby at_273) (by decide) (by decide) kz) ?_
                                  show own_Go p.tables e below s _ _ _ (T_6.setTop (mkF m 294 #[.val (.int p0), .val (.int p1), .val (.int p2), .val (.int p3), .val (.int p4), .val (.int p5), .val (.int z6), .val (.int z7), .val (.int z8), .val (.int z9), .val (.int z10), .val (.int z11), .val (.ref b1), .val (.int ((own_sri p5 (6 : Int32)) &&& (1 : Int32))), .val (.int ((own_sri p5 (7 : Int32)) &&& (7 : Int32))), .val (.int tg), .val (.int (0 : Int32))] []))
                                  refine own_by (fun _ kz => XS.aload X_6.here hx rfl (hb hby at_294) rfl rfl kz) ?_
                                  show own_Go p.tables e below s _ _ _ (T_6.setTop (mkF m 296 #[.val (.int p0), .val (.int p1), .val (.int p2), .val (.int p3), .val (.int p4), .val (.int p5), .val (.int z6), .val (.int z7), .val (.int z8), .val (.int z9), .val (.int z10), .val (.int z11), .val (.ref b1), .val (.int ((own_sri p5 (6 : Int32)) &&& (1 : Int32))), .val (.int ((own_sri p5 (7 : Int32)) &&& (7 : Int32))), .val (.int tg), .val (.int (0 : Int32))] [(.ref b1)]))
                                  refine own_by (fun _ kz => XS.iload X_6.here hx rfl (hb hby at_296) rfl kz) ?_
                                  show own_Go p.tables e below s _ _ _ (T_6.setTop (mkF m 298 #[.val (.int p0), .val (.int p1), .val (.int p2), .val (.int p3), .val (.int p4), .val (.int p5), .val (.int z6), .val (.int z7), .val (.int z8), .val (.int z9), .val (.int z10), .val (.int z11), .val (.ref b1), .val (.int ((own_sri p5 (6 : Int32)) &&& (1 : Int32))), .val (.int ((own_sri p5 (7 : Int32)) &&& (7 : Int32))), .val (.int tg), .val (.int (0 : Int32))] [(.int ((own_sri p5 (6 : Int32)) &&& (1 : Int32))), (.ref b1)]))
                                  refine own_by (fun _ kz => XS.iload X_6.here hx rfl (hb hby at_298) rfl kz) ?_
                                  show own_Go p.tables e below s _ _ _ (T_6.setTop (mkF m 300 #[.val (.int p0), .val (.int p1), .val (.int p2), .val (.int p3), .val (.int p4), .val (.int p5), .val (.int z6), .val (.int z7), .val (.int z8), .val (.int z9), .val (.int z10), .val (.int z11), .val (.ref b1), .val (.int ((own_sri p5 (6 : Int32)) &&& (1 : Int32))), .val (.int ((own_sri p5 (7 : Int32)) &&& (7 : Int32))), .val (.int tg), .val (.int (0 : Int32))] [(.int tg), (.int ((own_sri p5 (6 : Int32)) &&& (1 : Int32))), (.ref b1)]))
                                  obtain ⟨v6, T6, L6, X6, q6, st6⟩ := own_callV X_6 hx hZ hown (hw _ (List.mem_of_getElem? (i := 53) rfl)) (hw _ (List.mem_of_getElem? (i := 54) rfl)) (hw _ (List.mem_of_getElem? (i := 56) rfl)) (hw _ (List.mem_of_getElem? (i := 55) rfl)) (hw _ (List.mem_of_getElem? (i := 2) rfl)) (hw _ (List.mem_of_getElem? (i := 57) rfl)) (by decide) (rm10 l Z a0 hw [] b1 ((own_sri p5 (6 : Int32)) &&& (1 : Int32)) tg T_6.heap n0 Z_6 N ta ca fa r r2 k k2 x x2 vs us (Or.inl hc241_3) (by rw [hc241_3]; exact TBs) a1 (by omega)) (W := 0) (by decide) (by decide) rfl TBs.exa (g := (mkF m 300 #[.val (.int p0), .val (.int p1), .val (.int p2), .val (.int p3), .val (.int p4), .val (.int p5), .val (.int z6), .val (.int z7), .val (.int z8), .val (.int z9), .val (.int z10), .val (.int z11), .val (.ref b1), .val (.int ((own_sri p5 (6 : Int32)) &&& (1 : Int32))), .val (.int ((own_sri p5 (7 : Int32)) &&& (7 : Int32))), .val (.int tg), .val (.int (0 : Int32))] [(.int tg), (.int ((own_sri p5 (6 : Int32)) &&& (1 : Int32))), (.ref b1)])) rfl (by rw [hml]; rfl) (argsL := [(.int ((own_sri p5 (6 : Int32)) &&& (1 : Int32))), (.int tg)]) (rest := []) (lenOf pd_10 rfl) rfl rfl (by show 2 * 0 + _ ≤ _; exact Nat.le_of_eq rfl) (hb hby at_300) (by decide) (by decide)
                                  obtain ⟨rfl, Nq6, hh6⟩ := q6
                                  have N6 := Fr.app N_6 Nq6
                                  refine own_by st6 ?_
                                  show own_Go p.tables e below s _ _ _ (T6.setTop (mkF m 303 #[.val (.int p0), .val (.int p1), .val (.int p2), .val (.int p3), .val (.int p4), .val (.int p5), .val (.int z6), .val (.int z7), .val (.int z8), .val (.int z9), .val (.int z10), .val (.int z11), .val (.ref b1), .val (.int ((own_sri p5 (6 : Int32)) &&& (1 : Int32))), .val (.int ((own_sri p5 (7 : Int32)) &&& (7 : Int32))), .val (.int tg), .val (.int (0 : Int32))] [(.int (own_b vs x k tg))]))
                                  refine own_by (fun _ kz => XS.iload X6.here hx rfl (hb hby at_303) rfl kz) ?_
                                  show own_Go p.tables e below s _ _ _ (T6.setTop (mkF m 305 #[.val (.int p0), .val (.int p1), .val (.int p2), .val (.int p3), .val (.int p4), .val (.int p5), .val (.int z6), .val (.int z7), .val (.int z8), .val (.int z9), .val (.int z10), .val (.int z11), .val (.ref b1), .val (.int ((own_sri p5 (6 : Int32)) &&& (1 : Int32))), .val (.int ((own_sri p5 (7 : Int32)) &&& (7 : Int32))), .val (.int tg), .val (.int (0 : Int32))] [(.int (0 : Int32)), (.int (own_b vs x k tg))]))
                                  have hz : (own_b vs x k tg) = (0 : Int32) := own_b0 fun q => by rcases (a7 tg).mp q with ⟨u, v⟩ | ⟨u, v⟩; exact u hc246_4; exact u hc257_5
                                  refine own_by (fun _ kz => XS.icmpNo X6.here hx rfl (hb hby at_305) rfl (teq hz).2 kz) ?_
                                  show own_Go p.tables e below s _ _ _ (T6.setTop (mkF m 308 #[.val (.int p0), .val (.int p1), .val (.int p2), .val (.int p3), .val (.int p4), .val (.int p5), .val (.int z6), .val (.int z7), .val (.int z8), .val (.int z9), .val (.int z10), .val (.int z11), .val (.ref b1), .val (.int ((own_sri p5 (6 : Int32)) &&& (1 : Int32))), .val (.int ((own_sri p5 (7 : Int32)) &&& (7 : Int32))), .val (.int tg), .val (.int (0 : Int32))] []))
                                  refine own_by (fun _ kz => XS.iconst X6.here hx rfl (hb hby at_308) kz) ?_
                                  show own_Go p.tables e below s _ _ _ (T6.setTop (mkF m 309 #[.val (.int p0), .val (.int p1), .val (.int p2), .val (.int p3), .val (.int p4), .val (.int p5), .val (.int z6), .val (.int z7), .val (.int z8), .val (.int z9), .val (.int z10), .val (.int z11), .val (.ref b1), .val (.int ((own_sri p5 (6 : Int32)) &&& (1 : Int32))), .val (.int ((own_sri p5 (7 : Int32)) &&& (7 : Int32))), .val (.int tg), .val (.int (0 : Int32))] [(.int (1 : Int32))]))
                                  refine own_by (fun _ kz => XS.goto X6.here hx rfl (pc0 := 309) (pc' := 313) rfl (hb hby at_309) (by decide) (by decide) kz) ?_
                                  show own_Go p.tables e below s _ _ _ (T6.setTop (mkF m 313 #[.val (.int p0), .val (.int p1), .val (.int p2), .val (.int p3), .val (.int p4), .val (.int p5), .val (.int z6), .val (.int z7), .val (.int z8), .val (.int z9), .val (.int z10), .val (.int z11), .val (.ref b1), .val (.int ((own_sri p5 (6 : Int32)) &&& (1 : Int32))), .val (.int ((own_sri p5 (7 : Int32)) &&& (7 : Int32))), .val (.int tg), .val (.int (0 : Int32))] [(.int (1 : Int32))]))
                                  exact own_retZ X6 hx hlk Bd.returns (hb hby at_313) (by decide) (by decide) ⟨rfl, N6⟩
                                · refine own_by (fun _ kz => XS.ifNo X_6.here hx rfl (hb hby at_257) rfl ((if0 _ _).trans (feq hc257_5).1) kz) ?_
                                  show own_Go p.tables e below s _ _ _ (T_6.setTop (mkF m 260 #[.val (.int p0), .val (.int p1), .val (.int p2), .val (.int p3), .val (.int p4), .val (.int p5), .val (.int z6), .val (.int z7), .val (.int z8), .val (.int z9), .val (.int z10), .val (.int z11), .val (.ref b1), .val (.int ((own_sri p5 (6 : Int32)) &&& (1 : Int32))), .val (.int ((own_sri p5 (7 : Int32)) &&& (7 : Int32))), .val (.int tg), .unset] []))
                                  refine own_by (fun _ kz => XS.iload X_6.here hx rfl (hb hby at_260) rfl kz) ?_
                                  show own_Go p.tables e below s _ _ _ (T_6.setTop (mkF m 262 #[.val (.int p0), .val (.int p1), .val (.int p2), .val (.int p3), .val (.int p4), .val (.int p5), .val (.int z6), .val (.int z7), .val (.int z8), .val (.int z9), .val (.int z10), .val (.int z11), .val (.ref b1), .val (.int ((own_sri p5 (6 : Int32)) &&& (1 : Int32))), .val (.int ((own_sri p5 (7 : Int32)) &&& (7 : Int32))), .val (.int tg), .unset] [(.int tg)]))
                                  refine own_by (fun _ kz => XS.iloadN X_6.here hx rfl (hb hby at_262) rfl kz) ?_
                                  show own_Go p.tables e below s _ _ _ (T_6.setTop (mkF m 263 #[.val (.int p0), .val (.int p1), .val (.int p2), .val (.int p3), .val (.int p4), .val (.int p5), .val (.int z6), .val (.int z7), .val (.int z8), .val (.int z9), .val (.int z10), .val (.int z11), .val (.ref b1), .val (.int ((own_sri p5 (6 : Int32)) &&& (1 : Int32))), .val (.int ((own_sri p5 (7 : Int32)) &&& (7 : Int32))), .val (.int tg), .unset] [(.int p2), (.int tg)]))
                                  by_cases hc263_7 : tg = p2
                                  · refine own_by (fun _ kz => XS.icmpNo X_6.here hx rfl (hb hby at_263) rfl (teq hc263_7).2 kz) ?_
                                    show own_Go p.tables e below s _ _ _ (T_6.setTop (mkF m 266 #[.val (.int p0), .val (.int p1), .val (.int p2), .val (.int p3), .val (.int p4), .val (.int p5), .val (.int z6), .val (.int z7), .val (.int z8), .val (.int z9), .val (.int z10), .val (.int z11), .val (.ref b1), .val (.int ((own_sri p5 (6 : Int32)) &&& (1 : Int32))), .val (.int ((own_sri p5 (7 : Int32)) &&& (7 : Int32))), .val (.int tg), .unset] []))
                                    refine own_by (fun _ kz => XS.iconst X_6.here hx rfl (hb hby at_266) kz) ?_
                                    show own_Go p.tables e below s _ _ _ (T_6.setTop (mkF m 267 #[.val (.int p0), .val (.int p1), .val (.int p2), .val (.int p3), .val (.int p4), .val (.int p5), .val (.int z6), .val (.int z7), .val (.int z8), .val (.int z9), .val (.int z10), .val (.int z11), .val (.ref b1), .val (.int ((own_sri p5 (6 : Int32)) &&& (1 : Int32))), .val (.int ((own_sri p5 (7 : Int32)) &&& (7 : Int32))), .val (.int tg), .unset] [(.int (1 : Int32))]))
                                    refine own_by (fun _ kz => XS.goto X_6.here hx rfl (pc0 := 267) (pc' := 271) rfl (hb hby at_267) (by decide) (by decide) kz) ?_
                                    show own_Go p.tables e below s _ _ _ (T_6.setTop (mkF m 271 #[.val (.int p0), .val (.int p1), .val (.int p2), .val (.int p3), .val (.int p4), .val (.int p5), .val (.int z6), .val (.int z7), .val (.int z8), .val (.int z9), .val (.int z10), .val (.int z11), .val (.ref b1), .val (.int ((own_sri p5 (6 : Int32)) &&& (1 : Int32))), .val (.int ((own_sri p5 (7 : Int32)) &&& (7 : Int32))), .val (.int tg), .unset] [(.int (1 : Int32))]))
                                    refine own_by (fun _ kz => XS.istore X_6.here hx rfl (hb hby at_271) rfl (l' := #[.val (.int p0), .val (.int p1), .val (.int p2), .val (.int p3), .val (.int p4), .val (.int p5), .val (.int z6), .val (.int z7), .val (.int z8), .val (.int z9), .val (.int z10), .val (.int z11), .val (.ref b1), .val (.int ((own_sri p5 (6 : Int32)) &&& (1 : Int32))), .val (.int ((own_sri p5 (7 : Int32)) &&& (7 : Int32))), .val (.int tg), .val (.int (1 : Int32))]) rfl kz) ?_
                                    show own_Go p.tables e below s _ _ _ (T_6.setTop (mkF m 273 #[.val (.int p0), .val (.int p1), .val (.int p2), .val (.int p3), .val (.int p4), .val (.int p5), .val (.int z6), .val (.int z7), .val (.int z8), .val (.int z9), .val (.int z10), .val (.int z11), .val (.ref b1), .val (.int ((own_sri p5 (6 : Int32)) &&& (1 : Int32))), .val (.int ((own_sri p5 (7 : Int32)) &&& (7 : Int32))), .val (.int tg), .val (.int (1 : Int32))] []))
                                    refine own_by (fun _ kz => XS.goto X_6.here hx rfl (pc0 := 273) (pc' := 294) rfl (hb hby at_273) (by decide) (by decide) kz) ?_
                                    show own_Go p.tables e below s _ _ _ (T_6.setTop (mkF m 294 #[.val (.int p0), .val (.int p1), .val (.int p2), .val (.int p3), .val (.int p4), .val (.int p5), .val (.int z6), .val (.int z7), .val (.int z8), .val (.int z9), .val (.int z10), .val (.int z11), .val (.ref b1), .val (.int ((own_sri p5 (6 : Int32)) &&& (1 : Int32))), .val (.int ((own_sri p5 (7 : Int32)) &&& (7 : Int32))), .val (.int tg), .val (.int (1 : Int32))] []))
                                    refine own_by (fun _ kz => XS.aload X_6.here hx rfl (hb hby at_294) rfl rfl kz) ?_
                                    show own_Go p.tables e below s _ _ _ (T_6.setTop (mkF m 296 #[.val (.int p0), .val (.int p1), .val (.int p2), .val (.int p3), .val (.int p4), .val (.int p5), .val (.int z6), .val (.int z7), .val (.int z8), .val (.int z9), .val (.int z10), .val (.int z11), .val (.ref b1), .val (.int ((own_sri p5 (6 : Int32)) &&& (1 : Int32))), .val (.int ((own_sri p5 (7 : Int32)) &&& (7 : Int32))), .val (.int tg), .val (.int (1 : Int32))] [(.ref b1)]))
                                    refine own_by (fun _ kz => XS.iload X_6.here hx rfl (hb hby at_296) rfl kz) ?_
                                    show own_Go p.tables e below s _ _ _ (T_6.setTop (mkF m 298 #[.val (.int p0), .val (.int p1), .val (.int p2), .val (.int p3), .val (.int p4), .val (.int p5), .val (.int z6), .val (.int z7), .val (.int z8), .val (.int z9), .val (.int z10), .val (.int z11), .val (.ref b1), .val (.int ((own_sri p5 (6 : Int32)) &&& (1 : Int32))), .val (.int ((own_sri p5 (7 : Int32)) &&& (7 : Int32))), .val (.int tg), .val (.int (1 : Int32))] [(.int ((own_sri p5 (6 : Int32)) &&& (1 : Int32))), (.ref b1)]))
                                    refine own_by (fun _ kz => XS.iload X_6.here hx rfl (hb hby at_298) rfl kz) ?_
                                    show own_Go p.tables e below s _ _ _ (T_6.setTop (mkF m 300 #[.val (.int p0), .val (.int p1), .val (.int p2), .val (.int p3), .val (.int p4), .val (.int p5), .val (.int z6), .val (.int z7), .val (.int z8), .val (.int z9), .val (.int z10), .val (.int z11), .val (.ref b1), .val (.int ((own_sri p5 (6 : Int32)) &&& (1 : Int32))), .val (.int ((own_sri p5 (7 : Int32)) &&& (7 : Int32))), .val (.int tg), .val (.int (1 : Int32))] [(.int tg), (.int ((own_sri p5 (6 : Int32)) &&& (1 : Int32))), (.ref b1)]))
                                    obtain ⟨v8, T8, L8, X8, q8, st8⟩ := own_callV X_6 hx hZ hown (hw _ (List.mem_of_getElem? (i := 53) rfl)) (hw _ (List.mem_of_getElem? (i := 54) rfl)) (hw _ (List.mem_of_getElem? (i := 56) rfl)) (hw _ (List.mem_of_getElem? (i := 55) rfl)) (hw _ (List.mem_of_getElem? (i := 2) rfl)) (hw _ (List.mem_of_getElem? (i := 57) rfl)) (by decide) (rm10 l Z a0 hw [] b1 ((own_sri p5 (6 : Int32)) &&& (1 : Int32)) tg T_6.heap n0 Z_6 N ta ca fa r r2 k k2 x x2 vs us (Or.inl hc241_3) (by rw [hc241_3]; exact TBs) a1 (by omega)) (W := 0) (by decide) (by decide) rfl TBs.exa (g := (mkF m 300 #[.val (.int p0), .val (.int p1), .val (.int p2), .val (.int p3), .val (.int p4), .val (.int p5), .val (.int z6), .val (.int z7), .val (.int z8), .val (.int z9), .val (.int z10), .val (.int z11), .val (.ref b1), .val (.int ((own_sri p5 (6 : Int32)) &&& (1 : Int32))), .val (.int ((own_sri p5 (7 : Int32)) &&& (7 : Int32))), .val (.int tg), .val (.int (1 : Int32))] [(.int tg), (.int ((own_sri p5 (6 : Int32)) &&& (1 : Int32))), (.ref b1)])) rfl (by rw [hml]; rfl) (argsL := [(.int ((own_sri p5 (6 : Int32)) &&& (1 : Int32))), (.int tg)]) (rest := []) (lenOf pd_10 rfl) rfl rfl (by show 2 * 0 + _ ≤ _; exact Nat.le_of_eq rfl) (hb hby at_300) (by decide) (by decide)
                                    obtain ⟨rfl, Nq8, hh8⟩ := q8
                                    have N8 := Fr.app N_6 Nq8
                                    refine own_by st8 ?_
                                    show own_Go p.tables e below s _ _ _ (T8.setTop (mkF m 303 #[.val (.int p0), .val (.int p1), .val (.int p2), .val (.int p3), .val (.int p4), .val (.int p5), .val (.int z6), .val (.int z7), .val (.int z8), .val (.int z9), .val (.int z10), .val (.int z11), .val (.ref b1), .val (.int ((own_sri p5 (6 : Int32)) &&& (1 : Int32))), .val (.int ((own_sri p5 (7 : Int32)) &&& (7 : Int32))), .val (.int tg), .val (.int (1 : Int32))] [(.int (own_b vs x k tg))]))
                                    refine own_by (fun _ kz => XS.iload X8.here hx rfl (hb hby at_303) rfl kz) ?_
                                    show own_Go p.tables e below s _ _ _ (T8.setTop (mkF m 305 #[.val (.int p0), .val (.int p1), .val (.int p2), .val (.int p3), .val (.int p4), .val (.int p5), .val (.int z6), .val (.int z7), .val (.int z8), .val (.int z9), .val (.int z10), .val (.int z11), .val (.ref b1), .val (.int ((own_sri p5 (6 : Int32)) &&& (1 : Int32))), .val (.int ((own_sri p5 (7 : Int32)) &&& (7 : Int32))), .val (.int tg), .val (.int (1 : Int32))] [(.int (1 : Int32)), (.int (own_b vs x k tg))]))
                                    have hz : (own_b vs x k tg) = (1 : Int32) := own_b1 ((a7 tg).mpr (Or.inr ⟨hc257_5, hc263_7⟩))
                                    refine own_by (fun _ kz => XS.icmpNo X8.here hx rfl (hb hby at_305) rfl (teq hz).2 kz) ?_
                                    show own_Go p.tables e below s _ _ _ (T8.setTop (mkF m 308 #[.val (.int p0), .val (.int p1), .val (.int p2), .val (.int p3), .val (.int p4), .val (.int p5), .val (.int z6), .val (.int z7), .val (.int z8), .val (.int z9), .val (.int z10), .val (.int z11), .val (.ref b1), .val (.int ((own_sri p5 (6 : Int32)) &&& (1 : Int32))), .val (.int ((own_sri p5 (7 : Int32)) &&& (7 : Int32))), .val (.int tg), .val (.int (1 : Int32))] []))
                                    refine own_by (fun _ kz => XS.iconst X8.here hx rfl (hb hby at_308) kz) ?_
                                    show own_Go p.tables e below s _ _ _ (T8.setTop (mkF m 309 #[.val (.int p0), .val (.int p1), .val (.int p2), .val (.int p3), .val (.int p4), .val (.int p5), .val (.int z6), .val (.int z7), .val (.int z8), .val (.int z9), .val (.int z10), .val (.int z11), .val (.ref b1), .val (.int ((own_sri p5 (6 : Int32)) &&& (1 : Int32))), .val (.int ((own_sri p5 (7 : Int32)) &&& (7 : Int32))), .val (.int tg), .val (.int (1 : Int32))] [(.int (1 : Int32))]))
                                    refine own_by (fun _ kz => XS.goto X8.here hx rfl (pc0 := 309) (pc' := 313) rfl (hb hby at_309) (by decide) (by decide) kz) ?_
                                    show own_Go p.tables e below s _ _ _ (T8.setTop (mkF m 313 #[.val (.int p0), .val (.int p1), .val (.int p2), .val (.int p3), .val (.int p4), .val (.int p5), .val (.int z6), .val (.int z7), .val (.int z8), .val (.int z9), .val (.int z10), .val (.int z11), .val (.ref b1), .val (.int ((own_sri p5 (6 : Int32)) &&& (1 : Int32))), .val (.int ((own_sri p5 (7 : Int32)) &&& (7 : Int32))), .val (.int tg), .val (.int (1 : Int32))] [(.int (1 : Int32))]))
                                    exact own_retZ X8 hx hlk Bd.returns (hb hby at_313) (by decide) (by decide) ⟨rfl, N8⟩
                                  · refine own_by (fun _ kz => XS.icmpYes X_6.here hx rfl (pc0 := 263) (pc' := 270) rfl (hb hby at_263) rfl (feq hc263_7).2 (by decide) (by decide) kz) ?_
                                    show own_Go p.tables e below s _ _ _ (T_6.setTop (mkF m 270 #[.val (.int p0), .val (.int p1), .val (.int p2), .val (.int p3), .val (.int p4), .val (.int p5), .val (.int z6), .val (.int z7), .val (.int z8), .val (.int z9), .val (.int z10), .val (.int z11), .val (.ref b1), .val (.int ((own_sri p5 (6 : Int32)) &&& (1 : Int32))), .val (.int ((own_sri p5 (7 : Int32)) &&& (7 : Int32))), .val (.int tg), .unset] []))
                                    refine own_by (fun _ kz => XS.iconst X_6.here hx rfl (hb hby at_270) kz) ?_
                                    show own_Go p.tables e below s _ _ _ (T_6.setTop (mkF m 271 #[.val (.int p0), .val (.int p1), .val (.int p2), .val (.int p3), .val (.int p4), .val (.int p5), .val (.int z6), .val (.int z7), .val (.int z8), .val (.int z9), .val (.int z10), .val (.int z11), .val (.ref b1), .val (.int ((own_sri p5 (6 : Int32)) &&& (1 : Int32))), .val (.int ((own_sri p5 (7 : Int32)) &&& (7 : Int32))), .val (.int tg), .unset] [(.int (0 : Int32))]))
                                    refine own_by (fun _ kz => XS.istore X_6.here hx rfl (hb hby at_271) rfl (l' := #[.val (.int p0), .val (.int p1), .val (.int p2), .val (.int p3), .val (.int p4), .val (.int p5), .val (.int z6), .val (.int z7), .val (.int z8), .val (.int z9), .val (.int z10), .val (.int z11), .val (.ref b1), .val (.int ((own_sri p5 (6 : Int32)) &&& (1 : Int32))), .val (.int ((own_sri p5 (7 : Int32)) &&& (7 : Int32))), .val (.int tg), .val (.int (0 : Int32))]) rfl kz) ?_
                                    show own_Go p.tables e below s _ _ _ (T_6.setTop (mkF m 273 #[.val (.int p0), .val (.int p1), .val (.int p2), .val (.int p3), .val (.int p4), .val (.int p5), .val (.int z6), .val (.int z7), .val (.int z8), .val (.int z9), .val (.int z10), .val (.int z11), .val (.ref b1), .val (.int ((own_sri p5 (6 : Int32)) &&& (1 : Int32))), .val (.int ((own_sri p5 (7 : Int32)) &&& (7 : Int32))), .val (.int tg), .val (.int (0 : Int32))] []))
                                    refine own_by (fun _ kz => XS.goto X_6.here hx rfl (pc0 := 273) (pc' := 294) rfl (hb hby at_273) (by decide) (by decide) kz) ?_
                                    show own_Go p.tables e below s _ _ _ (T_6.setTop (mkF m 294 #[.val (.int p0), .val (.int p1), .val (.int p2), .val (.int p3), .val (.int p4), .val (.int p5), .val (.int z6), .val (.int z7), .val (.int z8), .val (.int z9), .val (.int z10), .val (.int z11), .val (.ref b1), .val (.int ((own_sri p5 (6 : Int32)) &&& (1 : Int32))), .val (.int ((own_sri p5 (7 : Int32)) &&& (7 : Int32))), .val (.int tg), .val (.int (0 : Int32))] []))
                                    refine own_by (fun _ kz => XS.aload X_6.here hx rfl (hb hby at_294) rfl rfl kz) ?_
                                    show own_Go p.tables e below s _ _ _ (T_6.setTop (mkF m 296 #[.val (.int p0), .val (.int p1), .val (.int p2), .val (.int p3), .val (.int p4), .val (.int p5), .val (.int z6), .val (.int z7), .val (.int z8), .val (.int z9), .val (.int z10), .val (.int z11), .val (.ref b1), .val (.int ((own_sri p5 (6 : Int32)) &&& (1 : Int32))), .val (.int ((own_sri p5 (7 : Int32)) &&& (7 : Int32))), .val (.int tg), .val (.int (0 : Int32))] [(.ref b1)]))
                                    refine own_by (fun _ kz => XS.iload X_6.here hx rfl (hb hby at_296) rfl kz) ?_
                                    show own_Go p.tables e below s _ _ _ (T_6.setTop (mkF m 298 #[.val (.int p0), .val (.int p1), .val (.int p2), .val (.int p3), .val (.int p4), .val (.int p5), .val (.int z6), .val (.int z7), .val (.int z8), .val (.int z9), .val (.int z10), .val (.int z11), .val (.ref b1), .val (.int ((own_sri p5 (6 : Int32)) &&& (1 : Int32))), .val (.int ((own_sri p5 (7 : Int32)) &&& (7 : Int32))), .val (.int tg), .val (.int (0 : Int32))] [(.int ((own_sri p5 (6 : Int32)) &&& (1 : Int32))), (.ref b1)]))
                                    refine own_by (fun _ kz => XS.iload X_6.here hx rfl (hb hby at_298) rfl kz) ?_
                                    show own_Go p.tables e below s _ _ _ (T_6.setTop (mkF m 300 #[.val (.int p0), .val (.int p1), .val (.int p2), .val (.int p3), .val (.int p4), .val (.int p5), .val (.int z6), .val (.int z7), .val (.int z8), .val (.int z9), .val (.int z10), .val (.int z11), .val (.ref b1), .val (.int ((own_sri p5 (6 : Int32)) &&& (1 : Int32))), .val (.int ((own_sri p5 (7 : Int32)) &&& (7 : Int32))), .val (.int tg), .val (.int (0 : Int32))] [(.int tg), (.int ((own_sri p5 (6 : Int32)) &&& (1 : Int32))), (.ref b1)]))
                                    obtain ⟨v9, T9, L9, X9, q9, st9⟩ := own_callV X_6 hx hZ hown (hw _ (List.mem_of_getElem? (i := 53) rfl)) (hw _ (List.mem_of_getElem? (i := 54) rfl)) (hw _ (List.mem_of_getElem? (i := 56) rfl)) (hw _ (List.mem_of_getElem? (i := 55) rfl)) (hw _ (List.mem_of_getElem? (i := 2) rfl)) (hw _ (List.mem_of_getElem? (i := 57) rfl)) (by decide) (rm10 l Z a0 hw [] b1 ((own_sri p5 (6 : Int32)) &&& (1 : Int32)) tg T_6.heap n0 Z_6 N ta ca fa r r2 k k2 x x2 vs us (Or.inl hc241_3) (by rw [hc241_3]; exact TBs) a1 (by omega)) (W := 0) (by decide) (by decide) rfl TBs.exa (g := (mkF m 300 #[.val (.int p0), .val (.int p1), .val (.int p2), .val (.int p3), .val (.int p4), .val (.int p5), .val (.int z6), .val (.int z7), .val (.int z8), .val (.int z9), .val (.int z10), .val (.int z11), .val (.ref b1), .val (.int ((own_sri p5 (6 : Int32)) &&& (1 : Int32))), .val (.int ((own_sri p5 (7 : Int32)) &&& (7 : Int32))), .val (.int tg), .val (.int (0 : Int32))] [(.int tg), (.int ((own_sri p5 (6 : Int32)) &&& (1 : Int32))), (.ref b1)])) rfl (by rw [hml]; rfl) (argsL := [(.int ((own_sri p5 (6 : Int32)) &&& (1 : Int32))), (.int tg)]) (rest := []) (lenOf pd_10 rfl) rfl rfl (by show 2 * 0 + _ ≤ _; exact Nat.le_of_eq rfl) (hb hby at_300) (by decide) (by decide)
                                    obtain ⟨rfl, Nq9, hh9⟩ := q9
                                    have N9 := Fr.app N_6 Nq9
                                    refine own_by st9 ?_
                                    show own_Go p.tables e below s _ _ _ (T9.setTop (mkF m 303 #[.val (.int p0), .val (.int p1), .val (.int p2), .val (.int p3), .val (.int p4), .val (.int p5), .val (.int z6), .val (.int z7), .val (.int z8), .val (.int z9), .val (.int z10), .val (.int z11), .val (.ref b1), .val (.int ((own_sri p5 (6 : Int32)) &&& (1 : Int32))), .val (.int ((own_sri p5 (7 : Int32)) &&& (7 : Int32))), .val (.int tg), .val (.int (0 : Int32))] [(.int (own_b vs x k tg))]))
                                    refine own_by (fun _ kz => XS.iload X9.here hx rfl (hb hby at_303) rfl kz) ?_
                                    show own_Go p.tables e below s _ _ _ (T9.setTop (mkF m 305 #[.val (.int p0), .val (.int p1), .val (.int p2), .val (.int p3), .val (.int p4), .val (.int p5), .val (.int z6), .val (.int z7), .val (.int z8), .val (.int z9), .val (.int z10), .val (.int z11), .val (.ref b1), .val (.int ((own_sri p5 (6 : Int32)) &&& (1 : Int32))), .val (.int ((own_sri p5 (7 : Int32)) &&& (7 : Int32))), .val (.int tg), .val (.int (0 : Int32))] [(.int (0 : Int32)), (.int (own_b vs x k tg))]))
                                    have hz : (own_b vs x k tg) = (0 : Int32) := own_b0 fun q => by rcases (a7 tg).mp q with ⟨u, v⟩ | ⟨u, v⟩; exact u hc246_4; exact hc263_7 v
                                    refine own_by (fun _ kz => XS.icmpNo X9.here hx rfl (hb hby at_305) rfl (teq hz).2 kz) ?_
                                    show own_Go p.tables e below s _ _ _ (T9.setTop (mkF m 308 #[.val (.int p0), .val (.int p1), .val (.int p2), .val (.int p3), .val (.int p4), .val (.int p5), .val (.int z6), .val (.int z7), .val (.int z8), .val (.int z9), .val (.int z10), .val (.int z11), .val (.ref b1), .val (.int ((own_sri p5 (6 : Int32)) &&& (1 : Int32))), .val (.int ((own_sri p5 (7 : Int32)) &&& (7 : Int32))), .val (.int tg), .val (.int (0 : Int32))] []))
                                    refine own_by (fun _ kz => XS.iconst X9.here hx rfl (hb hby at_308) kz) ?_
                                    show own_Go p.tables e below s _ _ _ (T9.setTop (mkF m 309 #[.val (.int p0), .val (.int p1), .val (.int p2), .val (.int p3), .val (.int p4), .val (.int p5), .val (.int z6), .val (.int z7), .val (.int z8), .val (.int z9), .val (.int z10), .val (.int z11), .val (.ref b1), .val (.int ((own_sri p5 (6 : Int32)) &&& (1 : Int32))), .val (.int ((own_sri p5 (7 : Int32)) &&& (7 : Int32))), .val (.int tg), .val (.int (0 : Int32))] [(.int (1 : Int32))]))
                                    refine own_by (fun _ kz => XS.goto X9.here hx rfl (pc0 := 309) (pc' := 313) rfl (hb hby at_309) (by decide) (by decide) kz) ?_
                                    show own_Go p.tables e below s _ _ _ (T9.setTop (mkF m 313 #[.val (.int p0), .val (.int p1), .val (.int p2), .val (.int p3), .val (.int p4), .val (.int p5), .val (.int z6), .val (.int z7), .val (.int z8), .val (.int z9), .val (.int z10), .val (.int z11), .val (.ref b1), .val (.int ((own_sri p5 (6 : Int32)) &&& (1 : Int32))), .val (.int ((own_sri p5 (7 : Int32)) &&& (7 : Int32))), .val (.int tg), .val (.int (0 : Int32))] [(.int (1 : Int32))]))
                                    exact own_retZ X9 hx hlk Bd.returns (hb hby at_313) (by decide) (by decide) ⟨rfl, N9⟩
                              · refine own_by (fun _ kz => XS.ifNo X_6.here hx rfl (hb hby at_246) rfl ((if0 _ _).trans (feq hc246_4).1) kz) ?_
                                show own_Go p.tables e below s _ _ _ (T_6.setTop (mkF m 249 #[.val (.int p0), .val (.int p1), .val (.int p2), .val (.int p3), .val (.int p4), .val (.int p5), .val (.int z6), .val (.int z7), .val (.int z8), .val (.int z9), .val (.int z10), .val (.int z11), .val (.ref b1), .val (.int ((own_sri p5 (6 : Int32)) &&& (1 : Int32))), .val (.int ((own_sri p5 (7 : Int32)) &&& (7 : Int32))), .val (.int tg), .unset] []))
                                refine own_by (fun _ kz => XS.iload X_6.here hx rfl (hb hby at_249) rfl kz) ?_
                                show own_Go p.tables e below s _ _ _ (T_6.setTop (mkF m 251 #[.val (.int p0), .val (.int p1), .val (.int p2), .val (.int p3), .val (.int p4), .val (.int p5), .val (.int z6), .val (.int z7), .val (.int z8), .val (.int z9), .val (.int z10), .val (.int z11), .val (.ref b1), .val (.int ((own_sri p5 (6 : Int32)) &&& (1 : Int32))), .val (.int ((own_sri p5 (7 : Int32)) &&& (7 : Int32))), .val (.int tg), .unset] [(.int tg)]))
                                refine own_by (fun _ kz => XS.iloadN X_6.here hx rfl (hb hby at_251) rfl kz) ?_
                                show own_Go p.tables e below s _ _ _ (T_6.setTop (mkF m 252 #[.val (.int p0), .val (.int p1), .val (.int p2), .val (.int p3), .val (.int p4), .val (.int p5), .val (.int z6), .val (.int z7), .val (.int z8), .val (.int z9), .val (.int z10), .val (.int z11), .val (.ref b1), .val (.int ((own_sri p5 (6 : Int32)) &&& (1 : Int32))), .val (.int ((own_sri p5 (7 : Int32)) &&& (7 : Int32))), .val (.int tg), .unset] [(.int p0), (.int tg)]))
                                by_cases hc252_10 : tg = p0
                                · refine own_by (fun _ kz => XS.icmpYes X_6.here hx rfl (pc0 := 252) (pc' := 266) rfl (hb hby at_252) rfl (teq hc252_10).1 (by decide) (by decide) kz) ?_
                                  show own_Go p.tables e below s _ _ _ (T_6.setTop (mkF m 266 #[.val (.int p0), .val (.int p1), .val (.int p2), .val (.int p3), .val (.int p4), .val (.int p5), .val (.int z6), .val (.int z7), .val (.int z8), .val (.int z9), .val (.int z10), .val (.int z11), .val (.ref b1), .val (.int ((own_sri p5 (6 : Int32)) &&& (1 : Int32))), .val (.int ((own_sri p5 (7 : Int32)) &&& (7 : Int32))), .val (.int tg), .unset] []))
                                  refine own_by (fun _ kz => XS.iconst X_6.here hx rfl (hb hby at_266) kz) ?_
                                  show own_Go p.tables e below s _ _ _ (T_6.setTop (mkF m 267 #[.val (.int p0), .val (.int p1), .val (.int p2), .val (.int p3), .val (.int p4), .val (.int p5), .val (.int z6), .val (.int z7), .val (.int z8), .val (.int z9), .val (.int z10), .val (.int z11), .val (.ref b1), .val (.int ((own_sri p5 (6 : Int32)) &&& (1 : Int32))), .val (.int ((own_sri p5 (7 : Int32)) &&& (7 : Int32))), .val (.int tg), .unset] [(.int (1 : Int32))]))
                                  refine own_by (fun _ kz => XS.goto X_6.here hx rfl (pc0 := 267) (pc' := 271) rfl (hb hby at_267) (by decide) (by decide) kz) ?_
                                  show own_Go p.tables e below s _ _ _ (T_6.setTop (mkF m 271 #[.val (.int p0), .val (.int p1), .val (.int p2), .val (.int p3), .val (.int p4), .val (.int p5), .val (.int z6), .val (.int z7), .val (.int z8), .val (.int z9), .val (.int z10), .val (.int z11), .val (.ref b1), .val (.int ((own_sri p5 (6 : Int32)) &&& (1 : Int32))), .val (.int ((own_sri p5 (7 : Int32)) &&& (7 : Int32))), .val (.int tg), .unset] [(.int (1 : Int32))]))
                                  refine own_by (fun _ kz => XS.istore X_6.here hx rfl (hb hby at_271) rfl (l' := #[.val (.int p0), .val (.int p1), .val (.int p2), .val (.int p3), .val (.int p4), .val (.int p5), .val (.int z6), .val (.int z7), .val (.int z8), .val (.int z9), .val (.int z10), .val (.int z11), .val (.ref b1), .val (.int ((own_sri p5 (6 : Int32)) &&& (1 : Int32))), .val (.int ((own_sri p5 (7 : Int32)) &&& (7 : Int32))), .val (.int tg), .val (.int (1 : Int32))]) rfl kz) ?_
                                  show own_Go p.tables e below s _ _ _ (T_6.setTop (mkF m 273 #[.val (.int p0), .val (.int p1), .val (.int p2), .val (.int p3), .val (.int p4), .val (.int p5), .val (.int z6), .val (.int z7), .val (.int z8), .val (.int z9), .val (.int z10), .val (.int z11), .val (.ref b1), .val (.int ((own_sri p5 (6 : Int32)) &&& (1 : Int32))), .val (.int ((own_sri p5 (7 : Int32)) &&& (7 : Int32))), .val (.int tg), .val (.int (1 : Int32))] []))
                                  refine own_by (fun _ kz => XS.goto X_6.here hx rfl (pc0 := 273) (pc' := 294) rfl (hb hby at_273) (by decide) (by decide) kz) ?_
                                  show own_Go p.tables e below s _ _ _ (T_6.setTop (mkF m 294 #[.val (.int p0), .val (.int p1), .val (.int p2), .val (.int p3), .val (.int p4), .val (.int p5), .val (.int z6), .val (.int z7), .val (.int z8), .val (.int z9), .val (.int z10), .val (.int z11), .val (.ref b1), .val (.int ((own_sri p5 (6 : Int32)) &&& (1 : Int32))), .val (.int ((own_sri p5 (7 : Int32)) &&& (7 : Int32))), .val (.int tg), .val (.int (1 : Int32))] []))
                                  refine own_by (fun _ kz => XS.aload X_6.here hx rfl (hb hby at_294) rfl rfl kz) ?_
                                  show own_Go p.tables e below s _ _ _ (T_6.setTop (mkF m 296 #[.val (.int p0), .val (.int p1), .val (.int p2), .val (.int p3), .val (.int p4), .val (.int p5), .val (.int z6), .val (.int z7), .val (.int z8), .val (.int z9), .val (.int z10), .val (.int z11), .val (.ref b1), .val (.int ((own_sri p5 (6 : Int32)) &&& (1 : Int32))), .val (.int ((own_sri p5 (7 : Int32)) &&& (7 : Int32))), .val (.int tg), .val (.int (1 : Int32))] [(.ref b1)]))
                                  refine own_by (fun _ kz => XS.iload X_6.here hx rfl (hb hby at_296) rfl kz) ?_
                                  show own_Go p.tables e below s _ _ _ (T_6.setTop (mkF m 298 #[.val (.int p0), .val (.int p1), .val (.int p2), .val (.int p3), .val (.int p4), .val (.int p5), .val (.int z6), .val (.int z7), .val (.int z8), .val (.int z9), .val (.int z10), .val (.int z11), .val (.ref b1), .val (.int ((own_sri p5 (6 : Int32)) &&& (1 : Int32))), .val (.int ((own_sri p5 (7 : Int32)) &&& (7 : Int32))), .val (.int tg), .val (.int (1 : Int32))] [(.int ((own_sri p5 (6 : Int32)) &&& (1 : Int32))), (.ref b1)]))
                                  refine own_by (fun _ kz => XS.iload X_6.here hx rfl (hb hby at_298) rfl kz) ?_
                                  show own_Go p.tables e below s _ _ _ (T_6.setTop (mkF m 300 #[.val (.int p0), .val (.int p1), .val (.int p2), .val (.int p3), .val (.int p4), .val (.int p5), .val (.int z6), .val (.int z7), .val (.int z8), .val (.int z9), .val (.int z10), .val (.int z11), .val (.ref b1), .val (.int ((own_sri p5 (6 : Int32)) &&& (1 : Int32))), .val (.int ((own_sri p5 (7 : Int32)) &&& (7 : Int32))), .val (.int tg), .val (.int (1 : Int32))] [(.int tg), (.int ((own_sri p5 (6 : Int32)) &&& (1 : Int32))), (.ref b1)]))
                                  obtain ⟨v11, T11, L11, X11, q11, st11⟩ := own_callV X_6 hx hZ hown (hw _ (List.mem_of_getElem? (i := 53) rfl)) (hw _ (List.mem_of_getElem? (i := 54) rfl)) (hw _ (List.mem_of_getElem? (i := 56) rfl)) (hw _ (List.mem_of_getElem? (i := 55) rfl)) (hw _ (List.mem_of_getElem? (i := 2) rfl)) (hw _ (List.mem_of_getElem? (i := 57) rfl)) (by decide) (rm10 l Z a0 hw [] b1 ((own_sri p5 (6 : Int32)) &&& (1 : Int32)) tg T_6.heap n0 Z_6 N ta ca fa r r2 k k2 x x2 vs us (Or.inl hc241_3) (by rw [hc241_3]; exact TBs) a1 (by omega)) (W := 0) (by decide) (by decide) rfl TBs.exa (g := (mkF m 300 #[.val (.int p0), .val (.int p1), .val (.int p2), .val (.int p3), .val (.int p4), .val (.int p5), .val (.int z6), .val (.int z7), .val (.int z8), .val (.int z9), .val (.int z10), .val (.int z11), .val (.ref b1), .val (.int ((own_sri p5 (6 : Int32)) &&& (1 : Int32))), .val (.int ((own_sri p5 (7 : Int32)) &&& (7 : Int32))), .val (.int tg), .val (.int (1 : Int32))] [(.int tg), (.int ((own_sri p5 (6 : Int32)) &&& (1 : Int32))), (.ref b1)])) rfl (by rw [hml]; rfl) (argsL := [(.int ((own_sri p5 (6 : Int32)) &&& (1 : Int32))), (.int tg)]) (rest := []) (lenOf pd_10 rfl) rfl rfl (by show 2 * 0 + _ ≤ _; exact Nat.le_of_eq rfl) (hb hby at_300) (by decide) (by decide)
                                  obtain ⟨rfl, Nq11, hh11⟩ := q11
                                  have N11 := Fr.app N_6 Nq11
                                  refine own_by st11 ?_
                                  show own_Go p.tables e below s _ _ _ (T11.setTop (mkF m 303 #[.val (.int p0), .val (.int p1), .val (.int p2), .val (.int p3), .val (.int p4), .val (.int p5), .val (.int z6), .val (.int z7), .val (.int z8), .val (.int z9), .val (.int z10), .val (.int z11), .val (.ref b1), .val (.int ((own_sri p5 (6 : Int32)) &&& (1 : Int32))), .val (.int ((own_sri p5 (7 : Int32)) &&& (7 : Int32))), .val (.int tg), .val (.int (1 : Int32))] [(.int (own_b vs x k tg))]))
                                  refine own_by (fun _ kz => XS.iload X11.here hx rfl (hb hby at_303) rfl kz) ?_
                                  show own_Go p.tables e below s _ _ _ (T11.setTop (mkF m 305 #[.val (.int p0), .val (.int p1), .val (.int p2), .val (.int p3), .val (.int p4), .val (.int p5), .val (.int z6), .val (.int z7), .val (.int z8), .val (.int z9), .val (.int z10), .val (.int z11), .val (.ref b1), .val (.int ((own_sri p5 (6 : Int32)) &&& (1 : Int32))), .val (.int ((own_sri p5 (7 : Int32)) &&& (7 : Int32))), .val (.int tg), .val (.int (1 : Int32))] [(.int (1 : Int32)), (.int (own_b vs x k tg))]))
                                  have hz : (own_b vs x k tg) = (1 : Int32) := own_b1 ((a7 tg).mpr (Or.inl ⟨hc246_4, hc252_10⟩))
                                  refine own_by (fun _ kz => XS.icmpNo X11.here hx rfl (hb hby at_305) rfl (teq hz).2 kz) ?_
                                  show own_Go p.tables e below s _ _ _ (T11.setTop (mkF m 308 #[.val (.int p0), .val (.int p1), .val (.int p2), .val (.int p3), .val (.int p4), .val (.int p5), .val (.int z6), .val (.int z7), .val (.int z8), .val (.int z9), .val (.int z10), .val (.int z11), .val (.ref b1), .val (.int ((own_sri p5 (6 : Int32)) &&& (1 : Int32))), .val (.int ((own_sri p5 (7 : Int32)) &&& (7 : Int32))), .val (.int tg), .val (.int (1 : Int32))] []))
                                  refine own_by (fun _ kz => XS.iconst X11.here hx rfl (hb hby at_308) kz) ?_
                                  show own_Go p.tables e below s _ _ _ (T11.setTop (mkF m 309 #[.val (.int p0), .val (.int p1), .val (.int p2), .val (.int p3), .val (.int p4), .val (.int p5), .val (.int z6), .val (.int z7), .val (.int z8), .val (.int z9), .val (.int z10), .val (.int z11), .val (.ref b1), .val (.int ((own_sri p5 (6 : Int32)) &&& (1 : Int32))), .val (.int ((own_sri p5 (7 : Int32)) &&& (7 : Int32))), .val (.int tg), .val (.int (1 : Int32))] [(.int (1 : Int32))]))
                                  refine own_by (fun _ kz => XS.goto X11.here hx rfl (pc0 := 309) (pc' := 313) rfl (hb hby at_309) (by decide) (by decide) kz) ?_
                                  show own_Go p.tables e below s _ _ _ (T11.setTop (mkF m 313 #[.val (.int p0), .val (.int p1), .val (.int p2), .val (.int p3), .val (.int p4), .val (.int p5), .val (.int z6), .val (.int z7), .val (.int z8), .val (.int z9), .val (.int z10), .val (.int z11), .val (.ref b1), .val (.int ((own_sri p5 (6 : Int32)) &&& (1 : Int32))), .val (.int ((own_sri p5 (7 : Int32)) &&& (7 : Int32))), .val (.int tg), .val (.int (1 : Int32))] [(.int (1 : Int32))]))
                                  exact own_retZ X11 hx hlk Bd.returns (hb hby at_313) (by decide) (by decide) ⟨rfl, N11⟩
                                · refine own_by (fun _ kz => XS.icmpNo X_6.here hx rfl (hb hby at_252) rfl (feq hc252_10).1 kz) ?_
                                  show own_Go p.tables e below s _ _ _ (T_6.setTop (mkF m 255 #[.val (.int p0), .val (.int p1), .val (.int p2), .val (.int p3), .val (.int p4), .val (.int p5), .val (.int z6), .val (.int z7), .val (.int z8), .val (.int z9), .val (.int z10), .val (.int z11), .val (.ref b1), .val (.int ((own_sri p5 (6 : Int32)) &&& (1 : Int32))), .val (.int ((own_sri p5 (7 : Int32)) &&& (7 : Int32))), .val (.int tg), .unset] []))
                                  refine own_by (fun _ kz => XS.iload X_6.here hx rfl (hb hby at_255) rfl kz) ?_
                                  show own_Go p.tables e below s _ _ _ (T_6.setTop (mkF m 257 #[.val (.int p0), .val (.int p1), .val (.int p2), .val (.int p3), .val (.int p4), .val (.int p5), .val (.int z6), .val (.int z7), .val (.int z8), .val (.int z9), .val (.int z10), .val (.int z11), .val (.ref b1), .val (.int ((own_sri p5 (6 : Int32)) &&& (1 : Int32))), .val (.int ((own_sri p5 (7 : Int32)) &&& (7 : Int32))), .val (.int tg), .unset] [(.int z8)]))
                                  by_cases hc257_12 : z8 = (0 : Int32)
                                  · refine own_by (fun _ kz => XS.ifYes X_6.here hx rfl (pc0 := 257) (pc' := 270) rfl (hb hby at_257) rfl ((if0 _ _).trans (teq hc257_12).1) (by decide) (by decide) kz) ?_
                                    show own_Go p.tables e below s _ _ _ (T_6.setTop (mkF m 270 #[.val (.int p0), .val (.int p1), .val (.int p2), .val (.int p3), .val (.int p4), .val (.int p5), .val (.int z6), .val (.int z7), .val (.int z8), .val (.int z9), .val (.int z10), .val (.int z11), .val (.ref b1), .val (.int ((own_sri p5 (6 : Int32)) &&& (1 : Int32))), .val (.int ((own_sri p5 (7 : Int32)) &&& (7 : Int32))), .val (.int tg), .unset] []))
                                    refine own_by (fun _ kz => XS.iconst X_6.here hx rfl (hb hby at_270) kz) ?_
                                    show own_Go p.tables e below s _ _ _ (T_6.setTop (mkF m 271 #[.val (.int p0), .val (.int p1), .val (.int p2), .val (.int p3), .val (.int p4), .val (.int p5), .val (.int z6), .val (.int z7), .val (.int z8), .val (.int z9), .val (.int z10), .val (.int z11), .val (.ref b1), .val (.int ((own_sri p5 (6 : Int32)) &&& (1 : Int32))), .val (.int ((own_sri p5 (7 : Int32)) &&& (7 : Int32))), .val (.int tg), .unset] [(.int (0 : Int32))]))
                                    refine own_by (fun _ kz => XS.istore X_6.here hx rfl (hb hby at_271) rfl (l' := #[.val (.int p0), .val (.int p1), .val (.int p2), .val (.int p3), .val (.int p4), .val (.int p5), .val (.int z6), .val (.int z7), .val (.int z8), .val (.int z9), .val (.int z10), .val (.int z11), .val (.ref b1), .val (.int ((own_sri p5 (6 : Int32)) &&& (1 : Int32))), .val (.int ((own_sri p5 (7 : Int32)) &&& (7 : Int32))), .val (.int tg), .val (.int (0 : Int32))]) rfl kz) ?_
                                    show own_Go p.tables e below s _ _ _ (T_6.setTop (mkF m 273 #[.val (.int p0), .val (.int p1), .val (.int p2), .val (.int p3), .val (.int p4), .val (.int p5), .val (.int z6), .val (.int z7), .val (.int z8), .val (.int z9), .val (.int z10), .val (.int z11), .val (.ref b1), .val (.int ((own_sri p5 (6 : Int32)) &&& (1 : Int32))), .val (.int ((own_sri p5 (7 : Int32)) &&& (7 : Int32))), .val (.int tg), .val (.int (0 : Int32))] []))
                                    refine own_by (fun _ kz => XS.goto X_6.here hx rfl (pc0 := 273) (pc' := 294) rfl (hb hby at_273) (by decide) (by decide) kz) ?_
                                    show own_Go p.tables e below s _ _ _ (T_6.setTop (mkF m 294 #[.val (.int p0), .val (.int p1), .val (.int p2), .val (.int p3), .val (.int p4), .val (.int p5), .val (.int z6), .val (.int z7), .val (.int z8), .val (.int z9), .val (.int z10), .val (.int z11), .val (.ref b1), .val (.int ((own_sri p5 (6 : Int32)) &&& (1 : Int32))), .val (.int ((own_sri p5 (7 : Int32)) &&& (7 : Int32))), .val (.int tg), .val (.int (0 : Int32))] []))
                                    refine own_by (fun _ kz => XS.aload X_6.here hx rfl (hb hby at_294) rfl rfl kz) ?_
                                    show own_Go p.tables e below s _ _ _ (T_6.setTop (mkF m 296 #[.val (.int p0), .val (.int p1), .val (.int p2), .val (.int p3), .val (.int p4), .val (.int p5), .val (.int z6), .val (.int z7), .val (.int z8), .val (.int z9), .val (.int z10), .val (.int z11), .val (.ref b1), .val (.int ((own_sri p5 (6 : Int32)) &&& (1 : Int32))), .val (.int ((own_sri p5 (7 : Int32)) &&& (7 : Int32))), .val (.int tg), .val (.int (0 : Int32))] [(.ref b1)]))
                                    refine own_by (fun _ kz => XS.iload X_6.here hx rfl (hb hby at_296) rfl kz) ?_
                                    show own_Go p.tables e below s _ _ _ (T_6.setTop (mkF m 298 #[.val (.int p0), .val (.int p1), .val (.int p2), .val (.int p3), .val (.int p4), .val (.int p5), .val (.int z6), .val (.int z7), .val (.int z8), .val (.int z9), .val (.int z10), .val (.int z11), .val (.ref b1), .val (.int ((own_sri p5 (6 : Int32)) &&& (1 : Int32))), .val (.int ((own_sri p5 (7 : Int32)) &&& (7 : Int32))), .val (.int tg), .val (.int (0 : Int32))] [(.int ((own_sri p5 (6 : Int32)) &&& (1 : Int32))), (.ref b1)]))
                                    refine own_by (fun _ kz => XS.iload X_6.here hx rfl (hb hby at_298) rfl kz) ?_
                                    show own_Go p.tables e below s _ _ _ (T_6.setTop (mkF m 300 #[.val (.int p0), .val (.int p1), .val (.int p2), .val (.int p3), .val (.int p4), .val (.int p5), .val (.int z6), .val (.int z7), .val (.int z8), .val (.int z9), .val (.int z10), .val (.int z11), .val (.ref b1), .val (.int ((own_sri p5 (6 : Int32)) &&& (1 : Int32))), .val (.int ((own_sri p5 (7 : Int32)) &&& (7 : Int32))), .val (.int tg), .val (.int (0 : Int32))] [(.int tg), (.int ((own_sri p5 (6 : Int32)) &&& (1 : Int32))), (.ref b1)]))
                                    obtain ⟨v13, T13, L13, X13, q13, st13⟩ := own_callV X_6 hx hZ hown (hw _ (List.mem_of_getElem? (i := 53) rfl)) (hw _ (List.mem_of_getElem? (i := 54) rfl)) (hw _ (List.mem_of_getElem? (i := 56) rfl)) (hw _ (List.mem_of_getElem? (i := 55) rfl)) (hw _ (List.mem_of_getElem? (i := 2) rfl)) (hw _ (List.mem_of_getElem? (i := 57) rfl)) (by decide) (rm10 l Z a0 hw [] b1 ((own_sri p5 (6 : Int32)) &&& (1 : Int32)) tg T_6.heap n0 Z_6 N ta ca fa r r2 k k2 x x2 vs us (Or.inl hc241_3) (by rw [hc241_3]; exact TBs) a1 (by omega)) (W := 0) (by decide) (by decide) rfl TBs.exa (g := (mkF m 300 #[.val (.int p0), .val (.int p1), .val (.int p2), .val (.int p3), .val (.int p4), .val (.int p5), .val (.int z6), .val (.int z7), .val (.int z8), .val (.int z9), .val (.int z10), .val (.int z11), .val (.ref b1), .val (.int ((own_sri p5 (6 : Int32)) &&& (1 : Int32))), .val (.int ((own_sri p5 (7 : Int32)) &&& (7 : Int32))), .val (.int tg), .val (.int (0 : Int32))] [(.int tg), (.int ((own_sri p5 (6 : Int32)) &&& (1 : Int32))), (.ref b1)])) rfl (by rw [hml]; rfl) (argsL := [(.int ((own_sri p5 (6 : Int32)) &&& (1 : Int32))), (.int tg)]) (rest := []) (lenOf pd_10 rfl) rfl rfl (by show 2 * 0 + _ ≤ _; exact Nat.le_of_eq rfl) (hb hby at_300) (by decide) (by decide)
                                    obtain ⟨rfl, Nq13, hh13⟩ := q13
                                    have N13 := Fr.app N_6 Nq13
                                    refine own_by st13 ?_
                                    show own_Go p.tables e below s _ _ _ (T13.setTop (mkF m 303 #[.val (.int p0), .val (.int p1), .val (.int p2), .val (.int p3), .val (.int p4), .val (.int p5), .val (.int z6), .val (.int z7), .val (.int z8), .val (.int z9), .val (.int z10), .val (.int z11), .val (.ref b1), .val (.int ((own_sri p5 (6 : Int32)) &&& (1 : Int32))), .val (.int ((own_sri p5 (7 : Int32)) &&& (7 : Int32))), .val (.int tg), .val (.int (0 : Int32))] [(.int (own_b vs x k tg))]))
                                    refine own_by (fun _ kz => XS.iload X13.here hx rfl (hb hby at_303) rfl kz) ?_
                                    show own_Go p.tables e below s _ _ _ (T13.setTop (mkF m 305 #[.val (.int p0), .val (.int p1), .val (.int p2), .val (.int p3), .val (.int p4), .val (.int p5), .val (.int z6), .val (.int z7), .val (.int z8), .val (.int z9), .val (.int z10), .val (.int z11), .val (.ref b1), .val (.int ((own_sri p5 (6 : Int32)) &&& (1 : Int32))), .val (.int ((own_sri p5 (7 : Int32)) &&& (7 : Int32))), .val (.int tg), .val (.int (0 : Int32))] [(.int (0 : Int32)), (.int (own_b vs x k tg))]))
                                    have hz : (own_b vs x k tg) = (0 : Int32) := own_b0 fun q => by rcases (a7 tg).mp q with ⟨u, v⟩ | ⟨u, v⟩; exact hc252_10 v; exact u hc257_12
                                    refine own_by (fun _ kz => XS.icmpNo X13.here hx rfl (hb hby at_305) rfl (teq hz).2 kz) ?_
                                    show own_Go p.tables e below s _ _ _ (T13.setTop (mkF m 308 #[.val (.int p0), .val (.int p1), .val (.int p2), .val (.int p3), .val (.int p4), .val (.int p5), .val (.int z6), .val (.int z7), .val (.int z8), .val (.int z9), .val (.int z10), .val (.int z11), .val (.ref b1), .val (.int ((own_sri p5 (6 : Int32)) &&& (1 : Int32))), .val (.int ((own_sri p5 (7 : Int32)) &&& (7 : Int32))), .val (.int tg), .val (.int (0 : Int32))] []))
                                    refine own_by (fun _ kz => XS.iconst X13.here hx rfl (hb hby at_308) kz) ?_
                                    show own_Go p.tables e below s _ _ _ (T13.setTop (mkF m 309 #[.val (.int p0), .val (.int p1), .val (.int p2), .val (.int p3), .val (.int p4), .val (.int p5), .val (.int z6), .val (.int z7), .val (.int z8), .val (.int z9), .val (.int z10), .val (.int z11), .val (.ref b1), .val (.int ((own_sri p5 (6 : Int32)) &&& (1 : Int32))), .val (.int ((own_sri p5 (7 : Int32)) &&& (7 : Int32))), .val (.int tg), .val (.int (0 : Int32))] [(.int (1 : Int32))]))
                                    refine own_by (fun _ kz => XS.goto X13.here hx rfl (pc0 := 309) (pc' := 313) rfl (hb hby at_309) (by decide) (by decide) kz) ?_
                                    show own_Go p.tables e below s _ _ _ (T13.setTop (mkF m 313 #[.val (.int p0), .val (.int p1), .val (.int p2), .val (.int p3), .val (.int p4), .val (.int p5), .val (.int z6), .val (.int z7), .val (.int z8), .val (.int z9), .val (.int z10), .val (.int z11), .val (.ref b1), .val (.int ((own_sri p5 (6 : Int32)) &&& (1 : Int32))), .val (.int ((own_sri p5 (7 : Int32)) &&& (7 : Int32))), .val (.int tg), .val (.int (0 : Int32))] [(.int (1 : Int32))]))
                                    exact own_retZ X13 hx hlk Bd.returns (hb hby at_313) (by decide) (by decide) ⟨rfl, N13⟩
                                  · refine own_by (fun _ kz => XS.ifNo X_6.here hx rfl (hb hby at_257) rfl ((if0 _ _).trans (feq hc257_12).1) kz) ?_
                                    show own_Go p.tables e below s _ _ _ (T_6.setTop (mkF m 260 #[.val (.int p0), .val (.int p1), .val (.int p2), .val (.int p3), .val (.int p4), .val (.int p5), .val (.int z6), .val (.int z7), .val (.int z8), .val (.int z9), .val (.int z10), .val (.int z11), .val (.ref b1), .val (.int ((own_sri p5 (6 : Int32)) &&& (1 : Int32))), .val (.int ((own_sri p5 (7 : Int32)) &&& (7 : Int32))), .val (.int tg), .unset] []))
                                    refine own_by (fun _ kz => XS.iload X_6.here hx rfl (hb hby at_260) rfl kz) ?_
                                    show own_Go p.tables e below s _ _ _ (T_6.setTop (mkF m 262 #[.val (.int p0), .val (.int p1), .val (.int p2), .val (.int p3), .val (.int p4), .val (.int p5), .val (.int z6), .val (.int z7), .val (.int z8), .val (.int z9), .val (.int z10), .val (.int z11), .val (.ref b1), .val (.int ((own_sri p5 (6 : Int32)) &&& (1 : Int32))), .val (.int ((own_sri p5 (7 : Int32)) &&& (7 : Int32))), .val (.int tg), .unset] [(.int tg)]))
                                    refine own_by (fun _ kz => XS.iloadN X_6.here hx rfl (hb hby at_262) rfl kz) ?_
                                    show own_Go p.tables e below s _ _ _ (T_6.setTop (mkF m 263 #[.val (.int p0), .val (.int p1), .val (.int p2), .val (.int p3), .val (.int p4), .val (.int p5), .val (.int z6), .val (.int z7), .val (.int z8), .val (.int z9), .val (.int z10), .val (.int z11), .val (.ref b1), .val (.int ((own_sri p5 (6 : Int32)) &&& (1 : Int32))), .val (.int ((own_sri p5 (7 : Int32)) &&& (7 : Int32))), .val (.int tg), .unset] [(.int p2), (.int tg)]))
                                    by_cases hc263_14 : tg = p2
                                    · refine own_by (fun _ kz => XS.icmpNo X_6.here hx rfl (hb hby at_263) rfl (teq hc263_14).2 kz) ?_
                                      show own_Go p.tables e below s _ _ _ (T_6.setTop (mkF m 266 #[.val (.int p0), .val (.int p1), .val (.int p2), .val (.int p3), .val (.int p4), .val (.int p5), .val (.int z6), .val (.int z7), .val (.int z8), .val (.int z9), .val (.int z10), .val (.int z11), .val (.ref b1), .val (.int ((own_sri p5 (6 : Int32)) &&& (1 : Int32))), .val (.int ((own_sri p5 (7 : Int32)) &&& (7 : Int32))), .val (.int tg), .unset] []))
                                      refine own_by (fun _ kz => XS.iconst X_6.here hx rfl (hb hby at_266) kz) ?_
                                      show own_Go p.tables e below s _ _ _ (T_6.setTop (mkF m 267 #[.val (.int p0), .val (.int p1), .val (.int p2), .val (.int p3), .val (.int p4), .val (.int p5), .val (.int z6), .val (.int z7), .val (.int z8), .val (.int z9), .val (.int z10), .val (.int z11), .val (.ref b1), .val (.int ((own_sri p5 (6 : Int32)) &&& (1 : Int32))), .val (.int ((own_sri p5 (7 : Int32)) &&& (7 : Int32))), .val (.int tg), .unset] [(.int (1 : Int32))]))
                                      refine own_by (fun _ kz => XS.goto X_6.here hx rfl (pc0 := 267) (pc' := 271) rfl (hb hby at_267) (by decide) (by decide) kz) ?_
                                      show own_Go p.tables e below s _ _ _ (T_6.setTop (mkF m 271 #[.val (.int p0), .val (.int p1), .val (.int p2), .val (.int p3), .val (.int p4), .val (.int p5), .val (.int z6), .val (.int z7), .val (.int z8), .val (.int z9), .val (.int z10), .val (.int z11), .val (.ref b1), .val (.int ((own_sri p5 (6 : Int32)) &&& (1 : Int32))), .val (.int ((own_sri p5 (7 : Int32)) &&& (7 : Int32))), .val (.int tg), .unset] [(.int (1 : Int32))]))
                                      refine own_by (fun _ kz => XS.istore X_6.here hx rfl (hb hby at_271) rfl (l' := #[.val (.int p0), .val (.int p1), .val (.int p2), .val (.int p3), .val (.int p4), .val (.int p5), .val (.int z6), .val (.int z7), .val (.int z8), .val (.int z9), .val (.int z10), .val (.int z11), .val (.ref b1), .val (.int ((own_sri p5 (6 : Int32)) &&& (1 : Int32))), .val (.int ((own_sri p5 (7 : Int32)) &&& (7 : Int32))), .val (.int tg), .val (.int (1 : Int32))]) rfl kz) ?_
                                      show own_Go p.tables e below s _ _ _ (T_6.setTop (mkF m 273 #[.val (.int p0), .val (.int p1), .val (.int p2), .val (.int p3), .val (.int p4), .val (.int p5), .val (.int z6), .val (.int z7), .val (.int z8), .val (.int z9), .val (.int z10), .val (.int z11), .val (.ref b1), .val (.int ((own_sri p5 (6 : Int32)) &&& (1 : Int32))), .val (.int ((own_sri p5 (7 : Int32)) &&& (7 : Int32))), .val (.int tg), .val (.int (1 : Int32))] []))
                                      refine own_by (fun _ kz => XS.goto X_6.here hx rfl (pc0 := 273) (pc' := 294) rfl (hb hby at_273) (by decide) (by decide) kz) ?_
                                      show own_Go p.tables e below s _ _ _ (T_6.setTop (mkF m 294 #[.val (.int p0), .val (.int p1), .val (.int p2), .val (.int p3), .val (.int p4), .val (.int p5), .val (.int z6), .val (.int z7), .val (.int z8), .val (.int z9), .val (.int z10), .val (.int z11), .val (.ref b1), .val (.int ((own_sri p5 (6 : Int32)) &&& (1 : Int32))), .val (.int ((own_sri p5 (7 : Int32)) &&& (7 : Int32))), .val (.int tg), .val (.int (1 : Int32))] []))
                                      refine own_by (fun _ kz => XS.aload X_6.here hx rfl (hb hby at_294) rfl rfl kz) ?_
                                      show own_Go p.tables e below s _ _ _ (T_6.setTop (mkF m 296 #[.val (.int p0), .val (.int p1), .val (.int p2), .val (.int p3), .val (.int p4), .val (.int p5), .val (.int z6), .val (.int z7), .val (.int z8), .val (.int z9), .val (.int z10), .val (.int z11), .val (.ref b1), .val (.int ((own_sri p5 (6 : Int32)) &&& (1 : Int32))), .val (.int ((own_sri p5 (7 : Int32)) &&& (7 : Int32))), .val (.int tg), .val (.int (1 : Int32))] [(.ref b1)]))
                                      refine own_by (fun _ kz => XS.iload X_6.here hx rfl (hb hby at_296) rfl kz) ?_
                                      show own_Go p.tables e below s _ _ _ (T_6.setTop (mkF m 298 #[.val (.int p0), .val (.int p1), .val (.int p2), .val (.int p3), .val (.int p4), .val (.int p5), .val (.int z6), .val (.int z7), .val (.int z8), .val (.int z9), .val (.int z10), .val (.int z11), .val (.ref b1), .val (.int ((own_sri p5 (6 : Int32)) &&& (1 : Int32))), .val (.int ((own_sri p5 (7 : Int32)) &&& (7 : Int32))), .val (.int tg), .val (.int (1 : Int32))] [(.int ((own_sri p5 (6 : Int32)) &&& (1 : Int32))), (.ref b1)]))
                                      refine own_by (fun _ kz => XS.iload X_6.here hx rfl (hb hby at_298) rfl kz) ?_
                                      show own_Go p.tables e below s _ _ _ (T_6.setTop (mkF m 300 #[.val (.int p0), .val (.int p1), .val (.int p2), .val (.int p3), .val (.int p4), .val (.int p5), .val (.int z6), .val (.int z7), .val (.int z8), .val (.int z9), .val (.int z10), .val (.int z11), .val (.ref b1), .val (.int ((own_sri p5 (6 : Int32)) &&& (1 : Int32))), .val (.int ((own_sri p5 (7 : Int32)) &&& (7 : Int32))), .val (.int tg), .val (.int (1 : Int32))] [(.int tg), (.int ((own_sri p5 (6 : Int32)) &&& (1 : Int32))), (.ref b1)]))
                                      obtain ⟨v15, T15, L15, X15, q15, st15⟩ := own_callV X_6 hx hZ hown (hw _ (List.mem_of_getElem? (i := 53) rfl)) (hw _ (List.mem_of_getElem? (i := 54) rfl)) (hw _ (List.mem_of_getElem? (i := 56) rfl)) (hw _ (List.mem_of_getElem? (i := 55) rfl)) (hw _ (List.mem_of_getElem? (i := 2) rfl)) (hw _ (List.mem_of_getElem? (i := 57) rfl)) (by decide) (rm10 l Z a0 hw [] b1 ((own_sri p5 (6 : Int32)) &&& (1 : Int32)) tg T_6.heap n0 Z_6 N ta ca fa r r2 k k2 x x2 vs us (Or.inl hc241_3) (by rw [hc241_3]; exact TBs) a1 (by omega)) (W := 0) (by decide) (by decide) rfl TBs.exa (g := (mkF m 300 #[.val (.int p0), .val (.int p1), .val (.int p2), .val (.int p3), .val (.int p4), .val (.int p5), .val (.int z6), .val (.int z7), .val (.int z8), .val (.int z9), .val (.int z10), .val (.int z11), .val (.ref b1), .val (.int ((own_sri p5 (6 : Int32)) &&& (1 : Int32))), .val (.int ((own_sri p5 (7 : Int32)) &&& (7 : Int32))), .val (.int tg), .val (.int (1 : Int32))] [(.int tg), (.int ((own_sri p5 (6 : Int32)) &&& (1 : Int32))), (.ref b1)])) rfl (by rw [hml]; rfl) (argsL := [(.int ((own_sri p5 (6 : Int32)) &&& (1 : Int32))), (.int tg)]) (rest := []) (lenOf pd_10 rfl) rfl rfl (by show 2 * 0 + _ ≤ _; exact Nat.le_of_eq rfl) (hb hby at_300) (by decide) (by decide)
                                      obtain ⟨rfl, Nq15, hh15⟩ := q15
                                      have N15 := Fr.app N_6 Nq15
                                      refine own_by st15 ?_
                                      show own_Go p.tables e below s _ _ _ (T15.setTop (mkF m 303 #[.val (.int p0), .val (.int p1), .val (.int p2), .val (.int p3), .val (.int p4), .val (.int p5), .val (.int z6), .val (.int z7), .val (.int z8), .val (.int z9), .val (.int z10), .val (.int z11), .val (.ref b1), .val (.int ((own_sri p5 (6 : Int32)) &&& (1 : Int32))), .val (.int ((own_sri p5 (7 : Int32)) &&& (7 : Int32))), .val (.int tg), .val (.int (1 : Int32))] [(.int (own_b vs x k tg))]))
                                      refine own_by (fun _ kz => XS.iload X15.here hx rfl (hb hby at_303) rfl kz) ?_
                                      show own_Go p.tables e below s _ _ _ (T15.setTop (mkF m 305 #[.val (.int p0), .val (.int p1), .val (.int p2), .val (.int p3), .val (.int p4), .val (.int p5), .val (.int z6), .val (.int z7), .val (.int z8), .val (.int z9), .val (.int z10), .val (.int z11), .val (.ref b1), .val (.int ((own_sri p5 (6 : Int32)) &&& (1 : Int32))), .val (.int ((own_sri p5 (7 : Int32)) &&& (7 : Int32))), .val (.int tg), .val (.int (1 : Int32))] [(.int (1 : Int32)), (.int (own_b vs x k tg))]))
                                      have hz : (own_b vs x k tg) = (1 : Int32) := own_b1 ((a7 tg).mpr (Or.inr ⟨hc257_12, hc263_14⟩))
                                      refine own_by (fun _ kz => XS.icmpNo X15.here hx rfl (hb hby at_305) rfl (teq hz).2 kz) ?_
                                      show own_Go p.tables e below s _ _ _ (T15.setTop (mkF m 308 #[.val (.int p0), .val (.int p1), .val (.int p2), .val (.int p3), .val (.int p4), .val (.int p5), .val (.int z6), .val (.int z7), .val (.int z8), .val (.int z9), .val (.int z10), .val (.int z11), .val (.ref b1), .val (.int ((own_sri p5 (6 : Int32)) &&& (1 : Int32))), .val (.int ((own_sri p5 (7 : Int32)) &&& (7 : Int32))), .val (.int tg), .val (.int (1 : Int32))] []))
                                      refine own_by (fun _ kz => XS.iconst X15.here hx rfl (hb hby at_308) kz) ?_
                                      show own_Go p.tables e below s _ _ _ (T15.setTop (mkF m 309 #[.val (.int p0), .val (.int p1), .val (.int p2), .val (.int p3), .val (.int p4), .val (.int p5), .val (.int z6), .val (.int z7), .val (.int z8), .val (.int z9), .val (.int z10), .val (.int z11), .val (.ref b1), .val (.int ((own_sri p5 (6 : Int32)) &&& (1 : Int32))), .val (.int ((own_sri p5 (7 : Int32)) &&& (7 : Int32))), .val (.int tg), .val (.int (1 : Int32))] [(.int (1 : Int32))]))
                                      refine own_by (fun _ kz => XS.goto X15.here hx rfl (pc0 := 309) (pc' := 313) rfl (hb hby at_309) (by decide) (by decide) kz) ?_
                                      show own_Go p.tables e below s _ _ _ (T15.setTop (mkF m 313 #[.val (.int p0), .val (.int p1), .val (.int p2), .val (.int p3), .val (.int p4), .val (.int p5), .val (.int z6), .val (.int z7), .val (.int z8), .val (.int z9), .val (.int z10), .val (.int z11), .val (.ref b1), .val (.int ((own_sri p5 (6 : Int32)) &&& (1 : Int32))), .val (.int ((own_sri p5 (7 : Int32)) &&& (7 : Int32))), .val (.int tg), .val (.int (1 : Int32))] [(.int (1 : Int32))]))
                                      exact own_retZ X15 hx hlk Bd.returns (hb hby at_313) (by decide) (by decide) ⟨rfl, N15⟩
                                    · refine own_by (fun _ kz => XS.icmpYes X_6.here hx rfl (pc0 := 263) (pc' := 270) rfl (hb hby at_263) rfl (feq hc263_14).2 (by decide) (by decide) kz) ?_
                                      show own_Go p.tables e below s _ _ _ (T_6.setTop (mkF m 270 #[.val (.int p0), .val (.int p1), .val (.int p2), .val (.int p3), .val (.int p4), .val (.int p5), .val (.int z6), .val (.int z7), .val (.int z8), .val (.int z9), .val (.int z10), .val (.int z11), .val (.ref b1), .val (.int ((own_sri p5 (6 : Int32)) &&& (1 : Int32))), .val (.int ((own_sri p5 (7 : Int32)) &&& (7 : Int32))), .val (.int tg), .unset] []))
                                      refine own_by (fun _ kz => XS.iconst X_6.here hx rfl (hb hby at_270) kz) ?_
                                      show own_Go p.tables e below s _ _ _ (T_6.setTop (mkF m 271 #[.val (.int p0), .val (.int p1), .val (.int p2), .val (.int p3), .val (.int p4), .val (.int p5), .val (.int z6), .val (.int z7), .val (.int z8), .val (.int z9), .val (.int z10), .val (.int z11), .val (.ref b1), .val (.int ((own_sri p5 (6 : Int32)) &&& (1 : Int32))), .val (.int ((own_sri p5 (7 : Int32)) &&& (7 : Int32))), .val (.int tg), .unset] [(.int (0 : Int32))]))
                                      refine own_by (fun _ kz => XS.istore X_6.here hx rfl (hb hby at_271) rfl (l' := #[.val (.int p0), .val (.int p1), .val (.int p2), .val (.int p3), .val (.int p4), .val (.int p5), .val (.int z6), .val (.int z7), .val (.int z8), .val (.int z9), .val (.int z10), .val (.int z11), .val (.ref b1), .val (.int ((own_sri p5 (6 : Int32)) &&& (1 : Int32))), .val (.int ((own_sri p5 (7 : Int32)) &&& (7 : Int32))), .val (.int tg), .val (.int (0 : Int32))]) rfl kz) ?_
                                      show own_Go p.tables e below s _ _ _ (T_6.setTop (mkF m 273 #[.val (.int p0), .val (.int p1), .val (.int p2), .val (.int p3), .val (.int p4), .val (.int p5), .val (.int z6), .val (.int z7), .val (.int z8), .val (.int z9), .val (.int z10), .val (.int z11), .val (.ref b1), .val (.int ((own_sri p5 (6 : Int32)) &&& (1 : Int32))), .val (.int ((own_sri p5 (7 : Int32)) &&& (7 : Int32))), .val (.int tg), .val (.int (0 : Int32))] []))
                                      refine own_by (fun _ kz => XS.goto X_6.here hx rfl (pc0 := 273) (pc' := 294) rfl (hb hby at_273) (by decide) (by decide) kz) ?_
                                      show own_Go p.tables e below s _ _ _ (T_6.setTop (mkF m 294 #[.val (.int p0), .val (.int p1), .val (.int p2), .val (.int p3), .val (.int p4), .val (.int p5), .val (.int z6), .val (.int z7), .val (.int z8), .val (.int z9), .val (.int z10), .val (.int z11), .val (.ref b1), .val (.int ((own_sri p5 (6 : Int32)) &&& (1 : Int32))), .val (.int ((own_sri p5 (7 : Int32)) &&& (7 : Int32))), .val (.int tg), .val (.int (0 : Int32))] []))
                                      refine own_by (fun _ kz => XS.aload X_6.here hx rfl (hb hby at_294) rfl rfl kz) ?_
                                      show own_Go p.tables e below s _ _ _ (T_6.setTop (mkF m 296 #[.val (.int p0), .val (.int p1), .val (.int p2), .val (.int p3), .val (.int p4), .val (.int p5), .val (.int z6), .val (.int z7), .val (.int z8), .val (.int z9), .val (.int z10), .val (.int z11), .val (.ref b1), .val (.int ((own_sri p5 (6 : Int32)) &&& (1 : Int32))), .val (.int ((own_sri p5 (7 : Int32)) &&& (7 : Int32))), .val (.int tg), .val (.int (0 : Int32))] [(.ref b1)]))
                                      refine own_by (fun _ kz => XS.iload X_6.here hx rfl (hb hby at_296) rfl kz) ?_
                                      show own_Go p.tables e below s _ _ _ (T_6.setTop (mkF m 298 #[.val (.int p0), .val (.int p1), .val (.int p2), .val (.int p3), .val (.int p4), .val (.int p5), .val (.int z6), .val (.int z7), .val (.int z8), .val (.int z9), .val (.int z10), .val (.int z11), .val (.ref b1), .val (.int ((own_sri p5 (6 : Int32)) &&& (1 : Int32))), .val (.int ((own_sri p5 (7 : Int32)) &&& (7 : Int32))), .val (.int tg), .val (.int (0 : Int32))] [(.int ((own_sri p5 (6 : Int32)) &&& (1 : Int32))), (.ref b1)]))
                                      refine own_by (fun _ kz => XS.iload X_6.here hx rfl (hb hby at_298) rfl kz) ?_
                                      show own_Go p.tables e below s _ _ _ (T_6.setTop (mkF m 300 #[.val (.int p0), .val (.int p1), .val (.int p2), .val (.int p3), .val (.int p4), .val (.int p5), .val (.int z6), .val (.int z7), .val (.int z8), .val (.int z9), .val (.int z10), .val (.int z11), .val (.ref b1), .val (.int ((own_sri p5 (6 : Int32)) &&& (1 : Int32))), .val (.int ((own_sri p5 (7 : Int32)) &&& (7 : Int32))), .val (.int tg), .val (.int (0 : Int32))] [(.int tg), (.int ((own_sri p5 (6 : Int32)) &&& (1 : Int32))), (.ref b1)]))
                                      obtain ⟨v16, T16, L16, X16, q16, st16⟩ := own_callV X_6 hx hZ hown (hw _ (List.mem_of_getElem? (i := 53) rfl)) (hw _ (List.mem_of_getElem? (i := 54) rfl)) (hw _ (List.mem_of_getElem? (i := 56) rfl)) (hw _ (List.mem_of_getElem? (i := 55) rfl)) (hw _ (List.mem_of_getElem? (i := 2) rfl)) (hw _ (List.mem_of_getElem? (i := 57) rfl)) (by decide) (rm10 l Z a0 hw [] b1 ((own_sri p5 (6 : Int32)) &&& (1 : Int32)) tg T_6.heap n0 Z_6 N ta ca fa r r2 k k2 x x2 vs us (Or.inl hc241_3) (by rw [hc241_3]; exact TBs) a1 (by omega)) (W := 0) (by decide) (by decide) rfl TBs.exa (g := (mkF m 300 #[.val (.int p0), .val (.int p1), .val (.int p2), .val (.int p3), .val (.int p4), .val (.int p5), .val (.int z6), .val (.int z7), .val (.int z8), .val (.int z9), .val (.int z10), .val (.int z11), .val (.ref b1), .val (.int ((own_sri p5 (6 : Int32)) &&& (1 : Int32))), .val (.int ((own_sri p5 (7 : Int32)) &&& (7 : Int32))), .val (.int tg), .val (.int (0 : Int32))] [(.int tg), (.int ((own_sri p5 (6 : Int32)) &&& (1 : Int32))), (.ref b1)])) rfl (by rw [hml]; rfl) (argsL := [(.int ((own_sri p5 (6 : Int32)) &&& (1 : Int32))), (.int tg)]) (rest := []) (lenOf pd_10 rfl) rfl rfl (by show 2 * 0 + _ ≤ _; exact Nat.le_of_eq rfl) (hb hby at_300) (by decide) (by decide)
                                      obtain ⟨rfl, Nq16, hh16⟩ := q16
                                      have N16 := Fr.app N_6 Nq16
                                      refine own_by st16 ?_
                                      show own_Go p.tables e below s _ _ _ (T16.setTop (mkF m 303 #[.val (.int p0), .val (.int p1), .val (.int p2), .val (.int p3), .val (.int p4), .val (.int p5), .val (.int z6), .val (.int z7), .val (.int z8), .val (.int z9), .val (.int z10), .val (.int z11), .val (.ref b1), .val (.int ((own_sri p5 (6 : Int32)) &&& (1 : Int32))), .val (.int ((own_sri p5 (7 : Int32)) &&& (7 : Int32))), .val (.int tg), .val (.int (0 : Int32))] [(.int (own_b vs x k tg))]))
                                      refine own_by (fun _ kz => XS.iload X16.here hx rfl (hb hby at_303) rfl kz) ?_
                                      show own_Go p.tables e below s _ _ _ (T16.setTop (mkF m 305 #[.val (.int p0), .val (.int p1), .val (.int p2), .val (.int p3), .val (.int p4), .val (.int p5), .val (.int z6), .val (.int z7), .val (.int z8), .val (.int z9), .val (.int z10), .val (.int z11), .val (.ref b1), .val (.int ((own_sri p5 (6 : Int32)) &&& (1 : Int32))), .val (.int ((own_sri p5 (7 : Int32)) &&& (7 : Int32))), .val (.int tg), .val (.int (0 : Int32))] [(.int (0 : Int32)), (.int (own_b vs x k tg))]))
                                      have hz : (own_b vs x k tg) = (0 : Int32) := own_b0 fun q => by rcases (a7 tg).mp q with ⟨u, v⟩ | ⟨u, v⟩; exact hc252_10 v; exact hc263_14 v
                                      refine own_by (fun _ kz => XS.icmpNo X16.here hx rfl (hb hby at_305) rfl (teq hz).2 kz) ?_
                                      show own_Go p.tables e below s _ _ _ (T16.setTop (mkF m 308 #[.val (.int p0), .val (.int p1), .val (.int p2), .val (.int p3), .val (.int p4), .val (.int p5), .val (.int z6), .val (.int z7), .val (.int z8), .val (.int z9), .val (.int z10), .val (.int z11), .val (.ref b1), .val (.int ((own_sri p5 (6 : Int32)) &&& (1 : Int32))), .val (.int ((own_sri p5 (7 : Int32)) &&& (7 : Int32))), .val (.int tg), .val (.int (0 : Int32))] []))
                                      refine own_by (fun _ kz => XS.iconst X16.here hx rfl (hb hby at_308) kz) ?_
                                      show own_Go p.tables e below s _ _ _ (T16.setTop (mkF m 309 #[.val (.int p0), .val (.int p1), .val (.int p2), .val (.int p3), .val (.int p4), .val (.int p5), .val (.int z6), .val (.int z7), .val (.int z8), .val (.int z9), .val (.int z10), .val (.int z11), .val (.ref b1), .val (.int ((own_sri p5 (6 : Int32)) &&& (1 : Int32))), .val (.int ((own_sri p5 (7 : Int32)) &&& (7 : Int32))), .val (.int tg), .val (.int (0 : Int32))] [(.int (1 : Int32))]))
                                      refine own_by (fun _ kz => XS.goto X16.here hx rfl (pc0 := 309) (pc' := 313) rfl (hb hby at_309) (by decide) (by decide) kz) ?_
                                      show own_Go p.tables e below s _ _ _ (T16.setTop (mkF m 313 #[.val (.int p0), .val (.int p1), .val (.int p2), .val (.int p3), .val (.int p4), .val (.int p5), .val (.int z6), .val (.int z7), .val (.int z8), .val (.int z9), .val (.int z10), .val (.int z11), .val (.ref b1), .val (.int ((own_sri p5 (6 : Int32)) &&& (1 : Int32))), .val (.int ((own_sri p5 (7 : Int32)) &&& (7 : Int32))), .val (.int tg), .val (.int (0 : Int32))] [(.int (1 : Int32))]))
                                      exact own_retZ X16 hx hlk Bd.returns (hb hby at_313) (by decide) (by decide) ⟨rfl, N16⟩
                            · refine own_by (fun _ kz => XS.ifYes X_6.here hx rfl (pc0 := 241) (pc' := 276) rfl (hb hby at_241) rfl ((if0 _ _).trans (feq hc241_3).2) (by decide) (by decide) kz) ?_
                              show own_Go p.tables e below s _ _ _ (T_6.setTop (mkF m 276 #[.val (.int p0), .val (.int p1), .val (.int p2), .val (.int p3), .val (.int p4), .val (.int p5), .val (.int z6), .val (.int z7), .val (.int z8), .val (.int z9), .val (.int z10), .val (.int z11), .val (.ref b1), .val (.int ((own_sri p5 (6 : Int32)) &&& (1 : Int32))), .val (.int ((own_sri p5 (7 : Int32)) &&& (7 : Int32))), .val (.int tg), .unset] []))
                              refine own_by (fun _ kz => XS.iload X_6.here hx rfl (hb hby at_276) rfl kz) ?_
                              show own_Go p.tables e below s _ _ _ (T_6.setTop (mkF m 278 #[.val (.int p0), .val (.int p1), .val (.int p2), .val (.int p3), .val (.int p4), .val (.int p5), .val (.int z6), .val (.int z7), .val (.int z8), .val (.int z9), .val (.int z10), .val (.int z11), .val (.ref b1), .val (.int ((own_sri p5 (6 : Int32)) &&& (1 : Int32))), .val (.int ((own_sri p5 (7 : Int32)) &&& (7 : Int32))), .val (.int tg), .unset] [(.int z10)]))
                              by_cases hc278_17 : z10 = (0 : Int32)
                              · refine own_by (fun _ kz => XS.ifYes X_6.here hx rfl (pc0 := 278) (pc' := 291) rfl (hb hby at_278) rfl ((if0 _ _).trans (teq hc278_17).1) (by decide) (by decide) kz) ?_
                                show own_Go p.tables e below s _ _ _ (T_6.setTop (mkF m 291 #[.val (.int p0), .val (.int p1), .val (.int p2), .val (.int p3), .val (.int p4), .val (.int p5), .val (.int z6), .val (.int z7), .val (.int z8), .val (.int z9), .val (.int z10), .val (.int z11), .val (.ref b1), .val (.int ((own_sri p5 (6 : Int32)) &&& (1 : Int32))), .val (.int ((own_sri p5 (7 : Int32)) &&& (7 : Int32))), .val (.int tg), .unset] []))
                                refine own_by (fun _ kz => XS.iconst X_6.here hx rfl (hb hby at_291) kz) ?_
                                show own_Go p.tables e below s _ _ _ (T_6.setTop (mkF m 292 #[.val (.int p0), .val (.int p1), .val (.int p2), .val (.int p3), .val (.int p4), .val (.int p5), .val (.int z6), .val (.int z7), .val (.int z8), .val (.int z9), .val (.int z10), .val (.int z11), .val (.ref b1), .val (.int ((own_sri p5 (6 : Int32)) &&& (1 : Int32))), .val (.int ((own_sri p5 (7 : Int32)) &&& (7 : Int32))), .val (.int tg), .unset] [(.int (0 : Int32))]))
                                refine own_by (fun _ kz => XS.istore X_6.here hx rfl (hb hby at_292) rfl (l' := #[.val (.int p0), .val (.int p1), .val (.int p2), .val (.int p3), .val (.int p4), .val (.int p5), .val (.int z6), .val (.int z7), .val (.int z8), .val (.int z9), .val (.int z10), .val (.int z11), .val (.ref b1), .val (.int ((own_sri p5 (6 : Int32)) &&& (1 : Int32))), .val (.int ((own_sri p5 (7 : Int32)) &&& (7 : Int32))), .val (.int tg), .val (.int (0 : Int32))]) rfl kz) ?_
                                show own_Go p.tables e below s _ _ _ (T_6.setTop (mkF m 294 #[.val (.int p0), .val (.int p1), .val (.int p2), .val (.int p3), .val (.int p4), .val (.int p5), .val (.int z6), .val (.int z7), .val (.int z8), .val (.int z9), .val (.int z10), .val (.int z11), .val (.ref b1), .val (.int ((own_sri p5 (6 : Int32)) &&& (1 : Int32))), .val (.int ((own_sri p5 (7 : Int32)) &&& (7 : Int32))), .val (.int tg), .val (.int (0 : Int32))] []))
                                refine own_by (fun _ kz => XS.aload X_6.here hx rfl (hb hby at_294) rfl rfl kz) ?_
                                show own_Go p.tables e below s _ _ _ (T_6.setTop (mkF m 296 #[.val (.int p0), .val (.int p1), .val (.int p2), .val (.int p3), .val (.int p4), .val (.int p5), .val (.int z6), .val (.int z7), .val (.int z8), .val (.int z9), .val (.int z10), .val (.int z11), .val (.ref b1), .val (.int ((own_sri p5 (6 : Int32)) &&& (1 : Int32))), .val (.int ((own_sri p5 (7 : Int32)) &&& (7 : Int32))), .val (.int tg), .val (.int (0 : Int32))] [(.ref b1)]))
                                refine own_by (fun _ kz => XS.iload X_6.here hx rfl (hb hby at_296) rfl kz) ?_
                                show own_Go p.tables e below s _ _ _ (T_6.setTop (mkF m 298 #[.val (.int p0), .val (.int p1), .val (.int p2), .val (.int p3), .val (.int p4), .val (.int p5), .val (.int z6), .val (.int z7), .val (.int z8), .val (.int z9), .val (.int z10), .val (.int z11), .val (.ref b1), .val (.int ((own_sri p5 (6 : Int32)) &&& (1 : Int32))), .val (.int ((own_sri p5 (7 : Int32)) &&& (7 : Int32))), .val (.int tg), .val (.int (0 : Int32))] [(.int ((own_sri p5 (6 : Int32)) &&& (1 : Int32))), (.ref b1)]))
                                refine own_by (fun _ kz => XS.iload X_6.here hx rfl (hb hby at_298) rfl kz) ?_
                                show own_Go p.tables e below s _ _ _ (T_6.setTop (mkF m 300 #[.val (.int p0), .val (.int p1), .val (.int p2), .val (.int p3), .val (.int p4), .val (.int p5), .val (.int z6), .val (.int z7), .val (.int z8), .val (.int z9), .val (.int z10), .val (.int z11), .val (.ref b1), .val (.int ((own_sri p5 (6 : Int32)) &&& (1 : Int32))), .val (.int ((own_sri p5 (7 : Int32)) &&& (7 : Int32))), .val (.int tg), .val (.int (0 : Int32))] [(.int tg), (.int ((own_sri p5 (6 : Int32)) &&& (1 : Int32))), (.ref b1)]))
                                have h1 : ((own_sri p5 (6 : Int32)) &&& (1 : Int32)) = 1 := (and_one _).resolve_left hc241_3
                                obtain ⟨v18, T18, L18, X18, q18, st18⟩ := own_callV X_6 hx hZ hown (hw _ (List.mem_of_getElem? (i := 53) rfl)) (hw _ (List.mem_of_getElem? (i := 54) rfl)) (hw _ (List.mem_of_getElem? (i := 56) rfl)) (hw _ (List.mem_of_getElem? (i := 55) rfl)) (hw _ (List.mem_of_getElem? (i := 2) rfl)) (hw _ (List.mem_of_getElem? (i := 57) rfl)) (by decide) (rm10 l Z a0 hw [] b1 ((own_sri p5 (6 : Int32)) &&& (1 : Int32)) tg T_6.heap n0 Z_6 N ta ca fa r2 r k2 k x2 x us vs (Or.inr h1) (by rw [h1]; exact TBs.swap) a4 (by omega)) (W := 0) (by decide) (by decide) rfl TBs.exa (g := (mkF m 300 #[.val (.int p0), .val (.int p1), .val (.int p2), .val (.int p3), .val (.int p4), .val (.int p5), .val (.int z6), .val (.int z7), .val (.int z8), .val (.int z9), .val (.int z10), .val (.int z11), .val (.ref b1), .val (.int ((own_sri p5 (6 : Int32)) &&& (1 : Int32))), .val (.int ((own_sri p5 (7 : Int32)) &&& (7 : Int32))), .val (.int tg), .val (.int (0 : Int32))] [(.int tg), (.int ((own_sri p5 (6 : Int32)) &&& (1 : Int32))), (.ref b1)])) rfl (by rw [hml]; rfl) (argsL := [(.int ((own_sri p5 (6 : Int32)) &&& (1 : Int32))), (.int tg)]) (rest := []) (lenOf pd_10 rfl) rfl rfl (by show 2 * 0 + _ ≤ _; exact Nat.le_of_eq rfl) (hb hby at_300) (by decide) (by decide)
                                obtain ⟨rfl, Nq18, hh18⟩ := q18
                                have N18 := Fr.app N_6 Nq18
                                refine own_by st18 ?_
                                show own_Go p.tables e below s _ _ _ (T18.setTop (mkF m 303 #[.val (.int p0), .val (.int p1), .val (.int p2), .val (.int p3), .val (.int p4), .val (.int p5), .val (.int z6), .val (.int z7), .val (.int z8), .val (.int z9), .val (.int z10), .val (.int z11), .val (.ref b1), .val (.int ((own_sri p5 (6 : Int32)) &&& (1 : Int32))), .val (.int ((own_sri p5 (7 : Int32)) &&& (7 : Int32))), .val (.int tg), .val (.int (0 : Int32))] [(.int (own_b us x2 k2 tg))]))
                                refine own_by (fun _ kz => XS.iload X18.here hx rfl (hb hby at_303) rfl kz) ?_
                                show own_Go p.tables e below s _ _ _ (T18.setTop (mkF m 305 #[.val (.int p0), .val (.int p1), .val (.int p2), .val (.int p3), .val (.int p4), .val (.int p5), .val (.int z6), .val (.int z7), .val (.int z8), .val (.int z9), .val (.int z10), .val (.int z11), .val (.ref b1), .val (.int ((own_sri p5 (6 : Int32)) &&& (1 : Int32))), .val (.int ((own_sri p5 (7 : Int32)) &&& (7 : Int32))), .val (.int tg), .val (.int (0 : Int32))] [(.int (0 : Int32)), (.int (own_b us x2 k2 tg))]))
                                have hz : (own_b us x2 k2 tg) = (0 : Int32) := own_b0 fun q => by obtain ⟨u, v⟩ := (a8 tg).mp q; exact u hc278_17
                                refine own_by (fun _ kz => XS.icmpNo X18.here hx rfl (hb hby at_305) rfl (teq hz).2 kz) ?_
                                show own_Go p.tables e below s _ _ _ (T18.setTop (mkF m 308 #[.val (.int p0), .val (.int p1), .val (.int p2), .val (.int p3), .val (.int p4), .val (.int p5), .val (.int z6), .val (.int z7), .val (.int z8), .val (.int z9), .val (.int z10), .val (.int z11), .val (.ref b1), .val (.int ((own_sri p5 (6 : Int32)) &&& (1 : Int32))), .val (.int ((own_sri p5 (7 : Int32)) &&& (7 : Int32))), .val (.int tg), .val (.int (0 : Int32))] []))
                                refine own_by (fun _ kz => XS.iconst X18.here hx rfl (hb hby at_308) kz) ?_
                                show own_Go p.tables e below s _ _ _ (T18.setTop (mkF m 309 #[.val (.int p0), .val (.int p1), .val (.int p2), .val (.int p3), .val (.int p4), .val (.int p5), .val (.int z6), .val (.int z7), .val (.int z8), .val (.int z9), .val (.int z10), .val (.int z11), .val (.ref b1), .val (.int ((own_sri p5 (6 : Int32)) &&& (1 : Int32))), .val (.int ((own_sri p5 (7 : Int32)) &&& (7 : Int32))), .val (.int tg), .val (.int (0 : Int32))] [(.int (1 : Int32))]))
                                refine own_by (fun _ kz => XS.goto X18.here hx rfl (pc0 := 309) (pc' := 313) rfl (hb hby at_309) (by decide) (by decide) kz) ?_
                                show own_Go p.tables e below s _ _ _ (T18.setTop (mkF m 313 #[.val (.int p0), .val (.int p1), .val (.int p2), .val (.int p3), .val (.int p4), .val (.int p5), .val (.int z6), .val (.int z7), .val (.int z8), .val (.int z9), .val (.int z10), .val (.int z11), .val (.ref b1), .val (.int ((own_sri p5 (6 : Int32)) &&& (1 : Int32))), .val (.int ((own_sri p5 (7 : Int32)) &&& (7 : Int32))), .val (.int tg), .val (.int (0 : Int32))] [(.int (1 : Int32))]))
                                exact own_retZ X18 hx hlk Bd.returns (hb hby at_313) (by decide) (by decide) ⟨rfl, N18⟩
                              · refine own_by (fun _ kz => XS.ifNo X_6.here hx rfl (hb hby at_278) rfl ((if0 _ _).trans (feq hc278_17).1) kz) ?_
                                show own_Go p.tables e below s _ _ _ (T_6.setTop (mkF m 281 #[.val (.int p0), .val (.int p1), .val (.int p2), .val (.int p3), .val (.int p4), .val (.int p5), .val (.int z6), .val (.int z7), .val (.int z8), .val (.int z9), .val (.int z10), .val (.int z11), .val (.ref b1), .val (.int ((own_sri p5 (6 : Int32)) &&& (1 : Int32))), .val (.int ((own_sri p5 (7 : Int32)) &&& (7 : Int32))), .val (.int tg), .unset] []))
                                refine own_by (fun _ kz => XS.iload X_6.here hx rfl (hb hby at_281) rfl kz) ?_
                                show own_Go p.tables e below s _ _ _ (T_6.setTop (mkF m 283 #[.val (.int p0), .val (.int p1), .val (.int p2), .val (.int p3), .val (.int p4), .val (.int p5), .val (.int z6), .val (.int z7), .val (.int z8), .val (.int z9), .val (.int z10), .val (.int z11), .val (.ref b1), .val (.int ((own_sri p5 (6 : Int32)) &&& (1 : Int32))), .val (.int ((own_sri p5 (7 : Int32)) &&& (7 : Int32))), .val (.int tg), .unset] [(.int tg)]))
                                refine own_by (fun _ kz => XS.iloadN X_6.here hx rfl (hb hby at_283) rfl kz) ?_
                                show own_Go p.tables e below s _ _ _ (T_6.setTop (mkF m 284 #[.val (.int p0), .val (.int p1), .val (.int p2), .val (.int p3), .val (.int p4), .val (.int p5), .val (.int z6), .val (.int z7), .val (.int z8), .val (.int z9), .val (.int z10), .val (.int z11), .val (.ref b1), .val (.int ((own_sri p5 (6 : Int32)) &&& (1 : Int32))), .val (.int ((own_sri p5 (7 : Int32)) &&& (7 : Int32))), .val (.int tg), .unset] [(.int p3), (.int tg)]))
                                by_cases hc284_19 : tg = p3
                                · refine own_by (fun _ kz => XS.icmpNo X_6.here hx rfl (hb hby at_284) rfl (teq hc284_19).2 kz) ?_
                                  show own_Go p.tables e below s _ _ _ (T_6.setTop (mkF m 287 #[.val (.int p0), .val (.int p1), .val (.int p2), .val (.int p3), .val (.int p4), .val (.int p5), .val (.int z6), .val (.int z7), .val (.int z8), .val (.int z9), .val (.int z10), .val (.int z11), .val (.ref b1), .val (.int ((own_sri p5 (6 : Int32)) &&& (1 : Int32))), .val (.int ((own_sri p5 (7 : Int32)) &&& (7 : Int32))), .val (.int tg), .unset] []))
                                  refine own_by (fun _ kz => XS.iconst X_6.here hx rfl (hb hby at_287) kz) ?_
                                  show own_Go p.tables e below s _ _ _ (T_6.setTop (mkF m 288 #[.val (.int p0), .val (.int p1), .val (.int p2), .val (.int p3), .val (.int p4), .val (.int p5), .val (.int z6), .val (.int z7), .val (.int z8), .val (.int z9), .val (.int z10), .val (.int z11), .val (.ref b1), .val (.int ((own_sri p5 (6 : Int32)) &&& (1 : Int32))), .val (.int ((own_sri p5 (7 : Int32)) &&& (7 : Int32))), .val (.int tg), .unset] [(.int (1 : Int32))]))
                                  refine own_by (fun _ kz => XS.goto X_6.here hx rfl (pc0 := 288) (pc' := 292) rfl (hb hby at_288) (by decide) (by decide) kz) ?_
                                  show own_Go p.tables e below s _ _ _ (T_6.setTop (mkF m 292 #[.val (.int p0), .val (.int p1), .val (.int p2), .val (.int p3), .val (.int p4), .val (.int p5), .val (.int z6), .val (.int z7), .val (.int z8), .val (.int z9), .val (.int z10), .val (.int z11), .val (.ref b1), .val (.int ((own_sri p5 (6 : Int32)) &&& (1 : Int32))), .val (.int ((own_sri p5 (7 : Int32)) &&& (7 : Int32))), .val (.int tg), .unset] [(.int (1 : Int32))]))
                                  refine own_by (fun _ kz => XS.istore X_6.here hx rfl (hb hby at_292) rfl (l' := #[.val (.int p0), .val (.int p1), .val (.int p2), .val (.int p3), .val (.int p4), .val (.int p5), .val (.int z6), .val (.int z7), .val (.int z8), .val (.int z9), .val (.int z10), .val (.int z11), .val (.ref b1), .val (.int ((own_sri p5 (6 : Int32)) &&& (1 : Int32))), .val (.int ((own_sri p5 (7 : Int32)) &&& (7 : Int32))), .val (.int tg), .val (.int (1 : Int32))]) rfl kz) ?_
                                  show own_Go p.tables e below s _ _ _ (T_6.setTop (mkF m 294 #[.val (.int p0), .val (.int p1), .val (.int p2), .val (.int p3), .val (.int p4), .val (.int p5), .val (.int z6), .val (.int z7), .val (.int z8), .val (.int z9), .val (.int z10), .val (.int z11), .val (.ref b1), .val (.int ((own_sri p5 (6 : Int32)) &&& (1 : Int32))), .val (.int ((own_sri p5 (7 : Int32)) &&& (7 : Int32))), .val (.int tg), .val (.int (1 : Int32))] []))
                                  refine own_by (fun _ kz => XS.aload X_6.here hx rfl (hb hby at_294) rfl rfl kz) ?_
                                  show own_Go p.tables e below s _ _ _ (T_6.setTop (mkF m 296 #[.val (.int p0), .val (.int p1), .val (.int p2), .val (.int p3), .val (.int p4), .val (.int p5), .val (.int z6), .val (.int z7), .val (.int z8), .val (.int z9), .val (.int z10), .val (.int z11), .val (.ref b1), .val (.int ((own_sri p5 (6 : Int32)) &&& (1 : Int32))), .val (.int ((own_sri p5 (7 : Int32)) &&& (7 : Int32))), .val (.int tg), .val (.int (1 : Int32))] [(.ref b1)]))
                                  refine own_by (fun _ kz => XS.iload X_6.here hx rfl (hb hby at_296) rfl kz) ?_
                                  show own_Go p.tables e below s _ _ _ (T_6.setTop (mkF m 298 #[.val (.int p0), .val (.int p1), .val (.int p2), .val (.int p3), .val (.int p4), .val (.int p5), .val (.int z6), .val (.int z7), .val (.int z8), .val (.int z9), .val (.int z10), .val (.int z11), .val (.ref b1), .val (.int ((own_sri p5 (6 : Int32)) &&& (1 : Int32))), .val (.int ((own_sri p5 (7 : Int32)) &&& (7 : Int32))), .val (.int tg), .val (.int (1 : Int32))] [(.int ((own_sri p5 (6 : Int32)) &&& (1 : Int32))), (.ref b1)]))
                                  refine own_by (fun _ kz => XS.iload X_6.here hx rfl (hb hby at_298) rfl kz) ?_
                                  show own_Go p.tables e below s _ _ _ (T_6.setTop (mkF m 300 #[.val (.int p0), .val (.int p1), .val (.int p2), .val (.int p3), .val (.int p4), .val (.int p5), .val (.int z6), .val (.int z7), .val (.int z8), .val (.int z9), .val (.int z10), .val (.int z11), .val (.ref b1), .val (.int ((own_sri p5 (6 : Int32)) &&& (1 : Int32))), .val (.int ((own_sri p5 (7 : Int32)) &&& (7 : Int32))), .val (.int tg), .val (.int (1 : Int32))] [(.int tg), (.int ((own_sri p5 (6 : Int32)) &&& (1 : Int32))), (.ref b1)]))
                                  have h1 : ((own_sri p5 (6 : Int32)) &&& (1 : Int32)) = 1 := (and_one _).resolve_left hc241_3
                                  obtain ⟨v20, T20, L20, X20, q20, st20⟩ := own_callV X_6 hx hZ hown (hw _ (List.mem_of_getElem? (i := 53) rfl)) (hw _ (List.mem_of_getElem? (i := 54) rfl)) (hw _ (List.mem_of_getElem? (i := 56) rfl)) (hw _ (List.mem_of_getElem? (i := 55) rfl)) (hw _ (List.mem_of_getElem? (i := 2) rfl)) (hw _ (List.mem_of_getElem? (i := 57) rfl)) (by decide) (rm10 l Z a0 hw [] b1 ((own_sri p5 (6 : Int32)) &&& (1 : Int32)) tg T_6.heap n0 Z_6 N ta ca fa r2 r k2 k x2 x us vs (Or.inr h1) (by rw [h1]; exact TBs.swap) a4 (by omega)) (W := 0) (by decide) (by decide) rfl TBs.exa (g := (mkF m 300 #[.val (.int p0), .val (.int p1), .val (.int p2), .val (.int p3), .val (.int p4), .val (.int p5), .val (.int z6), .val (.int z7), .val (.int z8), .val (.int z9), .val (.int z10), .val (.int z11), .val (.ref b1), .val (.int ((own_sri p5 (6 : Int32)) &&& (1 : Int32))), .val (.int ((own_sri p5 (7 : Int32)) &&& (7 : Int32))), .val (.int tg), .val (.int (1 : Int32))] [(.int tg), (.int ((own_sri p5 (6 : Int32)) &&& (1 : Int32))), (.ref b1)])) rfl (by rw [hml]; rfl) (argsL := [(.int ((own_sri p5 (6 : Int32)) &&& (1 : Int32))), (.int tg)]) (rest := []) (lenOf pd_10 rfl) rfl rfl (by show 2 * 0 + _ ≤ _; exact Nat.le_of_eq rfl) (hb hby at_300) (by decide) (by decide)
                                  obtain ⟨rfl, Nq20, hh20⟩ := q20
                                  have N20 := Fr.app N_6 Nq20
                                  refine own_by st20 ?_
                                  show own_Go p.tables e below s _ _ _ (T20.setTop (mkF m 303 #[.val (.int p0), .val (.int p1), .val (.int p2), .val (.int p3), .val (.int p4), .val (.int p5), .val (.int z6), .val (.int z7), .val (.int z8), .val (.int z9), .val (.int z10), .val (.int z11), .val (.ref b1), .val (.int ((own_sri p5 (6 : Int32)) &&& (1 : Int32))), .val (.int ((own_sri p5 (7 : Int32)) &&& (7 : Int32))), .val (.int tg), .val (.int (1 : Int32))] [(.int (own_b us x2 k2 tg))]))
                                  refine own_by (fun _ kz => XS.iload X20.here hx rfl (hb hby at_303) rfl kz) ?_
                                  show own_Go p.tables e below s _ _ _ (T20.setTop (mkF m 305 #[.val (.int p0), .val (.int p1), .val (.int p2), .val (.int p3), .val (.int p4), .val (.int p5), .val (.int z6), .val (.int z7), .val (.int z8), .val (.int z9), .val (.int z10), .val (.int z11), .val (.ref b1), .val (.int ((own_sri p5 (6 : Int32)) &&& (1 : Int32))), .val (.int ((own_sri p5 (7 : Int32)) &&& (7 : Int32))), .val (.int tg), .val (.int (1 : Int32))] [(.int (1 : Int32)), (.int (own_b us x2 k2 tg))]))
                                  have hz : (own_b us x2 k2 tg) = (1 : Int32) := own_b1 ((a8 tg).mpr (⟨hc278_17, hc284_19⟩))
                                  refine own_by (fun _ kz => XS.icmpNo X20.here hx rfl (hb hby at_305) rfl (teq hz).2 kz) ?_
                                  show own_Go p.tables e below s _ _ _ (T20.setTop (mkF m 308 #[.val (.int p0), .val (.int p1), .val (.int p2), .val (.int p3), .val (.int p4), .val (.int p5), .val (.int z6), .val (.int z7), .val (.int z8), .val (.int z9), .val (.int z10), .val (.int z11), .val (.ref b1), .val (.int ((own_sri p5 (6 : Int32)) &&& (1 : Int32))), .val (.int ((own_sri p5 (7 : Int32)) &&& (7 : Int32))), .val (.int tg), .val (.int (1 : Int32))] []))
                                  refine own_by (fun _ kz => XS.iconst X20.here hx rfl (hb hby at_308) kz) ?_
                                  show own_Go p.tables e below s _ _ _ (T20.setTop (mkF m 309 #[.val (.int p0), .val (.int p1), .val (.int p2), .val (.int p3), .val (.int p4), .val (.int p5), .val (.int z6), .val (.int z7), .val (.int z8), .val (.int z9), .val (.int z10), .val (.int z11), .val (.ref b1), .val (.int ((own_sri p5 (6 : Int32)) &&& (1 : Int32))), .val (.int ((own_sri p5 (7 : Int32)) &&& (7 : Int32))), .val (.int tg), .val (.int (1 : Int32))] [(.int (1 : Int32))]))
                                  refine own_by (fun _ kz => XS.goto X20.here hx rfl (pc0 := 309) (pc' := 313) rfl (hb hby at_309) (by decide) (by decide) kz) ?_
                                  show own_Go p.tables e below s _ _ _ (T20.setTop (mkF m 313 #[.val (.int p0), .val (.int p1), .val (.int p2), .val (.int p3), .val (.int p4), .val (.int p5), .val (.int z6), .val (.int z7), .val (.int z8), .val (.int z9), .val (.int z10), .val (.int z11), .val (.ref b1), .val (.int ((own_sri p5 (6 : Int32)) &&& (1 : Int32))), .val (.int ((own_sri p5 (7 : Int32)) &&& (7 : Int32))), .val (.int tg), .val (.int (1 : Int32))] [(.int (1 : Int32))]))
                                  exact own_retZ X20 hx hlk Bd.returns (hb hby at_313) (by decide) (by decide) ⟨rfl, N20⟩
                                · refine own_by (fun _ kz => XS.icmpYes X_6.here hx rfl (pc0 := 284) (pc' := 291) rfl (hb hby at_284) rfl (feq hc284_19).2 (by decide) (by decide) kz) ?_
                                  show own_Go p.tables e below s _ _ _ (T_6.setTop (mkF m 291 #[.val (.int p0), .val (.int p1), .val (.int p2), .val (.int p3), .val (.int p4), .val (.int p5), .val (.int z6), .val (.int z7), .val (.int z8), .val (.int z9), .val (.int z10), .val (.int z11), .val (.ref b1), .val (.int ((own_sri p5 (6 : Int32)) &&& (1 : Int32))), .val (.int ((own_sri p5 (7 : Int32)) &&& (7 : Int32))), .val (.int tg), .unset] []))
                                  refine own_by (fun _ kz => XS.iconst X_6.here hx rfl (hb hby at_291) kz) ?_
                                  show own_Go p.tables e below s _ _ _ (T_6.setTop (mkF m 292 #[.val (.int p0), .val (.int p1), .val (.int p2), .val (.int p3), .val (.int p4), .val (.int p5), .val (.int z6), .val (.int z7), .val (.int z8), .val (.int z9), .val (.int z10), .val (.int z11), .val (.ref b1), .val (.int ((own_sri p5 (6 : Int32)) &&& (1 : Int32))), .val (.int ((own_sri p5 (7 : Int32)) &&& (7 : Int32))), .val (.int tg), .unset] [(.int (0 : Int32))]))
                                  refine own_by (fun _ kz => XS.istore X_6.here hx rfl (hb hby at_292) rfl (l' := #[.val (.int p0), .val (.int p1), .val (.int p2), .val (.int p3), .val (.int p4), .val (.int p5), .val (.int z6), .val (.int z7), .val (.int z8), .val (.int z9), .val (.int z10), .val (.int z11), .val (.ref b1), .val (.int ((own_sri p5 (6 : Int32)) &&& (1 : Int32))), .val (.int ((own_sri p5 (7 : Int32)) &&& (7 : Int32))), .val (.int tg), .val (.int (0 : Int32))]) rfl kz) ?_
                                  show own_Go p.tables e below s _ _ _ (T_6.setTop (mkF m 294 #[.val (.int p0), .val (.int p1), .val (.int p2), .val (.int p3), .val (.int p4), .val (.int p5), .val (.int z6), .val (.int z7), .val (.int z8), .val (.int z9), .val (.int z10), .val (.int z11), .val (.ref b1), .val (.int ((own_sri p5 (6 : Int32)) &&& (1 : Int32))), .val (.int ((own_sri p5 (7 : Int32)) &&& (7 : Int32))), .val (.int tg), .val (.int (0 : Int32))] []))
                                  refine own_by (fun _ kz => XS.aload X_6.here hx rfl (hb hby at_294) rfl rfl kz) ?_
                                  show own_Go p.tables e below s _ _ _ (T_6.setTop (mkF m 296 #[.val (.int p0), .val (.int p1), .val (.int p2), .val (.int p3), .val (.int p4), .val (.int p5), .val (.int z6), .val (.int z7), .val (.int z8), .val (.int z9), .val (.int z10), .val (.int z11), .val (.ref b1), .val (.int ((own_sri p5 (6 : Int32)) &&& (1 : Int32))), .val (.int ((own_sri p5 (7 : Int32)) &&& (7 : Int32))), .val (.int tg), .val (.int (0 : Int32))] [(.ref b1)]))
                                  refine own_by (fun _ kz => XS.iload X_6.here hx rfl (hb hby at_296) rfl kz) ?_
                                  show own_Go p.tables e below s _ _ _ (T_6.setTop (mkF m 298 #[.val (.int p0), .val (.int p1), .val (.int p2), .val (.int p3), .val (.int p4), .val (.int p5), .val (.int z6), .val (.int z7), .val (.int z8), .val (.int z9), .val (.int z10), .val (.int z11), .val (.ref b1), .val (.int ((own_sri p5 (6 : Int32)) &&& (1 : Int32))), .val (.int ((own_sri p5 (7 : Int32)) &&& (7 : Int32))), .val (.int tg), .val (.int (0 : Int32))] [(.int ((own_sri p5 (6 : Int32)) &&& (1 : Int32))), (.ref b1)]))
                                  refine own_by (fun _ kz => XS.iload X_6.here hx rfl (hb hby at_298) rfl kz) ?_
                                  show own_Go p.tables e below s _ _ _ (T_6.setTop (mkF m 300 #[.val (.int p0), .val (.int p1), .val (.int p2), .val (.int p3), .val (.int p4), .val (.int p5), .val (.int z6), .val (.int z7), .val (.int z8), .val (.int z9), .val (.int z10), .val (.int z11), .val (.ref b1), .val (.int ((own_sri p5 (6 : Int32)) &&& (1 : Int32))), .val (.int ((own_sri p5 (7 : Int32)) &&& (7 : Int32))), .val (.int tg), .val (.int (0 : Int32))] [(.int tg), (.int ((own_sri p5 (6 : Int32)) &&& (1 : Int32))), (.ref b1)]))
                                  have h1 : ((own_sri p5 (6 : Int32)) &&& (1 : Int32)) = 1 := (and_one _).resolve_left hc241_3
                                  obtain ⟨v21, T21, L21, X21, q21, st21⟩ := own_callV X_6 hx hZ hown (hw _ (List.mem_of_getElem? (i := 53) rfl)) (hw _ (List.mem_of_getElem? (i := 54) rfl)) (hw _ (List.mem_of_getElem? (i := 56) rfl)) (hw _ (List.mem_of_getElem? (i := 55) rfl)) (hw _ (List.mem_of_getElem? (i := 2) rfl)) (hw _ (List.mem_of_getElem? (i := 57) rfl)) (by decide) (rm10 l Z a0 hw [] b1 ((own_sri p5 (6 : Int32)) &&& (1 : Int32)) tg T_6.heap n0 Z_6 N ta ca fa r2 r k2 k x2 x us vs (Or.inr h1) (by rw [h1]; exact TBs.swap) a4 (by omega)) (W := 0) (by decide) (by decide) rfl TBs.exa (g := (mkF m 300 #[.val (.int p0), .val (.int p1), .val (.int p2), .val (.int p3), .val (.int p4), .val (.int p5), .val (.int z6), .val (.int z7), .val (.int z8), .val (.int z9), .val (.int z10), .val (.int z11), .val (.ref b1), .val (.int ((own_sri p5 (6 : Int32)) &&& (1 : Int32))), .val (.int ((own_sri p5 (7 : Int32)) &&& (7 : Int32))), .val (.int tg), .val (.int (0 : Int32))] [(.int tg), (.int ((own_sri p5 (6 : Int32)) &&& (1 : Int32))), (.ref b1)])) rfl (by rw [hml]; rfl) (argsL := [(.int ((own_sri p5 (6 : Int32)) &&& (1 : Int32))), (.int tg)]) (rest := []) (lenOf pd_10 rfl) rfl rfl (by show 2 * 0 + _ ≤ _; exact Nat.le_of_eq rfl) (hb hby at_300) (by decide) (by decide)
                                  obtain ⟨rfl, Nq21, hh21⟩ := q21
                                  have N21 := Fr.app N_6 Nq21
                                  refine own_by st21 ?_
                                  show own_Go p.tables e below s _ _ _ (T21.setTop (mkF m 303 #[.val (.int p0), .val (.int p1), .val (.int p2), .val (.int p3), .val (.int p4), .val (.int p5), .val (.int z6), .val (.int z7), .val (.int z8), .val (.int z9), .val (.int z10), .val (.int z11), .val (.ref b1), .val (.int ((own_sri p5 (6 : Int32)) &&& (1 : Int32))), .val (.int ((own_sri p5 (7 : Int32)) &&& (7 : Int32))), .val (.int tg), .val (.int (0 : Int32))] [(.int (own_b us x2 k2 tg))]))
                                  refine own_by (fun _ kz => XS.iload X21.here hx rfl (hb hby at_303) rfl kz) ?_
                                  show own_Go p.tables e below s _ _ _ (T21.setTop (mkF m 305 #[.val (.int p0), .val (.int p1), .val (.int p2), .val (.int p3), .val (.int p4), .val (.int p5), .val (.int z6), .val (.int z7), .val (.int z8), .val (.int z9), .val (.int z10), .val (.int z11), .val (.ref b1), .val (.int ((own_sri p5 (6 : Int32)) &&& (1 : Int32))), .val (.int ((own_sri p5 (7 : Int32)) &&& (7 : Int32))), .val (.int tg), .val (.int (0 : Int32))] [(.int (0 : Int32)), (.int (own_b us x2 k2 tg))]))
                                  have hz : (own_b us x2 k2 tg) = (0 : Int32) := own_b0 fun q => by obtain ⟨u, v⟩ := (a8 tg).mp q; exact hc284_19 v
                                  refine own_by (fun _ kz => XS.icmpNo X21.here hx rfl (hb hby at_305) rfl (teq hz).2 kz) ?_
                                  show own_Go p.tables e below s _ _ _ (T21.setTop (mkF m 308 #[.val (.int p0), .val (.int p1), .val (.int p2), .val (.int p3), .val (.int p4), .val (.int p5), .val (.int z6), .val (.int z7), .val (.int z8), .val (.int z9), .val (.int z10), .val (.int z11), .val (.ref b1), .val (.int ((own_sri p5 (6 : Int32)) &&& (1 : Int32))), .val (.int ((own_sri p5 (7 : Int32)) &&& (7 : Int32))), .val (.int tg), .val (.int (0 : Int32))] []))
                                  refine own_by (fun _ kz => XS.iconst X21.here hx rfl (hb hby at_308) kz) ?_
                                  show own_Go p.tables e below s _ _ _ (T21.setTop (mkF m 309 #[.val (.int p0), .val (.int p1), .val (.int p2), .val (.int p3), .val (.int p4), .val (.int p5), .val (.int z6), .val (.int z7), .val (.int z8), .val (.int z9), .val (.int z10), .val (.int z11), .val (.ref b1), .val (.int ((own_sri p5 (6 : Int32)) &&& (1 : Int32))), .val (.int ((own_sri p5 (7 : Int32)) &&& (7 : Int32))), .val (.int tg), .val (.int (0 : Int32))] [(.int (1 : Int32))]))
                                  refine own_by (fun _ kz => XS.goto X21.here hx rfl (pc0 := 309) (pc' := 313) rfl (hb hby at_309) (by decide) (by decide) kz) ?_
                                  show own_Go p.tables e below s _ _ _ (T21.setTop (mkF m 313 #[.val (.int p0), .val (.int p1), .val (.int p2), .val (.int p3), .val (.int p4), .val (.int p5), .val (.int z6), .val (.int z7), .val (.int z8), .val (.int z9), .val (.int z10), .val (.int z11), .val (.ref b1), .val (.int ((own_sri p5 (6 : Int32)) &&& (1 : Int32))), .val (.int ((own_sri p5 (7 : Int32)) &&& (7 : Int32))), .val (.int tg), .val (.int (0 : Int32))] [(.int (1 : Int32))]))
                                  exact own_retZ X21 hx hlk Bd.returns (hb hby at_313) (by decide) (by decide) ⟨rfl, N21⟩
                          refine own_by (fun _ kz => XS.iload X_6.here hx rfl (hb hby at_188) rfl kz) ?_
                          show own_Go p.tables e below s _ _ _ (T_6.setTop (mkF m 190 #[.val (.int p0), .val (.int p1), .val (.int p2), .val (.int p3), .val (.int p4), .val (.int p5), .val (.int z6), .val (.int z7), .val (.int z8), .val (.int z9), .val (.int z10), .val (.int z11), .val (.ref b1), .val (.int ((own_sri p5 (6 : Int32)) &&& (1 : Int32))), .val (.int ((own_sri p5 (7 : Int32)) &&& (7 : Int32))), .unset, .unset] [(.int ((own_sri p5 (7 : Int32)) &&& (7 : Int32)))]))
                          by_cases hc190_22 : ((own_sri p5 (7 : Int32)) &&& (7 : Int32)) = (0 : Int32)
                          · refine own_by (fun _ kz => XS.ifNo X_6.here hx rfl (hb hby at_190) rfl ((if0 _ _).trans (teq hc190_22).2) kz) ?_
                            show own_Go p.tables e below s _ _ _ (T_6.setTop (mkF m 193 #[.val (.int p0), .val (.int p1), .val (.int p2), .val (.int p3), .val (.int p4), .val (.int p5), .val (.int z6), .val (.int z7), .val (.int z8), .val (.int z9), .val (.int z10), .val (.int z11), .val (.ref b1), .val (.int ((own_sri p5 (6 : Int32)) &&& (1 : Int32))), .val (.int ((own_sri p5 (7 : Int32)) &&& (7 : Int32))), .unset, .unset] []))
                            refine own_by (fun _ kz => XS.iloadN X_6.here hx rfl (hb hby at_193) rfl kz) ?_
                            show own_Go p.tables e below s _ _ _ (T_6.setTop (mkF m 194 #[.val (.int p0), .val (.int p1), .val (.int p2), .val (.int p3), .val (.int p4), .val (.int p5), .val (.int z6), .val (.int z7), .val (.int z8), .val (.int z9), .val (.int z10), .val (.int z11), .val (.ref b1), .val (.int ((own_sri p5 (6 : Int32)) &&& (1 : Int32))), .val (.int ((own_sri p5 (7 : Int32)) &&& (7 : Int32))), .unset, .unset] [(.int p0)]))
                            refine own_by (fun _ kz => XS.istore X_6.here hx rfl (hb hby at_194) rfl (l' := #[.val (.int p0), .val (.int p1), .val (.int p2), .val (.int p3), .val (.int p4), .val (.int p5), .val (.int z6), .val (.int z7), .val (.int z8), .val (.int z9), .val (.int z10), .val (.int z11), .val (.ref b1), .val (.int ((own_sri p5 (6 : Int32)) &&& (1 : Int32))), .val (.int ((own_sri p5 (7 : Int32)) &&& (7 : Int32))), .val (.int p0), .unset]) rfl kz) ?_
                            show own_Go p.tables e below s _ _ _ (T_6.setTop (mkF m 196 #[.val (.int p0), .val (.int p1), .val (.int p2), .val (.int p3), .val (.int p4), .val (.int p5), .val (.int z6), .val (.int z7), .val (.int z8), .val (.int z9), .val (.int z10), .val (.int z11), .val (.ref b1), .val (.int ((own_sri p5 (6 : Int32)) &&& (1 : Int32))), .val (.int ((own_sri p5 (7 : Int32)) &&& (7 : Int32))), .val (.int p0), .unset] []))
                            refine own_by (fun _ kz => XS.goto X_6.here hx rfl (pc0 := 196) (pc' := 239) rfl (hb hby at_196) (by decide) (by decide) kz) ?_
                            show own_Go p.tables e below s _ _ _ (T_6.setTop (mkF m 239 #[.val (.int p0), .val (.int p1), .val (.int p2), .val (.int p3), .val (.int p4), .val (.int p5), .val (.int z6), .val (.int z7), .val (.int z8), .val (.int z9), .val (.int z10), .val (.int z11), .val (.ref b1), .val (.int ((own_sri p5 (6 : Int32)) &&& (1 : Int32))), .val (.int ((own_sri p5 (7 : Int32)) &&& (7 : Int32))), .val (.int p0), .unset] []))
                            exact j239 p0
                          · refine own_by (fun _ kz => XS.ifYes X_6.here hx rfl (pc0 := 190) (pc' := 199) rfl (hb hby at_190) rfl ((if0 _ _).trans (feq hc190_22).2) (by decide) (by decide) kz) ?_
                            show own_Go p.tables e below s _ _ _ (T_6.setTop (mkF m 199 #[.val (.int p0), .val (.int p1), .val (.int p2), .val (.int p3), .val (.int p4), .val (.int p5), .val (.int z6), .val (.int z7), .val (.int z8), .val (.int z9), .val (.int z10), .val (.int z11), .val (.ref b1), .val (.int ((own_sri p5 (6 : Int32)) &&& (1 : Int32))), .val (.int ((own_sri p5 (7 : Int32)) &&& (7 : Int32))), .unset, .unset] []))
                            refine own_by (fun _ kz => XS.iload X_6.here hx rfl (hb hby at_199) rfl kz) ?_
                            show own_Go p.tables e below s _ _ _ (T_6.setTop (mkF m 201 #[.val (.int p0), .val (.int p1), .val (.int p2), .val (.int p3), .val (.int p4), .val (.int p5), .val (.int z6), .val (.int z7), .val (.int z8), .val (.int z9), .val (.int z10), .val (.int z11), .val (.ref b1), .val (.int ((own_sri p5 (6 : Int32)) &&& (1 : Int32))), .val (.int ((own_sri p5 (7 : Int32)) &&& (7 : Int32))), .unset, .unset] [(.int ((own_sri p5 (7 : Int32)) &&& (7 : Int32)))]))
                            refine own_by (fun _ kz => XS.iconst X_6.here hx rfl (hb hby at_201) kz) ?_
                            show own_Go p.tables e below s _ _ _ (T_6.setTop (mkF m 202 #[.val (.int p0), .val (.int p1), .val (.int p2), .val (.int p3), .val (.int p4), .val (.int p5), .val (.int z6), .val (.int z7), .val (.int z8), .val (.int z9), .val (.int z10), .val (.int z11), .val (.ref b1), .val (.int ((own_sri p5 (6 : Int32)) &&& (1 : Int32))), .val (.int ((own_sri p5 (7 : Int32)) &&& (7 : Int32))), .unset, .unset] [(.int (1 : Int32)), (.int ((own_sri p5 (7 : Int32)) &&& (7 : Int32)))]))
                            by_cases hc202_23 : ((own_sri p5 (7 : Int32)) &&& (7 : Int32)) = (1 : Int32)
                            · refine own_by (fun _ kz => XS.icmpNo X_6.here hx rfl (hb hby at_202) rfl (teq hc202_23).2 kz) ?_
                              show own_Go p.tables e below s _ _ _ (T_6.setTop (mkF m 205 #[.val (.int p0), .val (.int p1), .val (.int p2), .val (.int p3), .val (.int p4), .val (.int p5), .val (.int z6), .val (.int z7), .val (.int z8), .val (.int z9), .val (.int z10), .val (.int z11), .val (.ref b1), .val (.int ((own_sri p5 (6 : Int32)) &&& (1 : Int32))), .val (.int ((own_sri p5 (7 : Int32)) &&& (7 : Int32))), .unset, .unset] []))
                              refine own_by (fun _ kz => XS.iloadN X_6.here hx rfl (hb hby at_205) rfl kz) ?_
                              show own_Go p.tables e below s _ _ _ (T_6.setTop (mkF m 206 #[.val (.int p0), .val (.int p1), .val (.int p2), .val (.int p3), .val (.int p4), .val (.int p5), .val (.int z6), .val (.int z7), .val (.int z8), .val (.int z9), .val (.int z10), .val (.int z11), .val (.ref b1), .val (.int ((own_sri p5 (6 : Int32)) &&& (1 : Int32))), .val (.int ((own_sri p5 (7 : Int32)) &&& (7 : Int32))), .unset, .unset] [(.int p1)]))
                              refine own_by (fun _ kz => XS.istore X_6.here hx rfl (hb hby at_206) rfl (l' := #[.val (.int p0), .val (.int p1), .val (.int p2), .val (.int p3), .val (.int p4), .val (.int p5), .val (.int z6), .val (.int z7), .val (.int z8), .val (.int z9), .val (.int z10), .val (.int z11), .val (.ref b1), .val (.int ((own_sri p5 (6 : Int32)) &&& (1 : Int32))), .val (.int ((own_sri p5 (7 : Int32)) &&& (7 : Int32))), .val (.int p1), .unset]) rfl kz) ?_
                              show own_Go p.tables e below s _ _ _ (T_6.setTop (mkF m 208 #[.val (.int p0), .val (.int p1), .val (.int p2), .val (.int p3), .val (.int p4), .val (.int p5), .val (.int z6), .val (.int z7), .val (.int z8), .val (.int z9), .val (.int z10), .val (.int z11), .val (.ref b1), .val (.int ((own_sri p5 (6 : Int32)) &&& (1 : Int32))), .val (.int ((own_sri p5 (7 : Int32)) &&& (7 : Int32))), .val (.int p1), .unset] []))
                              refine own_by (fun _ kz => XS.goto X_6.here hx rfl (pc0 := 208) (pc' := 239) rfl (hb hby at_208) (by decide) (by decide) kz) ?_
                              show own_Go p.tables e below s _ _ _ (T_6.setTop (mkF m 239 #[.val (.int p0), .val (.int p1), .val (.int p2), .val (.int p3), .val (.int p4), .val (.int p5), .val (.int z6), .val (.int z7), .val (.int z8), .val (.int z9), .val (.int z10), .val (.int z11), .val (.ref b1), .val (.int ((own_sri p5 (6 : Int32)) &&& (1 : Int32))), .val (.int ((own_sri p5 (7 : Int32)) &&& (7 : Int32))), .val (.int p1), .unset] []))
                              exact j239 p1
                            · refine own_by (fun _ kz => XS.icmpYes X_6.here hx rfl (pc0 := 202) (pc' := 211) rfl (hb hby at_202) rfl (feq hc202_23).2 (by decide) (by decide) kz) ?_
                              show own_Go p.tables e below s _ _ _ (T_6.setTop (mkF m 211 #[.val (.int p0), .val (.int p1), .val (.int p2), .val (.int p3), .val (.int p4), .val (.int p5), .val (.int z6), .val (.int z7), .val (.int z8), .val (.int z9), .val (.int z10), .val (.int z11), .val (.ref b1), .val (.int ((own_sri p5 (6 : Int32)) &&& (1 : Int32))), .val (.int ((own_sri p5 (7 : Int32)) &&& (7 : Int32))), .unset, .unset] []))
                              refine own_by (fun _ kz => XS.iload X_6.here hx rfl (hb hby at_211) rfl kz) ?_
                              show own_Go p.tables e below s _ _ _ (T_6.setTop (mkF m 213 #[.val (.int p0), .val (.int p1), .val (.int p2), .val (.int p3), .val (.int p4), .val (.int p5), .val (.int z6), .val (.int z7), .val (.int z8), .val (.int z9), .val (.int z10), .val (.int z11), .val (.ref b1), .val (.int ((own_sri p5 (6 : Int32)) &&& (1 : Int32))), .val (.int ((own_sri p5 (7 : Int32)) &&& (7 : Int32))), .unset, .unset] [(.int ((own_sri p5 (7 : Int32)) &&& (7 : Int32)))]))
                              refine own_by (fun _ kz => XS.iconst X_6.here hx rfl (hb hby at_213) kz) ?_
                              show own_Go p.tables e below s _ _ _ (T_6.setTop (mkF m 214 #[.val (.int p0), .val (.int p1), .val (.int p2), .val (.int p3), .val (.int p4), .val (.int p5), .val (.int z6), .val (.int z7), .val (.int z8), .val (.int z9), .val (.int z10), .val (.int z11), .val (.ref b1), .val (.int ((own_sri p5 (6 : Int32)) &&& (1 : Int32))), .val (.int ((own_sri p5 (7 : Int32)) &&& (7 : Int32))), .unset, .unset] [(.int (2 : Int32)), (.int ((own_sri p5 (7 : Int32)) &&& (7 : Int32)))]))
                              by_cases hc214_24 : ((own_sri p5 (7 : Int32)) &&& (7 : Int32)) = (2 : Int32)
                              · refine own_by (fun _ kz => XS.icmpNo X_6.here hx rfl (hb hby at_214) rfl (teq hc214_24).2 kz) ?_
                                show own_Go p.tables e below s _ _ _ (T_6.setTop (mkF m 217 #[.val (.int p0), .val (.int p1), .val (.int p2), .val (.int p3), .val (.int p4), .val (.int p5), .val (.int z6), .val (.int z7), .val (.int z8), .val (.int z9), .val (.int z10), .val (.int z11), .val (.ref b1), .val (.int ((own_sri p5 (6 : Int32)) &&& (1 : Int32))), .val (.int ((own_sri p5 (7 : Int32)) &&& (7 : Int32))), .unset, .unset] []))
                                refine own_by (fun _ kz => XS.iloadN X_6.here hx rfl (hb hby at_217) rfl kz) ?_
                                show own_Go p.tables e below s _ _ _ (T_6.setTop (mkF m 218 #[.val (.int p0), .val (.int p1), .val (.int p2), .val (.int p3), .val (.int p4), .val (.int p5), .val (.int z6), .val (.int z7), .val (.int z8), .val (.int z9), .val (.int z10), .val (.int z11), .val (.ref b1), .val (.int ((own_sri p5 (6 : Int32)) &&& (1 : Int32))), .val (.int ((own_sri p5 (7 : Int32)) &&& (7 : Int32))), .unset, .unset] [(.int p2)]))
                                refine own_by (fun _ kz => XS.istore X_6.here hx rfl (hb hby at_218) rfl (l' := #[.val (.int p0), .val (.int p1), .val (.int p2), .val (.int p3), .val (.int p4), .val (.int p5), .val (.int z6), .val (.int z7), .val (.int z8), .val (.int z9), .val (.int z10), .val (.int z11), .val (.ref b1), .val (.int ((own_sri p5 (6 : Int32)) &&& (1 : Int32))), .val (.int ((own_sri p5 (7 : Int32)) &&& (7 : Int32))), .val (.int p2), .unset]) rfl kz) ?_
                                show own_Go p.tables e below s _ _ _ (T_6.setTop (mkF m 220 #[.val (.int p0), .val (.int p1), .val (.int p2), .val (.int p3), .val (.int p4), .val (.int p5), .val (.int z6), .val (.int z7), .val (.int z8), .val (.int z9), .val (.int z10), .val (.int z11), .val (.ref b1), .val (.int ((own_sri p5 (6 : Int32)) &&& (1 : Int32))), .val (.int ((own_sri p5 (7 : Int32)) &&& (7 : Int32))), .val (.int p2), .unset] []))
                                refine own_by (fun _ kz => XS.goto X_6.here hx rfl (pc0 := 220) (pc' := 239) rfl (hb hby at_220) (by decide) (by decide) kz) ?_
                                show own_Go p.tables e below s _ _ _ (T_6.setTop (mkF m 239 #[.val (.int p0), .val (.int p1), .val (.int p2), .val (.int p3), .val (.int p4), .val (.int p5), .val (.int z6), .val (.int z7), .val (.int z8), .val (.int z9), .val (.int z10), .val (.int z11), .val (.ref b1), .val (.int ((own_sri p5 (6 : Int32)) &&& (1 : Int32))), .val (.int ((own_sri p5 (7 : Int32)) &&& (7 : Int32))), .val (.int p2), .unset] []))
                                exact j239 p2
                              · refine own_by (fun _ kz => XS.icmpYes X_6.here hx rfl (pc0 := 214) (pc' := 223) rfl (hb hby at_214) rfl (feq hc214_24).2 (by decide) (by decide) kz) ?_
                                show own_Go p.tables e below s _ _ _ (T_6.setTop (mkF m 223 #[.val (.int p0), .val (.int p1), .val (.int p2), .val (.int p3), .val (.int p4), .val (.int p5), .val (.int z6), .val (.int z7), .val (.int z8), .val (.int z9), .val (.int z10), .val (.int z11), .val (.ref b1), .val (.int ((own_sri p5 (6 : Int32)) &&& (1 : Int32))), .val (.int ((own_sri p5 (7 : Int32)) &&& (7 : Int32))), .unset, .unset] []))
                                refine own_by (fun _ kz => XS.iload X_6.here hx rfl (hb hby at_223) rfl kz) ?_
                                show own_Go p.tables e below s _ _ _ (T_6.setTop (mkF m 225 #[.val (.int p0), .val (.int p1), .val (.int p2), .val (.int p3), .val (.int p4), .val (.int p5), .val (.int z6), .val (.int z7), .val (.int z8), .val (.int z9), .val (.int z10), .val (.int z11), .val (.ref b1), .val (.int ((own_sri p5 (6 : Int32)) &&& (1 : Int32))), .val (.int ((own_sri p5 (7 : Int32)) &&& (7 : Int32))), .unset, .unset] [(.int ((own_sri p5 (7 : Int32)) &&& (7 : Int32)))]))
                                refine own_by (fun _ kz => XS.iconst X_6.here hx rfl (hb hby at_225) kz) ?_
                                show own_Go p.tables e below s _ _ _ (T_6.setTop (mkF m 226 #[.val (.int p0), .val (.int p1), .val (.int p2), .val (.int p3), .val (.int p4), .val (.int p5), .val (.int z6), .val (.int z7), .val (.int z8), .val (.int z9), .val (.int z10), .val (.int z11), .val (.ref b1), .val (.int ((own_sri p5 (6 : Int32)) &&& (1 : Int32))), .val (.int ((own_sri p5 (7 : Int32)) &&& (7 : Int32))), .unset, .unset] [(.int (3 : Int32)), (.int ((own_sri p5 (7 : Int32)) &&& (7 : Int32)))]))
                                by_cases hc226_25 : ((own_sri p5 (7 : Int32)) &&& (7 : Int32)) = (3 : Int32)
                                · refine own_by (fun _ kz => XS.icmpNo X_6.here hx rfl (hb hby at_226) rfl (teq hc226_25).2 kz) ?_
                                  show own_Go p.tables e below s _ _ _ (T_6.setTop (mkF m 229 #[.val (.int p0), .val (.int p1), .val (.int p2), .val (.int p3), .val (.int p4), .val (.int p5), .val (.int z6), .val (.int z7), .val (.int z8), .val (.int z9), .val (.int z10), .val (.int z11), .val (.ref b1), .val (.int ((own_sri p5 (6 : Int32)) &&& (1 : Int32))), .val (.int ((own_sri p5 (7 : Int32)) &&& (7 : Int32))), .unset, .unset] []))
                                  refine own_by (fun _ kz => XS.iloadN X_6.here hx rfl (hb hby at_229) rfl kz) ?_
                                  show own_Go p.tables e below s _ _ _ (T_6.setTop (mkF m 230 #[.val (.int p0), .val (.int p1), .val (.int p2), .val (.int p3), .val (.int p4), .val (.int p5), .val (.int z6), .val (.int z7), .val (.int z8), .val (.int z9), .val (.int z10), .val (.int z11), .val (.ref b1), .val (.int ((own_sri p5 (6 : Int32)) &&& (1 : Int32))), .val (.int ((own_sri p5 (7 : Int32)) &&& (7 : Int32))), .unset, .unset] [(.int p3)]))
                                  refine own_by (fun _ kz => XS.istore X_6.here hx rfl (hb hby at_230) rfl (l' := #[.val (.int p0), .val (.int p1), .val (.int p2), .val (.int p3), .val (.int p4), .val (.int p5), .val (.int z6), .val (.int z7), .val (.int z8), .val (.int z9), .val (.int z10), .val (.int z11), .val (.ref b1), .val (.int ((own_sri p5 (6 : Int32)) &&& (1 : Int32))), .val (.int ((own_sri p5 (7 : Int32)) &&& (7 : Int32))), .val (.int p3), .unset]) rfl kz) ?_
                                  show own_Go p.tables e below s _ _ _ (T_6.setTop (mkF m 232 #[.val (.int p0), .val (.int p1), .val (.int p2), .val (.int p3), .val (.int p4), .val (.int p5), .val (.int z6), .val (.int z7), .val (.int z8), .val (.int z9), .val (.int z10), .val (.int z11), .val (.ref b1), .val (.int ((own_sri p5 (6 : Int32)) &&& (1 : Int32))), .val (.int ((own_sri p5 (7 : Int32)) &&& (7 : Int32))), .val (.int p3), .unset] []))
                                  refine own_by (fun _ kz => XS.goto X_6.here hx rfl (pc0 := 232) (pc' := 239) rfl (hb hby at_232) (by decide) (by decide) kz) ?_
                                  show own_Go p.tables e below s _ _ _ (T_6.setTop (mkF m 239 #[.val (.int p0), .val (.int p1), .val (.int p2), .val (.int p3), .val (.int p4), .val (.int p5), .val (.int z6), .val (.int z7), .val (.int z8), .val (.int z9), .val (.int z10), .val (.int z11), .val (.ref b1), .val (.int ((own_sri p5 (6 : Int32)) &&& (1 : Int32))), .val (.int ((own_sri p5 (7 : Int32)) &&& (7 : Int32))), .val (.int p3), .unset] []))
                                  exact j239 p3
                                · refine own_by (fun _ kz => XS.icmpYes X_6.here hx rfl (pc0 := 226) (pc' := 235) rfl (hb hby at_226) rfl (feq hc226_25).2 (by decide) (by decide) kz) ?_
                                  show own_Go p.tables e below s _ _ _ (T_6.setTop (mkF m 235 #[.val (.int p0), .val (.int p1), .val (.int p2), .val (.int p3), .val (.int p4), .val (.int p5), .val (.int z6), .val (.int z7), .val (.int z8), .val (.int z9), .val (.int z10), .val (.int z11), .val (.ref b1), .val (.int ((own_sri p5 (6 : Int32)) &&& (1 : Int32))), .val (.int ((own_sri p5 (7 : Int32)) &&& (7 : Int32))), .unset, .unset] []))
                                  refine own_by (fun _ kz => XS.iload X_6.here hx rfl (hb hby at_235) rfl kz) ?_
                                  show own_Go p.tables e below s _ _ _ (T_6.setTop (mkF m 237 #[.val (.int p0), .val (.int p1), .val (.int p2), .val (.int p3), .val (.int p4), .val (.int p5), .val (.int z6), .val (.int z7), .val (.int z8), .val (.int z9), .val (.int z10), .val (.int z11), .val (.ref b1), .val (.int ((own_sri p5 (6 : Int32)) &&& (1 : Int32))), .val (.int ((own_sri p5 (7 : Int32)) &&& (7 : Int32))), .unset, .unset] [(.int p4)]))
                                  refine own_by (fun _ kz => XS.istore X_6.here hx rfl (hb hby at_237) rfl (l' := #[.val (.int p0), .val (.int p1), .val (.int p2), .val (.int p3), .val (.int p4), .val (.int p5), .val (.int z6), .val (.int z7), .val (.int z8), .val (.int z9), .val (.int z10), .val (.int z11), .val (.ref b1), .val (.int ((own_sri p5 (6 : Int32)) &&& (1 : Int32))), .val (.int ((own_sri p5 (7 : Int32)) &&& (7 : Int32))), .val (.int p4), .unset]) rfl kz) ?_
                                  show own_Go p.tables e below s _ _ _ (T_6.setTop (mkF m 239 #[.val (.int p0), .val (.int p1), .val (.int p2), .val (.int p3), .val (.int p4), .val (.int p5), .val (.int z6), .val (.int z7), .val (.int z8), .val (.int z9), .val (.int z10), .val (.int z11), .val (.ref b1), .val (.int ((own_sri p5 (6 : Int32)) &&& (1 : Int32))), .val (.int ((own_sri p5 (7 : Int32)) &&& (7 : Int32))), .val (.int p4), .unset] []))
                                  exact j239 p4
                        refine own_by (fun _ kz => XS.iload X_5.here hx rfl (hb hby at_157) rfl kz) ?_
                        show own_Go p.tables e below s _ _ _ (T_5.setTop (mkF m 159 #[.val (.int p0), .val (.int p1), .val (.int p2), .val (.int p3), .val (.int p4), .val (.int p5), .val (.int z6), .val (.int z7), .val (.int z8), .val (.int z9), .val (.int z10), .val (.int z11), .val (.ref b1), .unset, .unset, .unset, .unset] [(.int z11)]))
                        by_cases hc159_26 : z11 = (0 : Int32)
                        · refine own_by (fun _ kz => XS.ifYes X_5.here hx rfl (pc0 := 159) (pc' := 169) rfl (hb hby at_159) rfl ((if0 _ _).trans (teq hc159_26).1) (by decide) (by decide) kz) ?_
                          show own_Go p.tables e below s _ _ _ (T_5.setTop (mkF m 169 #[.val (.int p0), .val (.int p1), .val (.int p2), .val (.int p3), .val (.int p4), .val (.int p5), .val (.int z6), .val (.int z7), .val (.int z8), .val (.int z9), .val (.int z10), .val (.int z11), .val (.ref b1), .unset, .unset, .unset, .unset] []))
                          have S6n : own_S Z n0 N b1 ta ca fa T_5.heap (fun y => ((¬ z6 = 0 ∧ y = p0) ∨ (¬ z8 = 0 ∧ y = p2))) (fun y => (¬ z10 = 0 ∧ y = p3)) 4 2 := S_5.mono (fun y => by simp [hc159_26]) (fun y => by simp [hc159_26]) (by decide) (by decide)
                          exact s6 T_5 _ (X_5.more (by decide) (by decide)) N_5 Z_5 S6n
                        · refine own_by (fun _ kz => XS.ifNo X_5.here hx rfl (hb hby at_159) rfl ((if0 _ _).trans (feq hc159_26).1) kz) ?_
                          show own_Go p.tables e below s _ _ _ (T_5.setTop (mkF m 162 #[.val (.int p0), .val (.int p1), .val (.int p2), .val (.int p3), .val (.int p4), .val (.int p5), .val (.int z6), .val (.int z7), .val (.int z8), .val (.int z9), .val (.int z10), .val (.int z11), .val (.ref b1), .unset, .unset, .unset, .unset] []))
                          refine own_by (fun _ kz => XS.aload X_5.here hx rfl (hb hby at_162) rfl rfl kz) ?_
                          show own_Go p.tables e below s _ _ _ (T_5.setTop (mkF m 164 #[.val (.int p0), .val (.int p1), .val (.int p2), .val (.int p3), .val (.int p4), .val (.int p5), .val (.int z6), .val (.int z7), .val (.int z8), .val (.int z9), .val (.int z10), .val (.int z11), .val (.ref b1), .unset, .unset, .unset, .unset] [(.ref b1)]))
                          refine own_by (fun _ kz => XS.iconst X_5.here hx rfl (hb hby at_164) kz) ?_
                          show own_Go p.tables e below s _ _ _ (T_5.setTop (mkF m 165 #[.val (.int p0), .val (.int p1), .val (.int p2), .val (.int p3), .val (.int p4), .val (.int p5), .val (.int z6), .val (.int z7), .val (.int z8), .val (.int z9), .val (.int z10), .val (.int z11), .val (.ref b1), .unset, .unset, .unset, .unset] [(.int (1 : Int32)), (.ref b1)]))
                          refine own_by (fun _ kz => XS.iloadN X_5.here hx rfl (hb hby at_165) rfl kz) ?_
                          show own_Go p.tables e below s _ _ _ (T_5.setTop (mkF m 166 #[.val (.int p0), .val (.int p1), .val (.int p2), .val (.int p3), .val (.int p4), .val (.int p5), .val (.int z6), .val (.int z7), .val (.int z8), .val (.int z9), .val (.int z10), .val (.int z11), .val (.ref b1), .unset, .unset, .unset, .unset] [(.int p0), (.int (1 : Int32)), (.ref b1)]))
                          obtain ⟨r, r2, k, k2, x, x2, vs, us, TBs, ⟨a1, a2, a3⟩, ⟨a4, a5, a6⟩, a7, a8⟩ := S_5
                          obtain ⟨v27, T27, L27, X27, q27, st27⟩ := own_callV X_5 hx hZ hown (hw _ (List.mem_of_getElem? (i := 48) rfl)) (hw _ (List.mem_of_getElem? (i := 49) rfl)) (hw _ (List.mem_of_getElem? (i := 51) rfl)) (hw _ (List.mem_of_getElem? (i := 50) rfl)) (hw _ (List.mem_of_getElem? (i := 2) rfl)) (hw _ (List.mem_of_getElem? (i := 52) rfl)) (by decide) (rm9 l Z a0 hw [] b1 (1 : Int32) p0 T_5.heap n0 Z_5 N ta ca fa r2 r k2 k x2 x us vs (Or.inr rfl) TBs.swap (by omega) a4) (W := 0) (by decide) (by decide) rfl TBs.exa (g := (mkF m 166 #[.val (.int p0), .val (.int p1), .val (.int p2), .val (.int p3), .val (.int p4), .val (.int p5), .val (.int z6), .val (.int z7), .val (.int z8), .val (.int z9), .val (.int z10), .val (.int z11), .val (.ref b1), .unset, .unset, .unset, .unset] [(.int p0), (.int (1 : Int32)), (.ref b1)])) rfl (by rw [hml]; rfl) (argsL := [(.int (1 : Int32)), (.int p0)]) (rest := []) (lenOf pd_9 rfl) rfl rfl (by show 2 * 0 + _ ≤ _; exact Nat.le_of_eq rfl) (hb hby at_166) (by decide) (by decide)
                          obtain ⟨rfl, Nq27, Zq27, r3, TB27⟩ := q27
                          have N27 := Fr.app N_5 Nq27
                          refine own_by st27 ?_
                          show own_Go p.tables e below s _ _ _ (T27.setTop (mkF m 169 #[.val (.int p0), .val (.int p1), .val (.int p2), .val (.int p3), .val (.int p4), .val (.int p5), .val (.int z6), .val (.int z7), .val (.int z8), .val (.int z9), .val (.int z10), .val (.int z11), .val (.ref b1), .unset, .unset, .unset, .unset] []))
                          have S27 : own_S Z n0 N b1 ta ca fa T27.heap (fun y => ((¬ z6 = 0 ∧ y = p0) ∨ (¬ z8 = 0 ∧ y = p2))) (fun y => (¬ z10 = 0 ∧ y = p3)) 4 2 := ⟨_, _, _, _, _, _, _, _, TB27.swap', ⟨a1, by omega, a3⟩, ⟨by omega, by omega, by rw [List.length_set, List.length_set]; exact a6⟩, a7, fun y => (own_In_fix (by omega) a4 y).trans (a8 y)⟩
                          exact s6 T27 _ (X27.more (by decide) (by decide)) N27 Zq27 S27
                      refine own_by (fun _ kz => XS.iload X_4.here hx rfl (hb hby at_145) rfl kz) ?_
                      show own_Go p.tables e below s _ _ _ (T_4.setTop (mkF m 147 #[.val (.int p0), .val (.int p1), .val (.int p2), .val (.int p3), .val (.int p4), .val (.int p5), .val (.int z6), .val (.int z7), .val (.int z8), .val (.int z9), .val (.int z10), .val (.int z11), .val (.ref b1), .unset, .unset, .unset, .unset] [(.int z10)]))
                      by_cases hc147_28 : z10 = (0 : Int32)
                      · refine own_by (fun _ kz => XS.ifYes X_4.here hx rfl (pc0 := 147) (pc' := 157) rfl (hb hby at_147) rfl ((if0 _ _).trans (teq hc147_28).1) (by decide) (by decide) kz) ?_
                        show own_Go p.tables e below s _ _ _ (T_4.setTop (mkF m 157 #[.val (.int p0), .val (.int p1), .val (.int p2), .val (.int p3), .val (.int p4), .val (.int p5), .val (.int z6), .val (.int z7), .val (.int z8), .val (.int z9), .val (.int z10), .val (.int z11), .val (.ref b1), .unset, .unset, .unset, .unset] []))
                        have S5n : own_S Z n0 N b1 ta ca fa T_4.heap (fun y => ((¬ z6 = 0 ∧ y = p0) ∨ (¬ z8 = 0 ∧ y = p2))) (fun y => (¬ z10 = 0 ∧ y = p3)) 4 1 := S_4.mono (fun y => by simp [hc147_28]) (fun y => by simp [hc147_28]) (by decide) (by decide)
                        exact s5 T_4 _ (X_4.more (by decide) (by decide)) N_4 Z_4 S5n
                      · refine own_by (fun _ kz => XS.ifNo X_4.here hx rfl (hb hby at_147) rfl ((if0 _ _).trans (feq hc147_28).1) kz) ?_
                        show own_Go p.tables e below s _ _ _ (T_4.setTop (mkF m 150 #[.val (.int p0), .val (.int p1), .val (.int p2), .val (.int p3), .val (.int p4), .val (.int p5), .val (.int z6), .val (.int z7), .val (.int z8), .val (.int z9), .val (.int z10), .val (.int z11), .val (.ref b1), .unset, .unset, .unset, .unset] []))
                        refine own_by (fun _ kz => XS.aload X_4.here hx rfl (hb hby at_150) rfl rfl kz) ?_
                        show own_Go p.tables e below s _ _ _ (T_4.setTop (mkF m 152 #[.val (.int p0), .val (.int p1), .val (.int p2), .val (.int p3), .val (.int p4), .val (.int p5), .val (.int z6), .val (.int z7), .val (.int z8), .val (.int z9), .val (.int z10), .val (.int z11), .val (.ref b1), .unset, .unset, .unset, .unset] [(.ref b1)]))
                        refine own_by (fun _ kz => XS.iconst X_4.here hx rfl (hb hby at_152) kz) ?_
                        show own_Go p.tables e below s _ _ _ (T_4.setTop (mkF m 153 #[.val (.int p0), .val (.int p1), .val (.int p2), .val (.int p3), .val (.int p4), .val (.int p5), .val (.int z6), .val (.int z7), .val (.int z8), .val (.int z9), .val (.int z10), .val (.int z11), .val (.ref b1), .unset, .unset, .unset, .unset] [(.int (1 : Int32)), (.ref b1)]))
                        refine own_by (fun _ kz => XS.iloadN X_4.here hx rfl (hb hby at_153) rfl kz) ?_
                        show own_Go p.tables e below s _ _ _ (T_4.setTop (mkF m 154 #[.val (.int p0), .val (.int p1), .val (.int p2), .val (.int p3), .val (.int p4), .val (.int p5), .val (.int z6), .val (.int z7), .val (.int z8), .val (.int z9), .val (.int z10), .val (.int z11), .val (.ref b1), .unset, .unset, .unset, .unset] [(.int p3), (.int (1 : Int32)), (.ref b1)]))
                        obtain ⟨r, r2, k, k2, x, x2, vs, us, TBs, ⟨a1, a2, a3⟩, ⟨a4, a5, a6⟩, a7, a8⟩ := S_4
                        obtain ⟨v29, T29, L29, X29, q29, st29⟩ := own_callV X_4 hx hZ hown (hw _ (List.mem_of_getElem? (i := 25) rfl)) (hw _ (List.mem_of_getElem? (i := 26) rfl)) (hw _ (List.mem_of_getElem? (i := 28) rfl)) (hw _ (List.mem_of_getElem? (i := 27) rfl)) (hw _ (List.mem_of_getElem? (i := 2) rfl)) (hw _ (List.mem_of_getElem? (i := 29) rfl)) (by decide) (rm4 l Z a0 hw [] b1 (1 : Int32) p3 T_4.heap n0 Z_4 N ta ca fa r2 r k2 k x2 x us vs (Or.inr rfl) TBs.swap (by omega)) (W := 0) (by decide) (by decide) rfl TBs.exa (g := (mkF m 154 #[.val (.int p0), .val (.int p1), .val (.int p2), .val (.int p3), .val (.int p4), .val (.int p5), .val (.int z6), .val (.int z7), .val (.int z8), .val (.int z9), .val (.int z10), .val (.int z11), .val (.ref b1), .unset, .unset, .unset, .unset] [(.int p3), (.int (1 : Int32)), (.ref b1)])) rfl (by rw [hml]; rfl) (argsL := [(.int (1 : Int32)), (.int p3)]) (rest := []) (lenOf pd_4 rfl) rfl rfl (by show 2 * 0 + _ ≤ _; exact Nat.le_of_eq rfl) (hb hby at_154) (by decide) (by decide)
                        obtain ⟨rfl, Nq29, Zq29, r3, TB29⟩ := q29
                        have N29 := Fr.app N_4 Nq29
                        refine own_by st29 ?_
                        show own_Go p.tables e below s _ _ _ (T29.setTop (mkF m 157 #[.val (.int p0), .val (.int p1), .val (.int p2), .val (.int p3), .val (.int p4), .val (.int p5), .val (.int z6), .val (.int z7), .val (.int z8), .val (.int z9), .val (.int z10), .val (.int z11), .val (.ref b1), .unset, .unset, .unset, .unset] []))
                        have S29 : own_S Z n0 N b1 ta ca fa T29.heap (fun y => ((¬ z6 = 0 ∧ y = p0) ∨ (¬ z8 = 0 ∧ y = p2))) (fun y => (¬ z10 = 0 ∧ y = p3)) 4 1 := ⟨_, _, _, _, _, _, _, _, TB29.swap', ⟨a1, by omega, a3⟩, ⟨by omega, by omega, by rw [List.length_set]; exact a6⟩, a7, fun y => (own_In_add (by omega) a4 y).trans (by rw [a8 y]; simp [hc147_28])⟩
                        exact s5 T29 _ (X29.more (by decide) (by decide)) N29 Zq29 S29
                    refine own_by (fun _ kz => XS.iload X_3.here hx rfl (hb hby at_133) rfl kz) ?_
                    show own_Go p.tables e below s _ _ _ (T_3.setTop (mkF m 135 #[.val (.int p0), .val (.int p1), .val (.int p2), .val (.int p3), .val (.int p4), .val (.int p5), .val (.int z6), .val (.int z7), .val (.int z8), .val (.int z9), .val (.int z10), .val (.int z11), .val (.ref b1), .unset, .unset, .unset, .unset] [(.int z9)]))
                    by_cases hc135_30 : z9 = (0 : Int32)
                    · refine own_by (fun _ kz => XS.ifYes X_3.here hx rfl (pc0 := 135) (pc' := 145) rfl (hb hby at_135) rfl ((if0 _ _).trans (teq hc135_30).1) (by decide) (by decide) kz) ?_
                      show own_Go p.tables e below s _ _ _ (T_3.setTop (mkF m 145 #[.val (.int p0), .val (.int p1), .val (.int p2), .val (.int p3), .val (.int p4), .val (.int p5), .val (.int z6), .val (.int z7), .val (.int z8), .val (.int z9), .val (.int z10), .val (.int z11), .val (.ref b1), .unset, .unset, .unset, .unset] []))
                      have S4n : own_S Z n0 N b1 ta ca fa T_3.heap (fun y => ((¬ z6 = 0 ∧ y = p0) ∨ (¬ z8 = 0 ∧ y = p2))) (fun y => False) 4 0 := S_3.mono (fun y => by simp [hc135_30]) (fun y => by simp [hc135_30]) (by decide) (by decide)
                      exact s4 T_3 _ (X_3.more (by decide) (by decide)) N_3 Z_3 S4n
                    · refine own_by (fun _ kz => XS.ifNo X_3.here hx rfl (hb hby at_135) rfl ((if0 _ _).trans (feq hc135_30).1) kz) ?_
                      show own_Go p.tables e below s _ _ _ (T_3.setTop (mkF m 138 #[.val (.int p0), .val (.int p1), .val (.int p2), .val (.int p3), .val (.int p4), .val (.int p5), .val (.int z6), .val (.int z7), .val (.int z8), .val (.int z9), .val (.int z10), .val (.int z11), .val (.ref b1), .unset, .unset, .unset, .unset] []))
                      refine own_by (fun _ kz => XS.aload X_3.here hx rfl (hb hby at_138) rfl rfl kz) ?_
                      show own_Go p.tables e below s _ _ _ (T_3.setTop (mkF m 140 #[.val (.int p0), .val (.int p1), .val (.int p2), .val (.int p3), .val (.int p4), .val (.int p5), .val (.int z6), .val (.int z7), .val (.int z8), .val (.int z9), .val (.int z10), .val (.int z11), .val (.ref b1), .unset, .unset, .unset, .unset] [(.ref b1)]))
                      refine own_by (fun _ kz => XS.iconst X_3.here hx rfl (hb hby at_140) kz) ?_
                      show own_Go p.tables e below s _ _ _ (T_3.setTop (mkF m 141 #[.val (.int p0), .val (.int p1), .val (.int p2), .val (.int p3), .val (.int p4), .val (.int p5), .val (.int z6), .val (.int z7), .val (.int z8), .val (.int z9), .val (.int z10), .val (.int z11), .val (.ref b1), .unset, .unset, .unset, .unset] [(.int (0 : Int32)), (.ref b1)]))
                      refine own_by (fun _ kz => XS.iloadN X_3.here hx rfl (hb hby at_141) rfl kz) ?_
                      show own_Go p.tables e below s _ _ _ (T_3.setTop (mkF m 142 #[.val (.int p0), .val (.int p1), .val (.int p2), .val (.int p3), .val (.int p4), .val (.int p5), .val (.int z6), .val (.int z7), .val (.int z8), .val (.int z9), .val (.int z10), .val (.int z11), .val (.ref b1), .unset, .unset, .unset, .unset] [(.int p3), (.int (0 : Int32)), (.ref b1)]))
                      obtain ⟨r, r2, k, k2, x, x2, vs, us, TBs, ⟨a1, a2, a3⟩, ⟨a4, a5, a6⟩, a7, a8⟩ := S_3
                      obtain ⟨v31, T31, L31, X31, q31, st31⟩ := own_callV X_3 hx hZ hown (hw _ (List.mem_of_getElem? (i := 48) rfl)) (hw _ (List.mem_of_getElem? (i := 49) rfl)) (hw _ (List.mem_of_getElem? (i := 51) rfl)) (hw _ (List.mem_of_getElem? (i := 50) rfl)) (hw _ (List.mem_of_getElem? (i := 2) rfl)) (hw _ (List.mem_of_getElem? (i := 52) rfl)) (by decide) (rm9 l Z a0 hw [] b1 (0 : Int32) p3 T_3.heap n0 Z_3 N ta ca fa r r2 k k2 x x2 vs us (Or.inl rfl) TBs (by omega) a1) (W := 0) (by decide) (by decide) rfl TBs.exa (g := (mkF m 142 #[.val (.int p0), .val (.int p1), .val (.int p2), .val (.int p3), .val (.int p4), .val (.int p5), .val (.int z6), .val (.int z7), .val (.int z8), .val (.int z9), .val (.int z10), .val (.int z11), .val (.ref b1), .unset, .unset, .unset, .unset] [(.int p3), (.int (0 : Int32)), (.ref b1)])) rfl (by rw [hml]; rfl) (argsL := [(.int (0 : Int32)), (.int p3)]) (rest := []) (lenOf pd_9 rfl) rfl rfl (by show 2 * 0 + _ ≤ _; exact Nat.le_of_eq rfl) (hb hby at_142) (by decide) (by decide)
                      obtain ⟨rfl, Nq31, Zq31, r3, TB31⟩ := q31
                      have N31 := Fr.app N_3 Nq31
                      refine own_by st31 ?_
                      show own_Go p.tables e below s _ _ _ (T31.setTop (mkF m 145 #[.val (.int p0), .val (.int p1), .val (.int p2), .val (.int p3), .val (.int p4), .val (.int p5), .val (.int z6), .val (.int z7), .val (.int z8), .val (.int z9), .val (.int z10), .val (.int z11), .val (.ref b1), .unset, .unset, .unset, .unset] []))
                      have S31 : own_S Z n0 N b1 ta ca fa T31.heap (fun y => ((¬ z6 = 0 ∧ y = p0) ∨ (¬ z8 = 0 ∧ y = p2))) (fun y => False) 4 0 := ⟨_, _, _, _, _, _, _, _, TB31, ⟨by omega, by omega, by rw [List.length_set, List.length_set]; exact a3⟩, ⟨a4, a5, a6⟩, fun y => (own_In_fix (by omega) a1 y).trans (a7 y), a8⟩
                      exact s4 T31 _ (X31.more (by decide) (by decide)) N31 Zq31 S31
                  refine own_by (fun _ kz => XS.iload X_2.here hx rfl (hb hby at_121) rfl kz) ?_
                  show own_Go p.tables e below s _ _ _ (T_2.setTop (mkF m 123 #[.val (.int p0), .val (.int p1), .val (.int p2), .val (.int p3), .val (.int p4), .val (.int p5), .val (.int z6), .val (.int z7), .val (.int z8), .val (.int z9), .val (.int z10), .val (.int z11), .val (.ref b1), .unset, .unset, .unset, .unset] [(.int z8)]))
                  by_cases hc123_32 : z8 = (0 : Int32)
                  · refine own_by (fun _ kz => XS.ifYes X_2.here hx rfl (pc0 := 123) (pc' := 133) rfl (hb hby at_123) rfl ((if0 _ _).trans (teq hc123_32).1) (by decide) (by decide) kz) ?_
                    show own_Go p.tables e below s _ _ _ (T_2.setTop (mkF m 133 #[.val (.int p0), .val (.int p1), .val (.int p2), .val (.int p3), .val (.int p4), .val (.int p5), .val (.int z6), .val (.int z7), .val (.int z8), .val (.int z9), .val (.int z10), .val (.int z11), .val (.ref b1), .unset, .unset, .unset, .unset] []))
                    have S3n : own_S Z n0 N b1 ta ca fa T_2.heap (fun y => ((¬ z6 = 0 ∧ y = p0) ∨ (¬ z8 = 0 ∧ y = p2))) (fun y => False) 3 0 := S_2.mono (fun y => by simp [hc123_32]) (fun y => by simp [hc123_32]) (by decide) (by decide)
                    exact s3 T_2 _ (X_2.more (by decide) (by decide)) N_2 Z_2 S3n
                  · refine own_by (fun _ kz => XS.ifNo X_2.here hx rfl (hb hby at_123) rfl ((if0 _ _).trans (feq hc123_32).1) kz) ?_
                    show own_Go p.tables e below s _ _ _ (T_2.setTop (mkF m 126 #[.val (.int p0), .val (.int p1), .val (.int p2), .val (.int p3), .val (.int p4), .val (.int p5), .val (.int z6), .val (.int z7), .val (.int z8), .val (.int z9), .val (.int z10), .val (.int z11), .val (.ref b1), .unset, .unset, .unset, .unset] []))
                    refine own_by (fun _ kz => XS.aload X_2.here hx rfl (hb hby at_126) rfl rfl kz) ?_
                    show own_Go p.tables e below s _ _ _ (T_2.setTop (mkF m 128 #[.val (.int p0), .val (.int p1), .val (.int p2), .val (.int p3), .val (.int p4), .val (.int p5), .val (.int z6), .val (.int z7), .val (.int z8), .val (.int z9), .val (.int z10), .val (.int z11), .val (.ref b1), .unset, .unset, .unset, .unset] [(.ref b1)]))
                    refine own_by (fun _ kz => XS.iconst X_2.here hx rfl (hb hby at_128) kz) ?_
                    show own_Go p.tables e below s _ _ _ (T_2.setTop (mkF m 129 #[.val (.int p0), .val (.int p1), .val (.int p2), .val (.int p3), .val (.int p4), .val (.int p5), .val (.int z6), .val (.int z7), .val (.int z8), .val (.int z9), .val (.int z10), .val (.int z11), .val (.ref b1), .unset, .unset, .unset, .unset] [(.int (0 : Int32)), (.ref b1)]))
                    refine own_by (fun _ kz => XS.iloadN X_2.here hx rfl (hb hby at_129) rfl kz) ?_
                    show own_Go p.tables e below s _ _ _ (T_2.setTop (mkF m 130 #[.val (.int p0), .val (.int p1), .val (.int p2), .val (.int p3), .val (.int p4), .val (.int p5), .val (.int z6), .val (.int z7), .val (.int z8), .val (.int z9), .val (.int z10), .val (.int z11), .val (.ref b1), .unset, .unset, .unset, .unset] [(.int p2), (.int (0 : Int32)), (.ref b1)]))
                    obtain ⟨r, r2, k, k2, x, x2, vs, us, TBs, ⟨a1, a2, a3⟩, ⟨a4, a5, a6⟩, a7, a8⟩ := S_2
                    obtain ⟨v33, T33, L33, X33, q33, st33⟩ := own_callV X_2 hx hZ hown (hw _ (List.mem_of_getElem? (i := 25) rfl)) (hw _ (List.mem_of_getElem? (i := 26) rfl)) (hw _ (List.mem_of_getElem? (i := 28) rfl)) (hw _ (List.mem_of_getElem? (i := 27) rfl)) (hw _ (List.mem_of_getElem? (i := 2) rfl)) (hw _ (List.mem_of_getElem? (i := 29) rfl)) (by decide) (rm4 l Z a0 hw [] b1 (0 : Int32) p2 T_2.heap n0 Z_2 N ta ca fa r r2 k k2 x x2 vs us (Or.inl rfl) TBs (by omega)) (W := 0) (by decide) (by decide) rfl TBs.exa (g := (mkF m 130 #[.val (.int p0), .val (.int p1), .val (.int p2), .val (.int p3), .val (.int p4), .val (.int p5), .val (.int z6), .val (.int z7), .val (.int z8), .val (.int z9), .val (.int z10), .val (.int z11), .val (.ref b1), .unset, .unset, .unset, .unset] [(.int p2), (.int (0 : Int32)), (.ref b1)])) rfl (by rw [hml]; rfl) (argsL := [(.int (0 : Int32)), (.int p2)]) (rest := []) (lenOf pd_4 rfl) rfl rfl (by show 2 * 0 + _ ≤ _; exact Nat.le_of_eq rfl) (hb hby at_130) (by decide) (by decide)
                    obtain ⟨rfl, Nq33, Zq33, r3, TB33⟩ := q33
                    have N33 := Fr.app N_2 Nq33
                    refine own_by st33 ?_
                    show own_Go p.tables e below s _ _ _ (T33.setTop (mkF m 133 #[.val (.int p0), .val (.int p1), .val (.int p2), .val (.int p3), .val (.int p4), .val (.int p5), .val (.int z6), .val (.int z7), .val (.int z8), .val (.int z9), .val (.int z10), .val (.int z11), .val (.ref b1), .unset, .unset, .unset, .unset] []))
                    have S33 : own_S Z n0 N b1 ta ca fa T33.heap (fun y => ((¬ z6 = 0 ∧ y = p0) ∨ (¬ z8 = 0 ∧ y = p2))) (fun y => False) 3 0 := ⟨_, _, _, _, _, _, _, _, TB33, ⟨by omega, by omega, by rw [List.length_set]; exact a3⟩, ⟨a4, a5, a6⟩, fun y => (own_In_add (by omega) a1 y).trans (by rw [a7 y]; simp [hc123_32]), a8⟩
                    exact s3 T33 _ (X33.more (by decide) (by decide)) N33 Zq33 S33
                refine own_by (fun _ kz => XS.iload X_1.here hx rfl (hb hby at_109) rfl kz) ?_
                show own_Go p.tables e below s _ _ _ (T_1.setTop (mkF m 111 #[.val (.int p0), .val (.int p1), .val (.int p2), .val (.int p3), .val (.int p4), .val (.int p5), .val (.int z6), .val (.int z7), .val (.int z8), .val (.int z9), .val (.int z10), .val (.int z11), .val (.ref b1), .unset, .unset, .unset, .unset] [(.int z7)]))
                by_cases hc111_34 : z7 = (0 : Int32)
                · refine own_by (fun _ kz => XS.ifYes X_1.here hx rfl (pc0 := 111) (pc' := 121) rfl (hb hby at_111) rfl ((if0 _ _).trans (teq hc111_34).1) (by decide) (by decide) kz) ?_
                  show own_Go p.tables e below s _ _ _ (T_1.setTop (mkF m 121 #[.val (.int p0), .val (.int p1), .val (.int p2), .val (.int p3), .val (.int p4), .val (.int p5), .val (.int z6), .val (.int z7), .val (.int z8), .val (.int z9), .val (.int z10), .val (.int z11), .val (.ref b1), .unset, .unset, .unset, .unset] []))
                  have S2n : own_S Z n0 N b1 ta ca fa T_1.heap (fun y => (¬ z6 = 0 ∧ y = p0)) (fun y => False) 2 0 := S_1.mono (fun y => by simp [hc111_34]) (fun y => by simp [hc111_34]) (by decide) (by decide)
                  exact s2 T_1 _ (X_1.more (by decide) (by decide)) N_1 Z_1 S2n
                · refine own_by (fun _ kz => XS.ifNo X_1.here hx rfl (hb hby at_111) rfl ((if0 _ _).trans (feq hc111_34).1) kz) ?_
                  show own_Go p.tables e below s _ _ _ (T_1.setTop (mkF m 114 #[.val (.int p0), .val (.int p1), .val (.int p2), .val (.int p3), .val (.int p4), .val (.int p5), .val (.int z6), .val (.int z7), .val (.int z8), .val (.int z9), .val (.int z10), .val (.int z11), .val (.ref b1), .unset, .unset, .unset, .unset] []))
                  refine own_by (fun _ kz => XS.aload X_1.here hx rfl (hb hby at_114) rfl rfl kz) ?_
                  show own_Go p.tables e below s _ _ _ (T_1.setTop (mkF m 116 #[.val (.int p0), .val (.int p1), .val (.int p2), .val (.int p3), .val (.int p4), .val (.int p5), .val (.int z6), .val (.int z7), .val (.int z8), .val (.int z9), .val (.int z10), .val (.int z11), .val (.ref b1), .unset, .unset, .unset, .unset] [(.ref b1)]))
                  refine own_by (fun _ kz => XS.iconst X_1.here hx rfl (hb hby at_116) kz) ?_
                  show own_Go p.tables e below s _ _ _ (T_1.setTop (mkF m 117 #[.val (.int p0), .val (.int p1), .val (.int p2), .val (.int p3), .val (.int p4), .val (.int p5), .val (.int z6), .val (.int z7), .val (.int z8), .val (.int z9), .val (.int z10), .val (.int z11), .val (.ref b1), .unset, .unset, .unset, .unset] [(.int (0 : Int32)), (.ref b1)]))
                  refine own_by (fun _ kz => XS.iloadN X_1.here hx rfl (hb hby at_117) rfl kz) ?_
                  show own_Go p.tables e below s _ _ _ (T_1.setTop (mkF m 118 #[.val (.int p0), .val (.int p1), .val (.int p2), .val (.int p3), .val (.int p4), .val (.int p5), .val (.int z6), .val (.int z7), .val (.int z8), .val (.int z9), .val (.int z10), .val (.int z11), .val (.ref b1), .unset, .unset, .unset, .unset] [(.int p1), (.int (0 : Int32)), (.ref b1)]))
                  obtain ⟨r, r2, k, k2, x, x2, vs, us, TBs, ⟨a1, a2, a3⟩, ⟨a4, a5, a6⟩, a7, a8⟩ := S_1
                  obtain ⟨v35, T35, L35, X35, q35, st35⟩ := own_callV X_1 hx hZ hown (hw _ (List.mem_of_getElem? (i := 48) rfl)) (hw _ (List.mem_of_getElem? (i := 49) rfl)) (hw _ (List.mem_of_getElem? (i := 51) rfl)) (hw _ (List.mem_of_getElem? (i := 50) rfl)) (hw _ (List.mem_of_getElem? (i := 2) rfl)) (hw _ (List.mem_of_getElem? (i := 52) rfl)) (by decide) (rm9 l Z a0 hw [] b1 (0 : Int32) p1 T_1.heap n0 Z_1 N ta ca fa r r2 k k2 x x2 vs us (Or.inl rfl) TBs (by omega) a1) (W := 0) (by decide) (by decide) rfl TBs.exa (g := (mkF m 118 #[.val (.int p0), .val (.int p1), .val (.int p2), .val (.int p3), .val (.int p4), .val (.int p5), .val (.int z6), .val (.int z7), .val (.int z8), .val (.int z9), .val (.int z10), .val (.int z11), .val (.ref b1), .unset, .unset, .unset, .unset] [(.int p1), (.int (0 : Int32)), (.ref b1)])) rfl (by rw [hml]; rfl) (argsL := [(.int (0 : Int32)), (.int p1)]) (rest := []) (lenOf pd_9 rfl) rfl rfl (by show 2 * 0 + _ ≤ _; exact Nat.le_of_eq rfl) (hb hby at_118) (by decide) (by decide)
                  obtain ⟨rfl, Nq35, Zq35, r3, TB35⟩ := q35
                  have N35 := Fr.app N_1 Nq35
                  refine own_by st35 ?_
                  show own_Go p.tables e below s _ _ _ (T35.setTop (mkF m 121 #[.val (.int p0), .val (.int p1), .val (.int p2), .val (.int p3), .val (.int p4), .val (.int p5), .val (.int z6), .val (.int z7), .val (.int z8), .val (.int z9), .val (.int z10), .val (.int z11), .val (.ref b1), .unset, .unset, .unset, .unset] []))
                  have S35 : own_S Z n0 N b1 ta ca fa T35.heap (fun y => (¬ z6 = 0 ∧ y = p0)) (fun y => False) 2 0 := ⟨_, _, _, _, _, _, _, _, TB35, ⟨by omega, by omega, by rw [List.length_set, List.length_set]; exact a3⟩, ⟨a4, a5, a6⟩, fun y => (own_In_fix (by omega) a1 y).trans (a7 y), a8⟩
                  exact s2 T35 _ (X35.more (by decide) (by decide)) N35 Zq35 S35
              refine own_by (fun _ kz => XS.iload X2.here hx rfl (hb hby at_97) rfl kz) ?_
              show own_Go p.tables e below s _ _ _ (T2.setTop (mkF m 99 #[.val (.int p0), .val (.int p1), .val (.int p2), .val (.int p3), .val (.int p4), .val (.int p5), .val (.int z6), .val (.int z7), .val (.int z8), .val (.int z9), .val (.int z10), .val (.int z11), .val (.ref b1), .unset, .unset, .unset, .unset] [(.int z6)]))
              by_cases hc99_36 : z6 = (0 : Int32)
              · refine own_by (fun _ kz => XS.ifYes X2.here hx rfl (pc0 := 99) (pc' := 109) rfl (hb hby at_99) rfl ((if0 _ _).trans (teq hc99_36).1) (by decide) (by decide) kz) ?_
                show own_Go p.tables e below s _ _ _ (T2.setTop (mkF m 109 #[.val (.int p0), .val (.int p1), .val (.int p2), .val (.int p3), .val (.int p4), .val (.int p5), .val (.int z6), .val (.int z7), .val (.int z8), .val (.int z9), .val (.int z10), .val (.int z11), .val (.ref b1), .unset, .unset, .unset, .unset] []))
                have S1n : own_S Z n0 N b1 ta ca fa T2.heap (fun y => (¬ z6 = 0 ∧ y = p0)) (fun y => False) 1 0 := S0.mono (fun y => by simp [hc99_36]) (fun y => by simp [hc99_36]) (by decide) (by decide)
                exact s1 T2 _ (X2.more (by decide) (by decide)) N2 Zq2 S1n
              · refine own_by (fun _ kz => XS.ifNo X2.here hx rfl (hb hby at_99) rfl ((if0 _ _).trans (feq hc99_36).1) kz) ?_
                show own_Go p.tables e below s _ _ _ (T2.setTop (mkF m 102 #[.val (.int p0), .val (.int p1), .val (.int p2), .val (.int p3), .val (.int p4), .val (.int p5), .val (.int z6), .val (.int z7), .val (.int z8), .val (.int z9), .val (.int z10), .val (.int z11), .val (.ref b1), .unset, .unset, .unset, .unset] []))
                refine own_by (fun _ kz => XS.aload X2.here hx rfl (hb hby at_102) rfl rfl kz) ?_
                show own_Go p.tables e below s _ _ _ (T2.setTop (mkF m 104 #[.val (.int p0), .val (.int p1), .val (.int p2), .val (.int p3), .val (.int p4), .val (.int p5), .val (.int z6), .val (.int z7), .val (.int z8), .val (.int z9), .val (.int z10), .val (.int z11), .val (.ref b1), .unset, .unset, .unset, .unset] [(.ref b1)]))
                refine own_by (fun _ kz => XS.iconst X2.here hx rfl (hb hby at_104) kz) ?_
                show own_Go p.tables e below s _ _ _ (T2.setTop (mkF m 105 #[.val (.int p0), .val (.int p1), .val (.int p2), .val (.int p3), .val (.int p4), .val (.int p5), .val (.int z6), .val (.int z7), .val (.int z8), .val (.int z9), .val (.int z10), .val (.int z11), .val (.ref b1), .unset, .unset, .unset, .unset] [(.int (0 : Int32)), (.ref b1)]))
                refine own_by (fun _ kz => XS.iloadN X2.here hx rfl (hb hby at_105) rfl kz) ?_
                show own_Go p.tables e below s _ _ _ (T2.setTop (mkF m 106 #[.val (.int p0), .val (.int p1), .val (.int p2), .val (.int p3), .val (.int p4), .val (.int p5), .val (.int z6), .val (.int z7), .val (.int z8), .val (.int z9), .val (.int z10), .val (.int z11), .val (.ref b1), .unset, .unset, .unset, .unset] [(.int p0), (.int (0 : Int32)), (.ref b1)]))
                obtain ⟨r, r2, k, k2, x, x2, vs, us, TBs, ⟨a1, a2, a3⟩, ⟨a4, a5, a6⟩, a7, a8⟩ := S0
                obtain ⟨v37, T37, L37, X37, q37, st37⟩ := own_callV X2 hx hZ hown (hw _ (List.mem_of_getElem? (i := 25) rfl)) (hw _ (List.mem_of_getElem? (i := 26) rfl)) (hw _ (List.mem_of_getElem? (i := 28) rfl)) (hw _ (List.mem_of_getElem? (i := 27) rfl)) (hw _ (List.mem_of_getElem? (i := 2) rfl)) (hw _ (List.mem_of_getElem? (i := 29) rfl)) (by decide) (rm4 l Z a0 hw [] b1 (0 : Int32) p0 T2.heap n0 Zq2 N ta ca fa r r2 k k2 x x2 vs us (Or.inl rfl) TBs (by omega)) (W := 0) (by decide) (by decide) rfl TBs.exa (g := (mkF m 106 #[.val (.int p0), .val (.int p1), .val (.int p2), .val (.int p3), .val (.int p4), .val (.int p5), .val (.int z6), .val (.int z7), .val (.int z8), .val (.int z9), .val (.int z10), .val (.int z11), .val (.ref b1), .unset, .unset, .unset, .unset] [(.int p0), (.int (0 : Int32)), (.ref b1)])) rfl (by rw [hml]; rfl) (argsL := [(.int (0 : Int32)), (.int p0)]) (rest := []) (lenOf pd_4 rfl) rfl rfl (by show 2 * 0 + _ ≤ _; exact Nat.le_of_eq rfl) (hb hby at_106) (by decide) (by decide)
                obtain ⟨rfl, Nq37, Zq37, r3, TB37⟩ := q37
                have N37 := Fr.app N2 Nq37
                refine own_by st37 ?_
                show own_Go p.tables e below s _ _ _ (T37.setTop (mkF m 109 #[.val (.int p0), .val (.int p1), .val (.int p2), .val (.int p3), .val (.int p4), .val (.int p5), .val (.int z6), .val (.int z7), .val (.int z8), .val (.int z9), .val (.int z10), .val (.int z11), .val (.ref b1), .unset, .unset, .unset, .unset] []))
                have S37 : own_S Z n0 N b1 ta ca fa T37.heap (fun y => (¬ z6 = 0 ∧ y = p0)) (fun y => False) 1 0 := ⟨_, _, _, _, _, _, _, _, TB37, ⟨by omega, by omega, by rw [List.length_set]; exact a3⟩, ⟨a4, a5, a6⟩, fun y => (own_In_add (by omega) a1 y).trans (by rw [a7 y]; simp [hc99_36]), a8⟩
                exact s1 T37 _ (X37.more (by decide) (by decide)) N37 Zq37 S37
            refine own_by (fun _ kz => XS.iload X0.here hx rfl (hb hby at_72) rfl kz) ?_
            show own_Go p.tables e below s _ _ _ (s₁.setTop (mkF m 74 #[.val (.int p0), .val (.int p1), .val (.int p2), .val (.int p3), .val (.int p4), .val (.int p5), .val (.int z6), .val (.int z7), .val (.int z8), .val (.int z9), .val (.int z10), .unset, .unset, .unset, .unset, .unset, .unset] [(.int p5)]))
            refine own_by (fun _ kz => XS.bipush X0.here hx rfl (hb hby at_74) kz) ?_
            show own_Go p.tables e below s _ _ _ (s₁.setTop (mkF m 76 #[.val (.int p0), .val (.int p1), .val (.int p2), .val (.int p3), .val (.int p4), .val (.int p5), .val (.int z6), .val (.int z7), .val (.int z8), .val (.int z9), .val (.int z10), .unset, .unset, .unset, .unset, .unset, .unset] [(.int (32 : Int32)), (.int p5)]))
            refine own_by (fun _ kz => XS.iand X0.here hx rfl (hb hby at_76) rfl kz) ?_
            show own_Go p.tables e below s _ _ _ (s₁.setTop (mkF m 77 #[.val (.int p0), .val (.int p1), .val (.int p2), .val (.int p3), .val (.int p4), .val (.int p5), .val (.int z6), .val (.int z7), .val (.int z8), .val (.int z9), .val (.int z10), .unset, .unset, .unset, .unset, .unset, .unset] [(.int (p5 &&& (32 : Int32)))]))
            by_cases hc77_38 : (p5 &&& (32 : Int32)) = (0 : Int32)
            · refine own_by (fun _ kz => XS.ifYes X0.here hx rfl (pc0 := 77) (pc' := 84) rfl (hb hby at_77) rfl ((if0 _ _).trans (teq hc77_38).1) (by decide) (by decide) kz) ?_
              show own_Go p.tables e below s _ _ _ (s₁.setTop (mkF m 84 #[.val (.int p0), .val (.int p1), .val (.int p2), .val (.int p3), .val (.int p4), .val (.int p5), .val (.int z6), .val (.int z7), .val (.int z8), .val (.int z9), .val (.int z10), .unset, .unset, .unset, .unset, .unset, .unset] []))
              refine own_by (fun _ kz => XS.iconst X0.here hx rfl (hb hby at_84) kz) ?_
              show own_Go p.tables e below s _ _ _ (s₁.setTop (mkF m 85 #[.val (.int p0), .val (.int p1), .val (.int p2), .val (.int p3), .val (.int p4), .val (.int p5), .val (.int z6), .val (.int z7), .val (.int z8), .val (.int z9), .val (.int z10), .unset, .unset, .unset, .unset, .unset, .unset] [(.int (0 : Int32))]))
              exact j85 _
            · refine own_by (fun _ kz => XS.ifNo X0.here hx rfl (hb hby at_77) rfl ((if0 _ _).trans (feq hc77_38).1) kz) ?_
              show own_Go p.tables e below s _ _ _ (s₁.setTop (mkF m 80 #[.val (.int p0), .val (.int p1), .val (.int p2), .val (.int p3), .val (.int p4), .val (.int p5), .val (.int z6), .val (.int z7), .val (.int z8), .val (.int z9), .val (.int z10), .unset, .unset, .unset, .unset, .unset, .unset] []))
              refine own_by (fun _ kz => XS.iconst X0.here hx rfl (hb hby at_80) kz) ?_
              show own_Go p.tables e below s _ _ _ (s₁.setTop (mkF m 81 #[.val (.int p0), .val (.int p1), .val (.int p2), .val (.int p3), .val (.int p4), .val (.int p5), .val (.int z6), .val (.int z7), .val (.int z8), .val (.int z9), .val (.int z10), .unset, .unset, .unset, .unset, .unset, .unset] [(.int (1 : Int32))]))
              refine own_by (fun _ kz => XS.goto X0.here hx rfl (pc0 := 81) (pc' := 85) rfl (hb hby at_81) (by decide) (by decide) kz) ?_
              show own_Go p.tables e below s _ _ _ (s₁.setTop (mkF m 85 #[.val (.int p0), .val (.int p1), .val (.int p2), .val (.int p3), .val (.int p4), .val (.int p5), .val (.int z6), .val (.int z7), .val (.int z8), .val (.int z9), .val (.int z10), .unset, .unset, .unset, .unset, .unset, .unset] [(.int (1 : Int32))]))
              exact j85 _
          refine own_by (fun _ kz => XS.iload X0.here hx rfl (hb hby at_57) rfl kz) ?_
          show own_Go p.tables e below s _ _ _ (s₁.setTop (mkF m 59 #[.val (.int p0), .val (.int p1), .val (.int p2), .val (.int p3), .val (.int p4), .val (.int p5), .val (.int z6), .val (.int z7), .val (.int z8), .val (.int z9), .unset, .unset, .unset, .unset, .unset, .unset, .unset] [(.int p5)]))
          refine own_by (fun _ kz => XS.bipush X0.here hx rfl (hb hby at_59) kz) ?_
          show own_Go p.tables e below s _ _ _ (s₁.setTop (mkF m 61 #[.val (.int p0), .val (.int p1), .val (.int p2), .val (.int p3), .val (.int p4), .val (.int p5), .val (.int z6), .val (.int z7), .val (.int z8), .val (.int z9), .unset, .unset, .unset, .unset, .unset, .unset, .unset] [(.int (16 : Int32)), (.int p5)]))
          refine own_by (fun _ kz => XS.iand X0.here hx rfl (hb hby at_61) rfl kz) ?_
          show own_Go p.tables e below s _ _ _ (s₁.setTop (mkF m 62 #[.val (.int p0), .val (.int p1), .val (.int p2), .val (.int p3), .val (.int p4), .val (.int p5), .val (.int z6), .val (.int z7), .val (.int z8), .val (.int z9), .unset, .unset, .unset, .unset, .unset, .unset, .unset] [(.int (p5 &&& (16 : Int32)))]))
          by_cases hc62_39 : (p5 &&& (16 : Int32)) = (0 : Int32)
          · refine own_by (fun _ kz => XS.ifYes X0.here hx rfl (pc0 := 62) (pc' := 69) rfl (hb hby at_62) rfl ((if0 _ _).trans (teq hc62_39).1) (by decide) (by decide) kz) ?_
            show own_Go p.tables e below s _ _ _ (s₁.setTop (mkF m 69 #[.val (.int p0), .val (.int p1), .val (.int p2), .val (.int p3), .val (.int p4), .val (.int p5), .val (.int z6), .val (.int z7), .val (.int z8), .val (.int z9), .unset, .unset, .unset, .unset, .unset, .unset, .unset] []))
            refine own_by (fun _ kz => XS.iconst X0.here hx rfl (hb hby at_69) kz) ?_
            show own_Go p.tables e below s _ _ _ (s₁.setTop (mkF m 70 #[.val (.int p0), .val (.int p1), .val (.int p2), .val (.int p3), .val (.int p4), .val (.int p5), .val (.int z6), .val (.int z7), .val (.int z8), .val (.int z9), .unset, .unset, .unset, .unset, .unset, .unset, .unset] [(.int (0 : Int32))]))
            exact j70 _
          · refine own_by (fun _ kz => XS.ifNo X0.here hx rfl (hb hby at_62) rfl ((if0 _ _).trans (feq hc62_39).1) kz) ?_
            show own_Go p.tables e below s _ _ _ (s₁.setTop (mkF m 65 #[.val (.int p0), .val (.int p1), .val (.int p2), .val (.int p3), .val (.int p4), .val (.int p5), .val (.int z6), .val (.int z7), .val (.int z8), .val (.int z9), .unset, .unset, .unset, .unset, .unset, .unset, .unset] []))
            refine own_by (fun _ kz => XS.iconst X0.here hx rfl (hb hby at_65) kz) ?_
            show own_Go p.tables e below s _ _ _ (s₁.setTop (mkF m 66 #[.val (.int p0), .val (.int p1), .val (.int p2), .val (.int p3), .val (.int p4), .val (.int p5), .val (.int z6), .val (.int z7), .val (.int z8), .val (.int z9), .unset, .unset, .unset, .unset, .unset, .unset, .unset] [(.int (1 : Int32))]))
            refine own_by (fun _ kz => XS.goto X0.here hx rfl (pc0 := 66) (pc' := 70) rfl (hb hby at_66) (by decide) (by decide) kz) ?_
            show own_Go p.tables e below s _ _ _ (s₁.setTop (mkF m 70 #[.val (.int p0), .val (.int p1), .val (.int p2), .val (.int p3), .val (.int p4), .val (.int p5), .val (.int z6), .val (.int z7), .val (.int z8), .val (.int z9), .unset, .unset, .unset, .unset, .unset, .unset, .unset] [(.int (1 : Int32))]))
            exact j70 _
        refine own_by (fun _ kz => XS.iload X0.here hx rfl (hb hby at_42) rfl kz) ?_
        show own_Go p.tables e below s _ _ _ (s₁.setTop (mkF m 44 #[.val (.int p0), .val (.int p1), .val (.int p2), .val (.int p3), .val (.int p4), .val (.int p5), .val (.int z6), .val (.int z7), .val (.int z8), .unset, .unset, .unset, .unset, .unset, .unset, .unset, .unset] [(.int p5)]))
        refine own_by (fun _ kz => XS.bipush X0.here hx rfl (hb hby at_44) kz) ?_
        show own_Go p.tables e below s _ _ _ (s₁.setTop (mkF m 46 #[.val (.int p0), .val (.int p1), .val (.int p2), .val (.int p3), .val (.int p4), .val (.int p5), .val (.int z6), .val (.int z7), .val (.int z8), .unset, .unset, .unset, .unset, .unset, .unset, .unset, .unset] [(.int (8 : Int32)), (.int p5)]))
        refine own_by (fun _ kz => XS.iand X0.here hx rfl (hb hby at_46) rfl kz) ?_
        show own_Go p.tables e below s _ _ _ (s₁.setTop (mkF m 47 #[.val (.int p0), .val (.int p1), .val (.int p2), .val (.int p3), .val (.int p4), .val (.int p5), .val (.int z6), .val (.int z7), .val (.int z8), .unset, .unset, .unset, .unset, .unset, .unset, .unset, .unset] [(.int (p5 &&& (8 : Int32)))]))
        by_cases hc47_40 : (p5 &&& (8 : Int32)) = (0 : Int32)
        · refine own_by (fun _ kz => XS.ifYes X0.here hx rfl (pc0 := 47) (pc' := 54) rfl (hb hby at_47) rfl ((if0 _ _).trans (teq hc47_40).1) (by decide) (by decide) kz) ?_
          show own_Go p.tables e below s _ _ _ (s₁.setTop (mkF m 54 #[.val (.int p0), .val (.int p1), .val (.int p2), .val (.int p3), .val (.int p4), .val (.int p5), .val (.int z6), .val (.int z7), .val (.int z8), .unset, .unset, .unset, .unset, .unset, .unset, .unset, .unset] []))
          refine own_by (fun _ kz => XS.iconst X0.here hx rfl (hb hby at_54) kz) ?_
          show own_Go p.tables e below s _ _ _ (s₁.setTop (mkF m 55 #[.val (.int p0), .val (.int p1), .val (.int p2), .val (.int p3), .val (.int p4), .val (.int p5), .val (.int z6), .val (.int z7), .val (.int z8), .unset, .unset, .unset, .unset, .unset, .unset, .unset, .unset] [(.int (0 : Int32))]))
          exact j55 _
        · refine own_by (fun _ kz => XS.ifNo X0.here hx rfl (hb hby at_47) rfl ((if0 _ _).trans (feq hc47_40).1) kz) ?_
          show own_Go p.tables e below s _ _ _ (s₁.setTop (mkF m 50 #[.val (.int p0), .val (.int p1), .val (.int p2), .val (.int p3), .val (.int p4), .val (.int p5), .val (.int z6), .val (.int z7), .val (.int z8), .unset, .unset, .unset, .unset, .unset, .unset, .unset, .unset] []))
          refine own_by (fun _ kz => XS.iconst X0.here hx rfl (hb hby at_50) kz) ?_
          show own_Go p.tables e below s _ _ _ (s₁.setTop (mkF m 51 #[.val (.int p0), .val (.int p1), .val (.int p2), .val (.int p3), .val (.int p4), .val (.int p5), .val (.int z6), .val (.int z7), .val (.int z8), .unset, .unset, .unset, .unset, .unset, .unset, .unset, .unset] [(.int (1 : Int32))]))
          refine own_by (fun _ kz => XS.goto X0.here hx rfl (pc0 := 51) (pc' := 55) rfl (hb hby at_51) (by decide) (by decide) kz) ?_
          show own_Go p.tables e below s _ _ _ (s₁.setTop (mkF m 55 #[.val (.int p0), .val (.int p1), .val (.int p2), .val (.int p3), .val (.int p4), .val (.int p5), .val (.int z6), .val (.int z7), .val (.int z8), .unset, .unset, .unset, .unset, .unset, .unset, .unset, .unset] [(.int (1 : Int32))]))
          exact j55 _
      refine own_by (fun _ kz => XS.iload X0.here hx rfl (hb hby at_28) rfl kz) ?_
      show own_Go p.tables e below s _ _ _ (s₁.setTop (mkF m 30 #[.val (.int p0), .val (.int p1), .val (.int p2), .val (.int p3), .val (.int p4), .val (.int p5), .val (.int z6), .val (.int z7), .unset, .unset, .unset, .unset, .unset, .unset, .unset, .unset, .unset] [(.int p5)]))
      refine own_by (fun _ kz => XS.iconst X0.here hx rfl (hb hby at_30) kz) ?_
      show own_Go p.tables e below s _ _ _ (s₁.setTop (mkF m 31 #[.val (.int p0), .val (.int p1), .val (.int p2), .val (.int p3), .val (.int p4), .val (.int p5), .val (.int z6), .val (.int z7), .unset, .unset, .unset, .unset, .unset, .unset, .unset, .unset, .unset] [(.int (4 : Int32)), (.int p5)]))
      refine own_by (fun _ kz => XS.iand X0.here hx rfl (hb hby at_31) rfl kz) ?_
      show own_Go p.tables e below s _ _ _ (s₁.setTop (mkF m 32 #[.val (.int p0), .val (.int p1), .val (.int p2), .val (.int p3), .val (.int p4), .val (.int p5), .val (.int z6), .val (.int z7), .unset, .unset, .unset, .unset, .unset, .unset, .unset, .unset, .unset] [(.int (p5 &&& (4 : Int32)))]))
      by_cases hc32_41 : (p5 &&& (4 : Int32)) = (0 : Int32)
      · refine own_by (fun _ kz => XS.ifYes X0.here hx rfl (pc0 := 32) (pc' := 39) rfl (hb hby at_32) rfl ((if0 _ _).trans (teq hc32_41).1) (by decide) (by decide) kz) ?_
        show own_Go p.tables e below s _ _ _ (s₁.setTop (mkF m 39 #[.val (.int p0), .val (.int p1), .val (.int p2), .val (.int p3), .val (.int p4), .val (.int p5), .val (.int z6), .val (.int z7), .unset, .unset, .unset, .unset, .unset, .unset, .unset, .unset, .unset] []))
        refine own_by (fun _ kz => XS.iconst X0.here hx rfl (hb hby at_39) kz) ?_
        show own_Go p.tables e below s _ _ _ (s₁.setTop (mkF m 40 #[.val (.int p0), .val (.int p1), .val (.int p2), .val (.int p3), .val (.int p4), .val (.int p5), .val (.int z6), .val (.int z7), .unset, .unset, .unset, .unset, .unset, .unset, .unset, .unset, .unset] [(.int (0 : Int32))]))
        exact j40 _
      · refine own_by (fun _ kz => XS.ifNo X0.here hx rfl (hb hby at_32) rfl ((if0 _ _).trans (feq hc32_41).1) kz) ?_
        show own_Go p.tables e below s _ _ _ (s₁.setTop (mkF m 35 #[.val (.int p0), .val (.int p1), .val (.int p2), .val (.int p3), .val (.int p4), .val (.int p5), .val (.int z6), .val (.int z7), .unset, .unset, .unset, .unset, .unset, .unset, .unset, .unset, .unset] []))
        refine own_by (fun _ kz => XS.iconst X0.here hx rfl (hb hby at_35) kz) ?_
        show own_Go p.tables e below s _ _ _ (s₁.setTop (mkF m 36 #[.val (.int p0), .val (.int p1), .val (.int p2), .val (.int p3), .val (.int p4), .val (.int p5), .val (.int z6), .val (.int z7), .unset, .unset, .unset, .unset, .unset, .unset, .unset, .unset, .unset] [(.int (1 : Int32))]))
        refine own_by (fun _ kz => XS.goto X0.here hx rfl (pc0 := 36) (pc' := 40) rfl (hb hby at_36) (by decide) (by decide) kz) ?_
        show own_Go p.tables e below s _ _ _ (s₁.setTop (mkF m 40 #[.val (.int p0), .val (.int p1), .val (.int p2), .val (.int p3), .val (.int p4), .val (.int p5), .val (.int z6), .val (.int z7), .unset, .unset, .unset, .unset, .unset, .unset, .unset, .unset, .unset] [(.int (1 : Int32))]))
        exact j40 _
    refine own_by (fun _ kz => XS.iload X0.here hx rfl (hb hby at_14) rfl kz) ?_
    show own_Go p.tables e below s _ _ _ (s₁.setTop (mkF m 16 #[.val (.int p0), .val (.int p1), .val (.int p2), .val (.int p3), .val (.int p4), .val (.int p5), .val (.int z6), .unset, .unset, .unset, .unset, .unset, .unset, .unset, .unset, .unset, .unset] [(.int p5)]))
    refine own_by (fun _ kz => XS.iconst X0.here hx rfl (hb hby at_16) kz) ?_
    show own_Go p.tables e below s _ _ _ (s₁.setTop (mkF m 17 #[.val (.int p0), .val (.int p1), .val (.int p2), .val (.int p3), .val (.int p4), .val (.int p5), .val (.int z6), .unset, .unset, .unset, .unset, .unset, .unset, .unset, .unset, .unset, .unset] [(.int (2 : Int32)), (.int p5)]))
    refine own_by (fun _ kz => XS.iand X0.here hx rfl (hb hby at_17) rfl kz) ?_
    show own_Go p.tables e below s _ _ _ (s₁.setTop (mkF m 18 #[.val (.int p0), .val (.int p1), .val (.int p2), .val (.int p3), .val (.int p4), .val (.int p5), .val (.int z6), .unset, .unset, .unset, .unset, .unset, .unset, .unset, .unset, .unset, .unset] [(.int (p5 &&& (2 : Int32)))]))
    by_cases hc18_42 : (p5 &&& (2 : Int32)) = (0 : Int32)
    · refine own_by (fun _ kz => XS.ifYes X0.here hx rfl (pc0 := 18) (pc' := 25) rfl (hb hby at_18) rfl ((if0 _ _).trans (teq hc18_42).1) (by decide) (by decide) kz) ?_
      show own_Go p.tables e below s _ _ _ (s₁.setTop (mkF m 25 #[.val (.int p0), .val (.int p1), .val (.int p2), .val (.int p3), .val (.int p4), .val (.int p5), .val (.int z6), .unset, .unset, .unset, .unset, .unset, .unset, .unset, .unset, .unset, .unset] []))
      refine own_by (fun _ kz => XS.iconst X0.here hx rfl (hb hby at_25) kz) ?_
      show own_Go p.tables e below s _ _ _ (s₁.setTop (mkF m 26 #[.val (.int p0), .val (.int p1), .val (.int p2), .val (.int p3), .val (.int p4), .val (.int p5), .val (.int z6), .unset, .unset, .unset, .unset, .unset, .unset, .unset, .unset, .unset, .unset] [(.int (0 : Int32))]))
      exact j26 _
    · refine own_by (fun _ kz => XS.ifNo X0.here hx rfl (hb hby at_18) rfl ((if0 _ _).trans (feq hc18_42).1) kz) ?_
      show own_Go p.tables e below s _ _ _ (s₁.setTop (mkF m 21 #[.val (.int p0), .val (.int p1), .val (.int p2), .val (.int p3), .val (.int p4), .val (.int p5), .val (.int z6), .unset, .unset, .unset, .unset, .unset, .unset, .unset, .unset, .unset, .unset] []))
      refine own_by (fun _ kz => XS.iconst X0.here hx rfl (hb hby at_21) kz) ?_
      show own_Go p.tables e below s _ _ _ (s₁.setTop (mkF m 22 #[.val (.int p0), .val (.int p1), .val (.int p2), .val (.int p3), .val (.int p4), .val (.int p5), .val (.int z6), .unset, .unset, .unset, .unset, .unset, .unset, .unset, .unset, .unset, .unset] [(.int (1 : Int32))]))
      refine own_by (fun _ kz => XS.goto X0.here hx rfl (pc0 := 22) (pc' := 26) rfl (hb hby at_22) (by decide) (by decide) kz) ?_
      show own_Go p.tables e below s _ _ _ (s₁.setTop (mkF m 26 #[.val (.int p0), .val (.int p1), .val (.int p2), .val (.int p3), .val (.int p4), .val (.int p5), .val (.int z6), .unset, .unset, .unset, .unset, .unset, .unset, .unset, .unset, .unset, .unset] [(.int (1 : Int32))]))
      exact j26 _
  refine own_by (fun _ kz => XS.iload X0.here hx rfl (hb hby at_0) rfl kz) ?_
  show own_Go p.tables e below s _ _ _ (s₁.setTop (mkF m 2 #[.val (.int p0), .val (.int p1), .val (.int p2), .val (.int p3), .val (.int p4), .val (.int p5), .unset, .unset, .unset, .unset, .unset, .unset, .unset, .unset, .unset, .unset, .unset] [(.int p5)]))
  refine own_by (fun _ kz => XS.iconst X0.here hx rfl (hb hby at_2) kz) ?_
  show own_Go p.tables e below s _ _ _ (s₁.setTop (mkF m 3 #[.val (.int p0), .val (.int p1), .val (.int p2), .val (.int p3), .val (.int p4), .val (.int p5), .unset, .unset, .unset, .unset, .unset, .unset, .unset, .unset, .unset, .unset, .unset] [(.int (1 : Int32)), (.int p5)]))
  refine own_by (fun _ kz => XS.iand X0.here hx rfl (hb hby at_3) rfl kz) ?_
  show own_Go p.tables e below s _ _ _ (s₁.setTop (mkF m 4 #[.val (.int p0), .val (.int p1), .val (.int p2), .val (.int p3), .val (.int p4), .val (.int p5), .unset, .unset, .unset, .unset, .unset, .unset, .unset, .unset, .unset, .unset, .unset] [(.int (p5 &&& (1 : Int32)))]))
  by_cases hc4_43 : (p5 &&& (1 : Int32)) = (0 : Int32)
  · refine own_by (fun _ kz => XS.ifYes X0.here hx rfl (pc0 := 4) (pc' := 11) rfl (hb hby at_4) rfl ((if0 _ _).trans (teq hc4_43).1) (by decide) (by decide) kz) ?_
    show own_Go p.tables e below s _ _ _ (s₁.setTop (mkF m 11 #[.val (.int p0), .val (.int p1), .val (.int p2), .val (.int p3), .val (.int p4), .val (.int p5), .unset, .unset, .unset, .unset, .unset, .unset, .unset, .unset, .unset, .unset, .unset] []))
    refine own_by (fun _ kz => XS.iconst X0.here hx rfl (hb hby at_11) kz) ?_
    show own_Go p.tables e below s _ _ _ (s₁.setTop (mkF m 12 #[.val (.int p0), .val (.int p1), .val (.int p2), .val (.int p3), .val (.int p4), .val (.int p5), .unset, .unset, .unset, .unset, .unset, .unset, .unset, .unset, .unset, .unset, .unset] [(.int (0 : Int32))]))
    exact j12 _
  · refine own_by (fun _ kz => XS.ifNo X0.here hx rfl (hb hby at_4) rfl ((if0 _ _).trans (feq hc4_43).1) kz) ?_
    show own_Go p.tables e below s _ _ _ (s₁.setTop (mkF m 7 #[.val (.int p0), .val (.int p1), .val (.int p2), .val (.int p3), .val (.int p4), .val (.int p5), .unset, .unset, .unset, .unset, .unset, .unset, .unset, .unset, .unset, .unset, .unset] []))
    refine own_by (fun _ kz => XS.iconst X0.here hx rfl (hb hby at_7) kz) ?_
    show own_Go p.tables e below s _ _ _ (s₁.setTop (mkF m 8 #[.val (.int p0), .val (.int p1), .val (.int p2), .val (.int p3), .val (.int p4), .val (.int p5), .unset, .unset, .unset, .unset, .unset, .unset, .unset, .unset, .unset, .unset, .unset] [(.int (1 : Int32))]))
    refine own_by (fun _ kz => XS.goto X0.here hx rfl (pc0 := 8) (pc' := 12) rfl (hb hby at_8) (by decide) (by decide) kz) ?_
    show own_Go p.tables e below s _ _ _ (s₁.setTop (mkF m 12 #[.val (.int p0), .val (.int p1), .val (.int p2), .val (.int p3), .val (.int p4), .val (.int p5), .unset, .unset, .unset, .unset, .unset, .unset, .unset, .unset, .unset, .unset, .unset] [(.int (1 : Int32))]))
    exact j12 _
theorem own_len0 {t : Term} {args : Array Value} {s : State} {a : Addr} {cl : Cell} {ty : FieldType} (ev : t.eval args s none [] s = some (.ref a)) (A : Arr s s.heap a cl ty) (h : (Jvm.Cond.eq (.length t) (.int 0)).value args s none s [] = some true) : cl.slots.size = 0 := by
  have ha : s.arrayAt? a = some cl := Arr.fin (Vm.Alike.refl _) A
  have q := eqv_i (F := .int 0) rfl h
  by_cases hl : cl.slots.size < 2 ^ 31
  · rw [len_f ev ha hl] at q
    have h1 : cl.slots.size.toInt32 = 0 := Value.int.inj (Option.some.inj q)
    have h2 : cl.slots.size.toInt32.toNatClampNeg = cl.slots.size := Int32.toNatClampNeg_ofNat_of_lt hl
    rw [h1] at h2
    exact h2.symm
  · simp [Term.eval, ev, ha, hl] at q

set_option maxRecDepth 65536 in
set_option maxHeartbeats 40000000 in
theorem comes_1 {Post : Tables → Env → Array Value → State → Outcome → State → Prop} (hpost : ∀ tb e args s v u, (limb_1_1.after args s (.returned v) u = true ∧ limb_1_2.after args s (.returned v) u = true ∧ True) → FrameEnd s (.returned v) u (Jvm.fieldLocs frame_1_writes args s ++ Jvm.arrayLocs frame_1_arrays args s ++ Jvm.staticLocs frame_1_statics s) 24 128 → Post tb e args s (.returned v) u) :
    ArmFor flags0 classFile x code maxLocals ret World_1 tables_1 room_1 Calls_1 rest_1 Pre_1 Post := by
  intro l hfl _ _ p e ha hc hk s m args below hf hA hF happ hP
  obtain ⟨hcalls, hrest, hpre⟩ := hP
  obtain ⟨-, -, -, hnamed, -, -, -, hat⟩ := (Spec.applies_iff hf).mp happ
  obtain ⟨hg, hn⟩ := and_e (Cond.before_iff.mp (show (Jvm.Cond.and given_1 narrow_1).before args s = true from hpre))
  obtain ⟨hcount, hr0⟩ := and_e hg
  obtain ⟨ha0, hr1⟩ := and_e hr0
  obtain ⟨ha1, hr2⟩ := and_e hr1
  obtain ⟨ha2, hr3⟩ := and_e hr2
  obtain ⟨ha3, hr4⟩ := and_e hr3
  obtain ⟨ha4, hr5⟩ := and_e hr4
  obtain ⟨w0, w1, w2, w3, w4, w5, rfl⟩ : ∃ w0 w1 w2 w3 w4 w5 : Value, args = #[w0, w1, w2, w3, w4, w5] := by
    have hs : args.size = 6 := by simpa [Cond.value, given_1] using hcount
    obtain ⟨L⟩ := args
    match L, hs with
    | [w0, w1, w2, w3, w4, w5], _ => exact ⟨w0, w1, w2, w3, w4, w5, rfl⟩
  have hw := fun d (hd : d ∈ tables_1) => atoms_spec (ws := Jvm.Cond.code x code maxLocals ret :: tables_1) hat d (List.mem_cons_of_mem _ hd)
  obtain ⟨i0, ev0⟩ := is_v ha0
  obtain rfl : w0 = (.int i0) := Option.some.inj ev0
  obtain ⟨i1, ev1⟩ := is_v ha1
  obtain rfl : w1 = (.int i1) := Option.some.inj ev1
  obtain ⟨i2, ev2⟩ := is_v ha2
  obtain rfl : w2 = (.int i2) := Option.some.inj ev2
  obtain ⟨i3, ev3⟩ := is_v ha3
  obtain rfl : w3 = (.int i3) := Option.some.inj ev3
  obtain ⟨i4, ev4⟩ := is_v ha4
  obtain rfl : w4 = (.int i4) := Option.some.inj ev4
  obtain ⟨i5, ev5⟩ := is_v hr5
  obtain rfl : w5 = (.int i5) := Option.some.inj ev5
  obtain ⟨hAr, hn1⟩ := and_e hn
  obtain ⟨hEx, hLe⟩ := and_e hn1
  obtain ⟨N, evN⟩ := exa_v hEx
  have SN := Sta.start evN (Or.inr ⟨(hw _ (List.mem_of_getElem? (i := 2) rfl)), (hw _ (List.mem_of_getElem? (i := 14) rfl))⟩)
  have EN := Exa.start evN hEx
  obtain ⟨cN, AN⟩ := Arr.start evN hAr
  have lN : cN.slots.size = 0 := own_len0 evN AN hLe
  have VN : Arv s s.heap N cN.cls .int 0 [] (.int (0 : Int32)) := ⟨cN, AN, rfl, by rw [lN]; rfl, by decide, fun q hq => by omega, fun q hq => by omega⟩
  obtain ⟨n, o, h1, h2, h3, _, L, rfl, ⟨rfl, N⟩, hq⟩ := rm0 l s _ hw tables_1 i0 i1 i2 i3 i4 i5 s.heap s.heap.size (Nat.le_refl _) N cN.cls (Old.start s) SN EN VN (AN.lt) p e ha hc hk s m _ below hf ((Spec.applies_iff_loose hf).mp happ).1 ⟨rfl, State.Warmed39.refl s, rfl⟩ trivial
  refine ⟨n, _, h1, h2, h3, hpost _ _ _ _ _ _ ⟨Cond.after_iff.mpr rfl, Cond.after_iff.mpr (eq_i res_at (Term.int_eval (1)) rfl), trivial⟩ ⟨hq.1, hq.2.1, (hq.2.2.sift fun y hy => Or.inr (N y hy)).mono (by decide) (by decide)⟩⟩
theorem main_1_1 : Claimed_1_1 := comes_1 fun _ _ _ _ _ _ h hF => ⟨h.1, hF⟩
theorem main_1_2 : Claimed_1_2 := comes_1 fun _ _ _ _ _ _ h hF => ⟨h.2.1, hF⟩
end Jvm.Pilot.@@N@@
namespace Jvm.Pilot.@@N@@
open Jvm Jvm.ClassFile Sem Op Lib Jvm.Free Jvm.Stand Jvm.Pilot.@@N@@.Jvm.D
/-! MADE BY PROGRAM (witnessworld.py) out of the Statement's table words and the real class files: 13 classes; the members and pool entries that the words name. The judged class is class 1, her method 1. -/
namespace start1
open Jvm.ClassFile
def u (s : String) : CpInfo := .utf8 (stringToUtf16 s)
/-- a pool by its gaps: so many unusable entries, then the entry; so many at the end -/
def gap : Nat → List CpInfo → List CpInfo
  | 0, r => r
  | n + 1, r => .unusable :: gap n r
def poolList (es : List (Nat × CpInfo)) (last : Nat) : List CpInfo := es.foldr (fun e r => gap e.1 (e.2 :: r)) (gap last [])
def pool (es : List (Nat × CpInfo)) (last : Nat) : Array CpInfo := ⟨poolList es last⟩
def fileOf (pool : Array CpInfo) (this : Nat) (attrs : Array Attribute := #[]) (ms : Array MethodInfo := #[]) (fl : Nat := 33) (sup : Nat := 0) (ifs : Array Nat := #[]) (fds : Array FieldInfo := #[]) : ClassFile where
  minorVersion := 0
  majorVersion := 65
  constantPool := pool
  accessFlags := fl
  thisClass := this
  superClass := sup
  interfaces := ifs
  fields := fds
  methods := ms
  attributes := attrs
def plain (name : String) (sup : Option ClassId) : Class where
  name := name
  kind := .ordinary
  loader := none
  accessFlags := 33
  super := sup
  interfaces := #[]
  cf := none
  fields := #[]
  methods := #[]
  instanceTypes := #[]
  staticTypes := #[]
  resolved := #[]
  callSites := []
  init := .initialized
  statics := none
  mirror := none

def pool0 : Array CpInfo := pool [(5, u "<init>"), (0, u "()V"), (1, .class_ 10), (1, u "java/lang/Object")] 113

def k0c0 : Code := { maxStack := 0, maxLocals := 1, code := object_method_1_code, exceptionTable := #[], attributes := #[] }
def k0m0 : Method := { name := "<init>", desc := "()V", sig := { parameters := [], returnType := none }, accessFlags := 1, code := some k0c0 }
/-- java/lang/Object -/
def k0 : Class := { plain "java/lang/Object" none with
  accessFlags := 33
  interfaces := #[]
  cf := some (fileOf pool0 8 #[] #[{ accessFlags := 1, nameIndex := 5, descriptorIndex := 6, attributes := #[] }] 33 0 #[] #[])
  fields := #[]
  methods := #[k0m0]
  instanceTypes := #[]
  staticTypes := #[]
  resolved := Array.replicate 124 none
  statics := none }

def pool1 : Array CpInfo := pool [(2, .class_ 4), (1, u "java/lang/Object"), (0, u "<init>"), (0, u "()V"), (0, .class_ 8), (0, u "cyclebreak/collector/ReferenceTable"), (0, .methodref 7 10), (0, .nameAndType 5 11), (0, u "(I)V"), (0, .methodref 7 13), (0, .nameAndType 14 15), (0, u "add"), (0, u "(II)V"), (0, .methodref 7 17), (0, .nameAndType 18 15), (0, u "addFixed"), (0, .methodref 7 20), (0, .nameAndType 21 22), (0, u "holds"), (0, u "(II)Z"), (0, .class_ 24), (0, u "cyclebreak/collector/ReferenceTableHoldsPinLaw"), (2, u "law"), (0, u "(IIIIII)Z")] 3

def k1m0 : Method := { name := "<init>", desc := "()V", sig := { parameters := [], returnType := none }, accessFlags := 1, code := none }
def k1c1 : Code := { maxStack := 3, maxLocals := 17, code := code, exceptionTable := #[], attributes := #[] }
def k1m1 : Method := { name := "law", desc := "(IIIIII)Z", sig := { parameters := [.int, .int, .int, .int, .int, .int], returnType := some .boolean }, accessFlags := 9, code := some k1c1 }
/-- cyclebreak/collector/ReferenceTableHoldsPinLaw -/
def k1 : Class := { plain "cyclebreak/collector/ReferenceTableHoldsPinLaw" (some 0) with
  accessFlags := 49
  interfaces := #[]
  cf := some (fileOf pool1 23 #[] #[{ accessFlags := 1, nameIndex := 5, descriptorIndex := 6, attributes := #[] }, { accessFlags := 9, nameIndex := 27, descriptorIndex := 28, attributes := #[] }] 49 2 #[] #[])
  fields := #[]
  methods := #[k1m0, k1m1]
  instanceTypes := #[]
  staticTypes := #[]
  resolved := Array.replicate 32 none
  statics := none }

def pool2 : Array CpInfo := pool [(1, .methodref 2 3), (0, .class_ 4), (0, .nameAndType 5 6), (0, u "java/lang/Object"), (0, u "<init>"), (0, u "()V"), (0, .class_ 8), (0, u "[I"), (0, .fieldref 10 11), (0, .class_ 12), (0, .nameAndType 13 14), (0, u "cyclebreak/collector/ReferenceTable"), (0, u "targets"), (0, u "[[I"), (0, .fieldref 10 16), (0, .nameAndType 17 8), (0, u "NONE"), (0, .methodref 19 20), (0, .class_ 21), (0, .nameAndType 22 23), (0, u "java/util/Arrays"), (0, u "fill"), (0, u "([Ljava/lang/Object;Ljava/lang/Object;)V"), (0, .fieldref 10 25), (0, .nameAndType 26 8), (0, u "counts"), (0, .fieldref 10 28), (0, .nameAndType 29 8), (0, u "fixed"), (0, .methodref 10 31), (0, .nameAndType 32 33), (0, u "grow"), (0, u "(I)I"), (0, .methodref 35 36), (0, .class_ 37), (0, .nameAndType 38 39), (0, u "java/lang/Math"), (0, u "max"), (0, u "(II)I"), (0, .methodref 19 41), (0, .nameAndType 42 43), (0, u "copyOf"), (0, u "([II)[I"), (24, u "(I)V"), (24, u "add"), (0, u "(II)V"), (0, u "addFixed"), (2, u "(II)Z"), (0, u "holds")] 33

def k2c0 : Code := { maxStack := 2, maxLocals := 2, code := prog_50_method_1_code, exceptionTable := #[], attributes := #[] }
def k2m0 : Method := { name := "<init>", desc := "(I)V", sig := { parameters := [.int], returnType := none }, accessFlags := 1, code := some k2c0 }
def k2c1 : Code := { maxStack := 4, maxLocals := 4, code := prog_50_method_2_code, exceptionTable := #[], attributes := #[] }
def k2m1 : Method := { name := "add", desc := "(II)V", sig := { parameters := [.int, .int], returnType := none }, accessFlags := 1, code := some k2c1 }
def k2c2 : Code := { maxStack := 4, maxLocals := 5, code := prog_50_method_3_code, exceptionTable := #[], attributes := #[] }
def k2m2 : Method := { name := "addFixed", desc := "(II)V", sig := { parameters := [.int, .int], returnType := none }, accessFlags := 1, code := some k2c2 }
def k2c3 : Code := { maxStack := 6, maxLocals := 3, code := prog_50_method_4_code, exceptionTable := #[], attributes := #[] }
def k2m3 : Method := { name := "grow", desc := "(I)I", sig := { parameters := [.int], returnType := some .int }, accessFlags := 2, code := some k2c3 }
def k2c4 : Code := { maxStack := 3, maxLocals := 4, code := prog_50_method_6_code, exceptionTable := #[], attributes := #[] }
def k2m4 : Method := { name := "holds", desc := "(II)Z", sig := { parameters := [.int, .int], returnType := some .boolean }, accessFlags := 1, code := some k2c4 }
/-- cyclebreak/collector/ReferenceTable -/
def k2 : Class := { plain "cyclebreak/collector/ReferenceTable" (some 0) with
  accessFlags := 49
  interfaces := #[]
  cf := some (fileOf pool2 10 #[] #[{ accessFlags := 1, nameIndex := 5, descriptorIndex := 68, attributes := #[] }, { accessFlags := 1, nameIndex := 93, descriptorIndex := 94, attributes := #[] }, { accessFlags := 1, nameIndex := 95, descriptorIndex := 94, attributes := #[] }, { accessFlags := 2, nameIndex := 32, descriptorIndex := 33, attributes := #[] }, { accessFlags := 1, nameIndex := 99, descriptorIndex := 98, attributes := #[] }] 49 2 #[] #[{ accessFlags := 26, nameIndex := 17, descriptorIndex := 8, attributes := #[] }, { accessFlags := 18, nameIndex := 13, descriptorIndex := 14, attributes := #[] }, { accessFlags := 18, nameIndex := 26, descriptorIndex := 8, attributes := #[] }, { accessFlags := 18, nameIndex := 29, descriptorIndex := 8, attributes := #[] }])
  fields := #[{ name := "NONE", type := (.array .int), accessFlags := 26, slot := 0, constantValue := 0 }, { name := "targets", type := (.array (.array .int)), accessFlags := 18, slot := 0, constantValue := 0 }, { name := "counts", type := (.array .int), accessFlags := 18, slot := 1, constantValue := 0 }, { name := "fixed", type := (.array .int), accessFlags := 18, slot := 2, constantValue := 0 }]
  methods := #[k2m0, k2m1, k2m2, k2m3, k2m4]
  instanceTypes := #[(.array (.array .int)), (.array .int), (.array .int)]
  staticTypes := #[(.array .int)]
  resolved := Array.replicate 133 none
  statics := some 0 }

def pool3 : Array CpInfo := pool [(2, .class_ 4), (1, u "java/lang/Object"), (0, u "<init>"), (0, u "()V"), (7, .class_ 16), (1, u "java/util/Arrays"), (57, .class_ 76), (1, u "java/util/Arrays$NaturalOrder"), (36, .class_ 115), (1, u "java/util/Arrays$LegacyMergeSort"), (1, u "Z"), (32, .methodref 151 152), (0, .class_ 153), (0, .nameAndType 154 155), (0, u "java/lang/System"), (0, u "arraycopy"), (0, u "(Ljava/lang/Object;ILjava/lang/Object;II)V"), (146, u "copyOf"), (1, .methodref 305 306), (0, .class_ 307), (0, .nameAndType 308 309), (0, u "java/lang/Math"), (0, u "min"), (0, u "(II)I"), (65, .class_ 376), (0, u "java/util/Arrays$ArrayList"), (68, u "$assertionsDisabled"), (269, u "MIN_ARRAY_SORT_GRAN"), (0, u "I"), (2, u "INSERTIONSORT_THRESHOLD"), (120, u "fill"), (17, u "([Ljava/lang/Object;Ljava/lang/Object;)V"), (12, u "([II)[I"), (103, .class_ 976), (0, u "java/util/Arrays$ArrayItr")] 52

def k3m0 : Method := { name := "<init>", desc := "()V", sig := { parameters := [], returnType := none }, accessFlags := 2, code := none }
def k3c1 : Code := { maxStack := 3, maxLocals := 4, code := jdk_65_method_117_code, exceptionTable := #[], attributes := #[] }
def k3m1 : Method := { name := "fill", desc := "([Ljava/lang/Object;Ljava/lang/Object;)V", sig := { parameters := [(.array (.object "java/lang/Object")), (.object "java/lang/Object")], returnType := none }, accessFlags := 9, code := some k3c1 }
def k3c2 : Code := { maxStack := 6, maxLocals := 3, code := jdk_65_method_123_code, exceptionTable := #[], attributes := #[] }
def k3m2 : Method := { name := "copyOf", desc := "([II)[I", sig := { parameters := [(.array .int), .int], returnType := some (.array .int) }, accessFlags := 9, code := some k3c2 }
/-- java/util/Arrays -/
def k3 : Class := { plain "java/util/Arrays" (some 0) with
  accessFlags := 49
  interfaces := #[]
  cf := some (fileOf pool3 14 #[.nestMembers #[975, 375, 113, 74]] #[{ accessFlags := 2, nameIndex := 5, descriptorIndex := 6, attributes := #[] }, { accessFlags := 9, nameIndex := 840, descriptorIndex := 858, attributes := #[] }, { accessFlags := 9, nameIndex := 302, descriptorIndex := 871, attributes := #[] }] 49 2 #[] #[{ accessFlags := 26, nameIndex := 715, descriptorIndex := 716, attributes := #[] }, { accessFlags := 26, nameIndex := 719, descriptorIndex := 716, attributes := #[] }, { accessFlags := 4120, nameIndex := 445, descriptorIndex := 117, attributes := #[] }])
  fields := #[{ name := "MIN_ARRAY_SORT_GRAN", type := .int, accessFlags := 26, slot := 0, constantValue := 0 }, { name := "INSERTIONSORT_THRESHOLD", type := .int, accessFlags := 26, slot := 1, constantValue := 0 }, { name := "$assertionsDisabled", type := .boolean, accessFlags := 4120, slot := 2, constantValue := 0 }]
  methods := #[k3m0, k3m1, k3m2]
  instanceTypes := #[]
  staticTypes := #[.int, .int, .boolean]
  resolved := Array.replicate 1029 none
  statics := none }

def pool4 : Array CpInfo := pool [(1, .class_ 2), (0, u "java/lang/Math"), (1, .class_ 6), (1, u "java/lang/Object"), (0, u "<init>"), (0, u "()V"), (89, .class_ 100), (1, u "java/lang/Math$RandomNumberGeneratorHolder"), (71, u "negativeZeroFloatBits"), (0, u "J"), (2, u "negativeZeroDoubleBits"), (21, u "max"), (2, u "min"), (43, u "$assertionsDisabled"), (0, u "Z"), (88, u "(II)I"), (2, u "twoToTheDoubleScaleDown"), (0, u "D"), (4, u "twoToTheDoubleScaleUp"), (9, u "E"), (3, u "PI"), (2, u "TAU"), (2, u "DEGREES_TO_RADIANS"), (0, u "RADIANS_TO_DEGREES")] 94

def k4m0 : Method := { name := "<init>", desc := "()V", sig := { parameters := [], returnType := none }, accessFlags := 2, code := none }
def k4c1 : Code := { maxStack := 2, maxLocals := 2, code := jdk_29_method_65_code, exceptionTable := #[], attributes := #[] }
def k4m1 : Method := { name := "max", desc := "(II)I", sig := { parameters := [.int, .int], returnType := some .int }, accessFlags := 9, code := some k4c1 }
def k4c2 : Code := { maxStack := 2, maxLocals := 2, code := jdk_29_method_69_code, exceptionTable := #[], attributes := #[] }
def k4m2 : Method := { name := "min", desc := "(II)I", sig := { parameters := [.int, .int], returnType := some .int }, accessFlags := 9, code := some k4c2 }
/-- java/lang/Math -/
def k4 : Class := { plain "java/lang/Math" (some 0) with
  accessFlags := 49
  interfaces := #[]
  cf := some (fileOf pool4 1 #[.nestMembers #[98]] #[{ accessFlags := 2, nameIndex := 7, descriptorIndex := 8, attributes := #[] }, { accessFlags := 9, nameIndex := 198, descriptorIndex := 335, attributes := #[] }, { accessFlags := 9, nameIndex := 201, descriptorIndex := 335, attributes := #[] }] 49 4 #[] #[{ accessFlags := 25, nameIndex := 354, descriptorIndex := 339, attributes := #[] }, { accessFlags := 25, nameIndex := 358, descriptorIndex := 339, attributes := #[] }, { accessFlags := 25, nameIndex := 361, descriptorIndex := 339, attributes := #[] }, { accessFlags := 26, nameIndex := 364, descriptorIndex := 339, attributes := #[] }, { accessFlags := 26, nameIndex := 365, descriptorIndex := 339, attributes := #[] }, { accessFlags := 26, nameIndex := 172, descriptorIndex := 173, attributes := #[] }, { accessFlags := 26, nameIndex := 176, descriptorIndex := 173, attributes := #[] }, { accessFlags := 8, nameIndex := 344, descriptorIndex := 339, attributes := #[] }, { accessFlags := 8, nameIndex := 338, descriptorIndex := 339, attributes := #[] }, { accessFlags := 4120, nameIndex := 245, descriptorIndex := 246, attributes := #[] }])
  fields := #[{ name := "E", type := .double, accessFlags := 25, slot := 0, constantValue := 0 }, { name := "PI", type := .double, accessFlags := 25, slot := 1, constantValue := 0 }, { name := "TAU", type := .double, accessFlags := 25, slot := 2, constantValue := 0 }, { name := "DEGREES_TO_RADIANS", type := .double, accessFlags := 26, slot := 3, constantValue := 0 }, { name := "RADIANS_TO_DEGREES", type := .double, accessFlags := 26, slot := 4, constantValue := 0 }, { name := "negativeZeroFloatBits", type := .long, accessFlags := 26, slot := 5, constantValue := 0 }, { name := "negativeZeroDoubleBits", type := .long, accessFlags := 26, slot := 6, constantValue := 0 }, { name := "twoToTheDoubleScaleUp", type := .double, accessFlags := 8, slot := 7, constantValue := 0 }, { name := "twoToTheDoubleScaleDown", type := .double, accessFlags := 8, slot := 8, constantValue := 0 }, { name := "$assertionsDisabled", type := .boolean, accessFlags := 4120, slot := 9, constantValue := 0 }]
  methods := #[k4m0, k4m1, k4m2]
  instanceTypes := #[]
  staticTypes := #[.double, .double, .double, .double, .double, .long, .long, .double, .double, .boolean]
  resolved := Array.replicate 460 none
  statics := none }

def pool5 : Array CpInfo := pool [(2, .class_ 4), (1, u "java/lang/Object"), (0, u "<init>"), (0, u "()V"), (1, .class_ 10), (1, u "java/lang/System"), (0, u "allowSecurityManager"), (0, u "I"), (16, u "cons"), (0, u "Ljava/io/Console;"), (77, .class_ 110), (1, u "java/lang/System$CallersHolder"), (43, u "initialErrStream"), (0, u "Ljava/io/PrintStream;"), (19, u "security"), (0, u "Ljava/lang/SecurityManager;"), (31, .class_ 209), (0, u "java/lang/System$1"), (7, u "props"), (0, u "Ljava/util/Properties;"), (2, u "lineSeparator"), (0, u "Ljava/lang/String;"), (96, .class_ 321), (1, u "java/lang/System$LoggerFinder"), (5, .class_ 328), (0, u "java/lang/System$Logger"), (67, u "err"), (2, u "out"), (91, u "notSupportedJnuEncoding"), (15, u "in"), (17, u "initialIn"), (0, u "Ljava/io/InputStream;"), (35, u "bootLayer"), (0, u "Ljava/lang/ModuleLayer;"), (99, .class_ 664), (0, u "java/lang/System$2"), (9, u "NEVER"), (2, u "MAYBE"), (49, u "arraycopy"), (0, u "(Ljava/lang/Object;ILjava/lang/Object;II)V"), (72, .class_ 802), (0, u "java/lang/System$Logger$Level")] 31

def k5m0 : Method := { name := "<init>", desc := "()V", sig := { parameters := [], returnType := none }, accessFlags := 2, code := none }
def k5m1 : Method := { name := "arraycopy", desc := "(Ljava/lang/Object;ILjava/lang/Object;II)V", sig := { parameters := [(.object "java/lang/Object"), .int, (.object "java/lang/Object"), .int, .int], returnType := none }, accessFlags := 265, code := none }
/-- java/lang/System -/
def k5 : Class := { plain "java/lang/System" (some 0) with
  accessFlags := 49
  interfaces := #[]
  cf := some (fileOf pool5 8 #[.nestMembers #[319, 327, 801, 108, 663, 208]] #[{ accessFlags := 2, nameIndex := 5, descriptorIndex := 6, attributes := #[] }, { accessFlags := 265, nameIndex := 727, descriptorIndex := 728, attributes := #[] }] 49 2 #[] #[{ accessFlags := 25, nameIndex := 507, descriptorIndex := 526, attributes := #[] }, { accessFlags := 25, nameIndex := 399, descriptorIndex := 155, attributes := #[] }, { accessFlags := 25, nameIndex := 396, descriptorIndex := 155, attributes := #[] }, { accessFlags := 10, nameIndex := 525, descriptorIndex := 526, attributes := #[] }, { accessFlags := 26, nameIndex := 674, descriptorIndex := 12, attributes := #[] }, { accessFlags := 26, nameIndex := 677, descriptorIndex := 12, attributes := #[] }, { accessFlags := 10, nameIndex := 11, descriptorIndex := 12, attributes := #[] }, { accessFlags := 74, nameIndex := 175, descriptorIndex := 176, attributes := #[] }, { accessFlags := 10, nameIndex := 491, descriptorIndex := 222, attributes := #[] }, { accessFlags := 74, nameIndex := 29, descriptorIndex := 30, attributes := #[] }, { accessFlags := 74, nameIndex := 154, descriptorIndex := 155, attributes := #[] }, { accessFlags := 10, nameIndex := 217, descriptorIndex := 218, attributes := #[] }, { accessFlags := 10, nameIndex := 221, descriptorIndex := 222, attributes := #[] }, { accessFlags := 8, nameIndex := 562, descriptorIndex := 563, attributes := #[] }])
  fields := #[{ name := "in", type := (.object "java/io/InputStream"), accessFlags := 25, slot := 0, constantValue := 0 }, { name := "out", type := (.object "java/io/PrintStream"), accessFlags := 25, slot := 1, constantValue := 0 }, { name := "err", type := (.object "java/io/PrintStream"), accessFlags := 25, slot := 2, constantValue := 0 }, { name := "initialIn", type := (.object "java/io/InputStream"), accessFlags := 10, slot := 3, constantValue := 0 }, { name := "NEVER", type := .int, accessFlags := 26, slot := 4, constantValue := 0 }, { name := "MAYBE", type := .int, accessFlags := 26, slot := 5, constantValue := 0 }, { name := "allowSecurityManager", type := .int, accessFlags := 10, slot := 6, constantValue := 0 }, { name := "security", type := (.object "java/lang/SecurityManager"), accessFlags := 74, slot := 7, constantValue := 0 }, { name := "notSupportedJnuEncoding", type := (.object "java/lang/String"), accessFlags := 10, slot := 8, constantValue := 0 }, { name := "cons", type := (.object "java/io/Console"), accessFlags := 74, slot := 9, constantValue := 0 }, { name := "initialErrStream", type := (.object "java/io/PrintStream"), accessFlags := 74, slot := 10, constantValue := 0 }, { name := "props", type := (.object "java/util/Properties"), accessFlags := 10, slot := 11, constantValue := 0 }, { name := "lineSeparator", type := (.object "java/lang/String"), accessFlags := 10, slot := 12, constantValue := 0 }, { name := "bootLayer", type := (.object "java/lang/ModuleLayer"), accessFlags := 8, slot := 13, constantValue := 0 }]
  methods := #[k5m0, k5m1]
  instanceTypes := #[]
  staticTypes := #[(.object "java/io/InputStream"), (.object "java/io/PrintStream"), (.object "java/io/PrintStream"), (.object "java/io/InputStream"), .int, .int, .int, (.object "java/lang/SecurityManager"), (.object "java/lang/String"), (.object "java/io/Console"), (.object "java/io/PrintStream"), (.object "java/util/Properties"), (.object "java/lang/String"), (.object "java/lang/ModuleLayer")]
  resolved := Array.replicate 834 none
  statics := none }

def pool6 : Array CpInfo := pool [(1, u "java/lang/Cloneable"), (0, .class_ 1), (0, u "java/lang/Object"), (0, .class_ 3)] 3

/-- java/lang/Cloneable -/
def k6 : Class := { plain "java/lang/Cloneable" (some 0) with
  accessFlags := 1537
  interfaces := #[]
  cf := some (fileOf pool6 2 #[] #[] 1537 4 #[] #[])
  fields := #[]
  methods := #[]
  instanceTypes := #[]
  staticTypes := #[]
  resolved := Array.replicate 8 none
  statics := none }

def pool7 : Array CpInfo := pool [(1, u "java/io/Serializable"), (0, .class_ 1), (0, u "java/lang/Object"), (0, .class_ 3)] 3

/-- java/io/Serializable -/
def k7 : Class := { plain "java/io/Serializable" (some 0) with
  accessFlags := 1537
  interfaces := #[]
  cf := some (fileOf pool7 2 #[] #[] 1537 4 #[] #[])
  fields := #[]
  methods := #[]
  instanceTypes := #[]
  staticTypes := #[]
  resolved := Array.replicate 8 none
  statics := none }

/-- the primitive byte -/
def k8 : Class := { plain "byte" none with kind := .primitive 'B', accessFlags := 0x411 }
/-- [B -/
def k9 : Class := { plain "[B" (some 0) with kind := .array 8 .byte, interfaces := #[6, 7], accessFlags := 1041 }

/-- the primitive int -/
def k10 : Class := { plain "int" none with kind := .primitive 'I', accessFlags := 0x411 }
/-- [I -/
def k11 : Class := { plain "[I" (some 0) with kind := .array 10 .int, interfaces := #[6, 7], accessFlags := 1041 }

/-- [L[I; -/
def k12 : Class := { plain "[[I" (some 0) with kind := .array 11 (.array .int), interfaces := #[6, 7], accessFlags := 1041 }

def heap : Heap := #[{ cls := 2, slots := #[.ref 2], vm := .statics 2 },
  { cls := 12, slots := #[.null], vm := .none },
  { cls := 11, slots := #[], vm := .none }]
def classes : Array Class := #[k0, k1, k2, k3, k4, k5, k6, k7, k8, k9, k10, k11, k12]
def interned : List (Array UInt16 × Addr) := []
def slotsUsed : Nat := 2
def theMethod : MethodId := ⟨1, 1⟩
def args0 : Array Value := #[.int 1, .int 2, .int 3, .int 4, .int 5, .int 6]
def aboutOver (below : List Frame) : State where
  vm := { classes := classes, interned := interned.toArray }
  heap := heap
  slotsUsed := slotsUsed
  threads := #[{ frames := .invoking theMethod args0 :: below }]
def below0 : List Frame := [.native { method := ⟨0, 0⟩, args := #[] }]
def about1 : State := aboutOver below0
def p0 : Program := .bare "" "" ""
def e0 : Env := launch0.env 0 0 0
theorem w_frames : about1.frames = Frame.invoking theMethod args0 :: below0 := rfl
set_option maxRecDepth 65536 in
theorem w_args : argsFit about1.vm theMethod args0 = true := by decide +kernel
set_option maxRecDepth 65536 in
theorem w_heap : heapFits about1 = true := by decide +kernel
set_option maxRecDepth 65536 in
theorem w_runnable : about1.curStatus? = some .runnable := by decide +kernel
set_option maxRecDepth 65536 in
theorem w_alone : about1.alone = true := by decide +kernel
set_option maxRecDepth 65536 in
theorem w_named : about1.methodNamed? x = some theMethod := by decide +kernel
set_option maxRecDepth 65536 in
theorem w_hears : about1.hears theMethod below0 = true := by decide +kernel
set_option maxRecDepth 65536 in
theorem w_ripe : about1.ripe theMethod args0 below0 = true := by decide +kernel
theorem w_running : about1.status = .running := rfl
set_option maxRecDepth 65536 in
theorem w_room : about1.hasRoom e0.platform room_1 = true :=
  launch0.hasRoom_least _ room_1 (by decide +kernel) (by decide +kernel) (by decide +kernel) (by decide +kernel) (by decide +kernel) (by decide +kernel)
theorem allAtoms_all (ts : List Jvm.Cond) (a : Array Jvm.Value) (st : Jvm.State) : (allAtoms ts).before a st = ts.all (fun c => c.before a st) := by
  induction ts with
  | nil => rfl
  | cons c t ih =>
    show (Jvm.Cond.and c (allAtoms t)).before a st = _
    rw [Jvm.Cond.before_and, ih, List.all_cons]
def words1 : List Jvm.Cond := Jvm.Cond.code x code maxLocals ret :: tables_1
/-- a 'code' word, met by the world's own term for the bytes: nothing is compared byte by byte -/
theorem code_word {y : MethodName} {bytes : ByteArray} {mx : Nat} {rt : Option FieldType} {a : Array Value} {s : State} {m : MethodId} {meth : Method} {c : Code} (h1 : s.methodNamed? y = some m) (h2 : s.vm.method? m = some meth) (h3 : meth.code = some c) (h4 : c.code = bytes)
    (h5 : (c.maxLocals == mx && c.exceptionTable.isEmpty && decide (c.maxStack ≤ mostOperands) && decide (meth.sig.returnType = rt) && !meth.locks && decide (parseMethodDescriptor y.desc = some meth.sig)) = true) : (Jvm.Cond.code y bytes mx rt).before a s = true := by
  simp only [Bool.and_eq_true, beq_iff_eq, Bool.not_eq_true', decide_eq_true_eq] at h5
  obtain ⟨⟨⟨⟨⟨g1, g2⟩, g3⟩, g4⟩, g5⟩, g6⟩ := h5
  simp [Cond.before, Cond.holds, Cond.value, h1, h2, h3, h4, g1, g2, g3, g4, g5, g6]
def isCode : Jvm.Cond → Bool
  | .code _ _ _ _ => true
  | _ => false
theorem all_split {L : List Jvm.Cond} {P : Jvm.Cond → Bool} (h1 : L.all (fun c => isCode c || P c) = true) (h2 : ∀ c ∈ L.filter isCode, P c = true) : L.all P = true := by
  refine List.all_eq_true.mpr fun c hc => ?_
  have h := List.all_eq_true.mp h1 c hc
  rcases Bool.eq_false_or_eq_true (isCode c) with hi | hi
  · exact h2 c (List.mem_filter.mpr ⟨hc, hi⟩)
  · simpa [hi] using h
set_option maxRecDepth 65536 in
theorem w_c0 : (Jvm.Cond.code x code maxLocals ret).before args0 about1 = true := code_word (m := ⟨1, 1⟩) (meth := k1m1) (c := k1c1) (by decide +kernel) rfl rfl rfl (by decide +kernel)
set_option maxRecDepth 65536 in
theorem w_c1 : (Jvm.Cond.code ({ cls := "cyclebreak/collector/ReferenceTable", name := "<init>", desc := "(I)V" } : Jvm.MethodName) prog_50_method_1_code (2 : Nat) (Option.none : Option Jvm.ClassFile.FieldType)).before args0 about1 = true := code_word (m := ⟨2, 0⟩) (meth := k2m0) (c := k2c0) (by decide +kernel) rfl rfl rfl (by decide +kernel)
set_option maxRecDepth 65536 in
theorem w_c2 : (Jvm.Cond.code ({ cls := "java/lang/Object", name := "<init>", desc := "()V" } : Jvm.MethodName) object_method_1_code (1 : Nat) (Option.none : Option Jvm.ClassFile.FieldType)).before args0 about1 = true := code_word (m := ⟨0, 0⟩) (meth := k0m0) (c := k0c0) (by decide +kernel) rfl rfl rfl (by decide +kernel)
set_option maxRecDepth 65536 in
theorem w_c3 : (Jvm.Cond.code ({ cls := "java/util/Arrays", name := "fill", desc := "([Ljava/lang/Object;Ljava/lang/Object;)V" } : Jvm.MethodName) jdk_65_method_117_code (4 : Nat) (Option.none : Option Jvm.ClassFile.FieldType)).before args0 about1 = true := code_word (m := ⟨3, 1⟩) (meth := k3m1) (c := k3c1) (by decide +kernel) rfl rfl rfl (by decide +kernel)
set_option maxRecDepth 65536 in
theorem w_c4 : (Jvm.Cond.code ({ cls := "cyclebreak/collector/ReferenceTable", name := "add", desc := "(II)V" } : Jvm.MethodName) prog_50_method_2_code (4 : Nat) (Option.none : Option Jvm.ClassFile.FieldType)).before args0 about1 = true := code_word (m := ⟨2, 1⟩) (meth := k2m1) (c := k2c1) (by decide +kernel) rfl rfl rfl (by decide +kernel)
set_option maxRecDepth 65536 in
theorem w_c5 : (Jvm.Cond.code ({ cls := "cyclebreak/collector/ReferenceTable", name := "grow", desc := "(I)I" } : Jvm.MethodName) prog_50_method_4_code (3 : Nat) (Option.some Jvm.ClassFile.FieldType.int)).before args0 about1 = true := code_word (m := ⟨2, 3⟩) (meth := k2m3) (c := k2c3) (by decide +kernel) rfl rfl rfl (by decide +kernel)
set_option maxRecDepth 65536 in
theorem w_c6 : (Jvm.Cond.code ({ cls := "java/lang/Math", name := "max", desc := "(II)I" } : Jvm.MethodName) jdk_29_method_65_code (2 : Nat) (Option.some Jvm.ClassFile.FieldType.int)).before args0 about1 = true := code_word (m := ⟨4, 1⟩) (meth := k4m1) (c := k4c1) (by decide +kernel) rfl rfl rfl (by decide +kernel)
set_option maxRecDepth 65536 in
theorem w_c7 : (Jvm.Cond.code ({ cls := "java/util/Arrays", name := "copyOf", desc := "([II)[I" } : Jvm.MethodName) jdk_65_method_123_code (3 : Nat) (Option.some (Jvm.ClassFile.FieldType.array Jvm.ClassFile.FieldType.int))).before args0 about1 = true := code_word (m := ⟨3, 2⟩) (meth := k3m2) (c := k3c2) (by decide +kernel) rfl rfl rfl (by decide +kernel)
set_option maxRecDepth 65536 in
theorem w_c8 : (Jvm.Cond.code ({ cls := "java/lang/Math", name := "min", desc := "(II)I" } : Jvm.MethodName) jdk_29_method_69_code (2 : Nat) (Option.some Jvm.ClassFile.FieldType.int)).before args0 about1 = true := code_word (m := ⟨4, 2⟩) (meth := k4m2) (c := k4c2) (by decide +kernel) rfl rfl rfl (by decide +kernel)
set_option maxRecDepth 65536 in
theorem w_c9 : (Jvm.Cond.code ({ cls := "cyclebreak/collector/ReferenceTable", name := "addFixed", desc := "(II)V" } : Jvm.MethodName) prog_50_method_3_code (5 : Nat) (Option.none : Option Jvm.ClassFile.FieldType)).before args0 about1 = true := code_word (m := ⟨2, 2⟩) (meth := k2m2) (c := k2c2) (by decide +kernel) rfl rfl rfl (by decide +kernel)
set_option maxRecDepth 65536 in
theorem w_c10 : (Jvm.Cond.code ({ cls := "cyclebreak/collector/ReferenceTable", name := "holds", desc := "(II)Z" } : Jvm.MethodName) prog_50_method_6_code (4 : Nat) (Option.some Jvm.ClassFile.FieldType.boolean)).before args0 about1 = true := code_word (m := ⟨2, 4⟩) (meth := k2m4) (c := k2c4) (by decide +kernel) rfl rfl rfl (by decide +kernel)
def codes1 : List Jvm.Cond := [Jvm.Cond.code x code maxLocals ret, Jvm.Cond.code ({ cls := "cyclebreak/collector/ReferenceTable", name := "<init>", desc := "(I)V" } : Jvm.MethodName) prog_50_method_1_code (2 : Nat) (Option.none : Option Jvm.ClassFile.FieldType), Jvm.Cond.code ({ cls := "java/lang/Object", name := "<init>", desc := "()V" } : Jvm.MethodName) object_method_1_code (1 : Nat) (Option.none : Option Jvm.ClassFile.FieldType), Jvm.Cond.code ({ cls := "java/util/Arrays", name := "fill", desc := "([Ljava/lang/Object;Ljava/lang/Object;)V" } : Jvm.MethodName) jdk_65_method_117_code (4 : Nat) (Option.none : Option Jvm.ClassFile.FieldType), Jvm.Cond.code ({ cls := "cyclebreak/collector/ReferenceTable", name := "add", desc := "(II)V" } : Jvm.MethodName) prog_50_method_2_code (4 : Nat) (Option.none : Option Jvm.ClassFile.FieldType), Jvm.Cond.code ({ cls := "cyclebreak/collector/ReferenceTable", name := "grow", desc := "(I)I" } : Jvm.MethodName) prog_50_method_4_code (3 : Nat) (Option.some Jvm.ClassFile.FieldType.int), Jvm.Cond.code ({ cls := "java/lang/Math", name := "max", desc := "(II)I" } : Jvm.MethodName) jdk_29_method_65_code (2 : Nat) (Option.some Jvm.ClassFile.FieldType.int), Jvm.Cond.code ({ cls := "java/util/Arrays", name := "copyOf", desc := "([II)[I" } : Jvm.MethodName) jdk_65_method_123_code (3 : Nat) (Option.some (Jvm.ClassFile.FieldType.array Jvm.ClassFile.FieldType.int)), Jvm.Cond.code ({ cls := "java/lang/Math", name := "min", desc := "(II)I" } : Jvm.MethodName) jdk_29_method_69_code (2 : Nat) (Option.some Jvm.ClassFile.FieldType.int), Jvm.Cond.code ({ cls := "cyclebreak/collector/ReferenceTable", name := "addFixed", desc := "(II)V" } : Jvm.MethodName) prog_50_method_3_code (5 : Nat) (Option.none : Option Jvm.ClassFile.FieldType), Jvm.Cond.code ({ cls := "cyclebreak/collector/ReferenceTable", name := "holds", desc := "(II)Z" } : Jvm.MethodName) prog_50_method_6_code (4 : Nat) (Option.some Jvm.ClassFile.FieldType.boolean)]
set_option maxRecDepth 65536 in
theorem codes_eq : words1.filter isCode = codes1 := rfl
theorem w_codes : ∀ c ∈ words1.filter isCode, c.before args0 about1 = true := by
  rw [codes_eq]
  intro c hc
  simp only [codes1, List.mem_cons, List.not_mem_nil, or_false] at hc
  rcases hc with rfl | rfl | rfl | rfl | rfl | rfl | rfl | rfl | rfl | rfl | rfl
  · exact w_c0
  · exact w_c1
  · exact w_c2
  · exact w_c3
  · exact w_c4
  · exact w_c5
  · exact w_c6
  · exact w_c7
  · exact w_c8
  · exact w_c9
  · exact w_c10
set_option maxRecDepth 65536 in
theorem w_t1 : (words1.take 24).all (fun c => isCode c || c.before args0 about1) = true := by decide +kernel
set_option maxRecDepth 65536 in
theorem w_t2 : ((words1.drop 24).take 24).all (fun c => isCode c || c.before args0 about1) = true := by decide +kernel
set_option maxRecDepth 65536 in
theorem w_t3 : ((words1.drop 24).drop 24).all (fun c => isCode c || c.before args0 about1) = true := by decide +kernel
theorem w_tables : (allAtoms (Jvm.Cond.code x code maxLocals ret :: tables_1)).before args0 about1 = true := by
  rw [allAtoms_all]
  show words1.all (fun c => c.before args0 about1) = true
  refine all_split ?_ w_codes
  rw [← List.take_append_drop 24 words1, List.all_append, w_t1, ← List.take_append_drop 24 (words1.drop 24), List.all_append, w_t2, w_t3]
  rfl
set_option maxRecDepth 65536 in
theorem w_case : (Jvm.Cond.and given_1 narrow_1).before args0 about1 = true := by decide +kernel
theorem w_applies : (headSpec (Jvm.Cond.code x code maxLocals ret :: tables_1) room_1).applies x e0.platform about1 = true :=
  (Spec.applies_iff w_frames).mpr ⟨w_running, w_runnable, w_alone, w_named, w_hears, w_ripe, w_room, w_tables⟩
theorem atStart : AtStart classFile x code maxLocals ret World_1 tables_1 room_1 Calls_1 rest_1 Pre_1 launch0 p0 e0 about1 theMethod args0 below0 :=
  ⟨lists_1, trivial, launch0.admits_env _ _ _, launch0.least_env, fairChoices_fair.cas, fairChoices_fair.clock, w_frames, w_args, w_heap, w_applies, trivial, trivial, w_case⟩
end start1
theorem witness_1 : WitnessClaimed_1 := ⟨start1.p0, start1.e0, start1.about1, start1.theMethod, start1.args0, start1.below0, start1.atStart⟩
end Jvm.Pilot.@@N@@
