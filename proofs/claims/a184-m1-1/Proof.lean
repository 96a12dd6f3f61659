import JvmDerived
import JvmDerived.Pilot.@@N@@Statement
import JvmDerived.Pilot.@@N@@Code
set_option linter.unusedVariables false
set_option linter.unusedSimpArgs false
namespace Jvm.Pilot.@@N@@
open Jvm Jvm.ClassFile Sem Op Lib Jvm.Free Jvm.Stand Jvm.LawKit Jvm.RoadKit Bundle Jvm.Pilot.@@N@@.Jvm.D
/-! A walk in the backward style: 'own_Goes K T g': from the frame g over T the run comes to an end of which K holds. -/
def own_Goes (p : Program) (e : Env) (below : List Frame) (K : Outcome → State → Prop) (T : State) (g : JFrame) : Prop :=
  ∃ s₂ o, Steps p.tables e below (T.setTop g) s₂ ∧ s₂.status = .running ∧ Ended s₂ below o ∧ K o s₂
def own_K (Q : Option Value → Heap → List Loc → Prop) (U : State) (C S : Nat) : Outcome → State → Prop :=
  fun o U' => ∃ v L, o = .returned v ∧ Q v U'.heap L ∧ FrameEnd U o U' L C S
section OwnKit
variable {p : Program} {l : Launch} {e : Env} {R : Room} {s : State} {m : MethodId} {args : Array Value} {below : List Frame} {meth : Method} {c : Code} {T T' : State} {locs : List Loc} {cells slots : Nat} {Z : State} {a0 : Array Value} {h : Heap} {K : Outcome → State → Prop} {Q : Option Value → Heap → List Loc → Prop} {C S : Nat}
theorem own_by {g g' : JFrame} (st : ∀ t, Steps p.tables e below (T'.setTop g') t → Steps p.tables e below (T.setTop g) t) (k : own_Goes p e below K T' g') : own_Goes p e below K T g := by
  obtain ⟨s₂, o, h1, r⟩ := k
  exact ⟨s₂, o, st _ h1, r⟩
theorem own_retN (X : Stand p l e R s m args below meth c T locs cells slots) (hx : p.tables.exec = Jvm.exec) {pc : Nat} {Ls : Array Slot} {z : Int32} {t : FieldType} {rest : List Value} (hret : meth.sig.returnType = some t) (hlocks : meth.locks = false) (ht : t = .boolean ∨ t = .byte ∨ t = .char ∨ t = .short)
    (hd : decode c.code pc = .ok (.ireturn, 1)) (hc : cells ≤ C) (hs : slots ≤ S) {v : Int32} (hv : nar t z = v) (q : Q (some (.int v)) T.heap locs) : own_Goes p e below (own_K Q s C S) T (mkF m pc Ls (.int z :: rest)) := by
  subst hv
  obtain ⟨fs, hr, hrun, hended, hW, hsame⟩ := X.leave (v := some (.int (nar t z))) (fun h => by rw [hret] at h; cases h) hlocks
  exact ⟨_, _, retN X hx hret ht hd hr, hrun, hended, _, _, rfl, q, ⟨_, rfl⟩, hW, hsame.mono hc hs⟩
theorem own_retV (X : Stand p l e R s m args below meth c T locs cells slots) (hx : p.tables.exec = Jvm.exec) {pc : Nat} {Ls : Array Slot} {w : Value} {t : FieldType} {i : Instr} {rest : List Value} (hret : meth.sig.returnType = some t) (hlocks : meth.locks = false) (hn : narrow t w = w)
    (hi : (i = .ireturn ∧ (t = .int ∨ t = .boolean ∨ t = .byte ∨ t = .char ∨ t = .short) ∧ ∃ z, w = .int z) ∨ (i = .lreturn ∧ t = .long ∧ ∃ z, w = .long z) ∨ (i = .dreturn ∧ t = .double ∧ ∃ z, w = .double z) ∨ (i = .freturn ∧ t = .float ∧ ∃ z, w = .float z) ∨ (i = .areturn ∧ t.isReference = true ∧ w.isRef = true))
    (hd : decode c.code pc = .ok (i, 1)) (hc : cells ≤ C) (hs : slots ≤ S) (q : Q (some w) T.heap locs) : own_Goes p e below (own_K Q s C S) T (mkF m pc Ls (w :: rest)) := by
  obtain ⟨fs, hr, hrun, hended, hW, hsame⟩ := X.leave (v := some w) (fun h => by rw [hret] at h; cases h) hlocks
  exact ⟨_, _, retOut X hx hret hn hi hd hr, hrun, hended, _, _, rfl, q, ⟨_, rfl⟩, hW, hsame.mono hc hs⟩
theorem own_retI (X : Stand p l e R s m args below meth c T locs cells slots) (hx : p.tables.exec = Jvm.exec) {pc : Nat} {Ls : Array Slot} {z : Int32} {rest : List Value} (hret : meth.sig.returnType = some .int) (hlocks : meth.locks = false)
    (hd : decode c.code pc = .ok (.ireturn, 1)) (hc : cells ≤ C) (hs : slots ≤ S) (q : Q (some (.int z)) T.heap locs) : own_Goes p e below (own_K Q s C S) T (mkF m pc Ls (.int z :: rest)) :=
  own_retV X hx hret hlocks rfl (Or.inl ⟨rfl, Or.inl rfl, z, rfl⟩) hd hc hs q
theorem own_retJ (X : Stand p l e R s m args below meth c T locs cells slots) (hx : p.tables.exec = Jvm.exec) {pc : Nat} {Ls : Array Slot} {z : Int64} {rest : List Value} (hret : meth.sig.returnType = some .long) (hlocks : meth.locks = false)
    (hd : decode c.code pc = .ok (.lreturn, 1)) (hc : cells ≤ C) (hs : slots ≤ S) (q : Q (some (.long z)) T.heap locs) : own_Goes p e below (own_K Q s C S) T (mkF m pc Ls (.long z :: rest)) :=
  own_retV X hx hret hlocks rfl (Or.inr (Or.inl ⟨rfl, rfl, z, rfl⟩)) hd hc hs q
theorem own_retR (X : Stand p l e R s m args below meth c T locs cells slots) (hx : p.tables.exec = Jvm.exec) {pc : Nat} {Ls : Array Slot} {w : Value} {t : FieldType} {rest : List Value} (hret : meth.sig.returnType = some t) (hlocks : meth.locks = false) (ht : t.isReference = true) (hw : w.isRef = true)
    (hd : decode c.code pc = .ok (.areturn, 1)) (hc : cells ≤ C) (hs : slots ≤ S) (q : Q (some w) T.heap locs) : own_Goes p e below (own_K Q s C S) T (mkF m pc Ls (w :: rest)) :=
  own_retV X hx hret hlocks (by cases t <;> first | (cases ht; done) | (cases w <;> rfl)) (Or.inr (Or.inr (Or.inr (Or.inr ⟨rfl, ht, hw⟩)))) hd hc hs q
theorem own_ret0 (X : Stand p l e R s m args below meth c T locs cells slots) (hx : p.tables.exec = Jvm.exec) {pc : Nat} {Ls : Array Slot} (hret : meth.sig.returnType = none) (hlocks : meth.locks = false)
    (hd : decode c.code pc = .ok (.return_, 1)) (hc : cells ≤ C) (hs : slots ≤ S) (q : Q none T.heap locs) : own_Goes p e below (own_K Q s C S) T (mkF m pc Ls []) := by
  obtain ⟨fs, hr, hrun, hended, hW, hsame⟩ := X.leave (v := none) (fun _ => rfl) hlocks
  exact ⟨_, _, X.returnOut hx hret hd hr, hrun, hended, _, _, rfl, q, ⟨_, rfl⟩, hW, hsame.mono hc hs⟩
theorem own_lrem {g : JFrame} {target : State} (X : Stand p l e R s m args below meth c T locs cells slots) (hx : p.tables.exec = Jvm.exec) (hg : g.method = m) {x y : Int64} {rest : List Value} (hd : decode c.code g.pc = .ok (.lrem, 1)) (hs : g.stack = .long y :: .long x :: rest) (hy : y ≠ 0)
    (hr : Steps p.tables e below (T.setTop { g with pc := g.pc + 1, stack := .long (x % y) :: rest }) target) : Steps p.tables e below (T.setTop g) target := by
  have q : x - x / y * y = x % y := lrem_mod x y
  exact XS.lrem X.here hx hg hd hs hy (by rw [q]; exact hr)
/-- what a callee's theorem says -/
abbrev own_Met (l : Launch) (Z : State) (y : MethodName) (bytes : ByteArray) (maxL : Nat) (ret : Option FieldType) (rm : Room) (as' : Array Value) (h : Heap) (Q : Option Value → Heap → List Loc → Prop) : Prop :=
  MetFree l y (head1 [Cond.code y bytes maxL ret] rm) (fun a U => a = as' ∧ Z.Warmed39 U.vm ∧ U.heap = h) (fun _ _ _ _ _ => True) (fun _ U o U' => ∃ v L, o = .returned v ∧ Q v U'.heap L ∧ FrameEnd U o U' L rm.cells rm.slots)
theorem own_callS (X : Stand p l e R s m args below meth c T locs cells slots) (hx : p.tables.exec = Jvm.exec) (hZ : Z.Warmed39 s.vm) {own : String} {index : Nat} {y : MethodName} {bytes : ByteArray} {maxL : Nat} {ret : Option FieldType}
    (hown : s.vm.findClass own = some m.cls) (w1 : (Cond.methodLink own index y).before a0 Z = true) (w2 : (Cond.static y).before a0 Z = true) (w3 : (Cond.initialized y.cls).before a0 Z = true) (w4 : (Cond.code y bytes maxL ret).before a0 Z = true) (hy : y.cls ≠ "java/lang/invoke/MethodHandle" ∧ y.cls ≠ "java/lang/invoke/VarHandle")
    {rm : Room} {argsL rest : List Value} (hM : own_Met l Z y bytes maxL ret rm argsL.toArray h Q) (eT : T.heap = h) {W : Nat} (hf : rm.frames + 1 ≤ R.frames) (hl : W + (maxL + 11) + rm.locals ≤ R.locals) (hc : cells + rm.cells ≤ R.cells) (hs : slots + rm.slots ≤ R.slots)
    {g : JFrame} (hg : g.method = m) (hsize : g.locals.size = c.maxLocals) (hlen : ∀ sig, parseMethodDescriptor y.desc = some sig → argsL.length = sig.parameters.length)
    (hstack : g.stack = argsL.reverse ++ rest) (hW : 2 * g.monitorRoom + (rest.map fun v => v.category).sum ≤ W) (hdg : decode c.code g.pc = .ok (.invokestatic index, 3)) :
    ∃ (v : Option Value) (T' : State) (L : List Loc), Stand p l e R s m args below meth c T' (locs ++ L) (cells + rm.cells) (slots + rm.slots) ∧ Q v T'.heap L ∧ ∀ K, own_Goes p e below K T' { g with pc := g.pc + 3, stack := v.toList ++ rest } → own_Goes p e below K T g := by
  obtain ⟨v, vm₁, ⟨T', L', k', n'⟩, -, X', ⟨L, hQ, l1, l2, l3⟩, st⟩ := Jvm.LawKit.callS X hx hown (mvT hZ w1) (mvT hZ w2) (mvT hZ w3) (mvT hZ w4) hy (backOf (W := W) hM hZ w4 w3 hf hl) hg hsize hlen hstack hW hdg (fun _ _ => ⟨rfl, eT, hc, hs⟩)
  dsimp only [Pt.U, Pt.locs, Pt.cells, Pt.slots] at X' l1 l2 l3 st hQ
  subst l1 l2 l3
  exact ⟨v, T', L, X', hQ, fun K k => own_by st k⟩
theorem own_callI (X : Stand p l e R s m args below meth c T locs cells slots) (hx : p.tables.exec = Jvm.exec) (hZ : Z.Warmed39 s.vm) {own : String} {index : Nat} {y : MethodName} {bytes : ByteArray} {maxL : Nat} (hy1 : y.name = "<init>")
    (hown : s.vm.findClass own = some m.cls) (w1 : (Cond.methodLink own index y).before a0 Z = true) (w2 : (Cond.instanceMethod y).before a0 Z = true) (w3 : (Cond.initialized y.cls).before a0 Z = true) (w4 : (Cond.code y bytes maxL none).before a0 Z = true) (hy : y.cls ≠ "java/lang/invoke/MethodHandle" ∧ y.cls ≠ "java/lang/invoke/VarHandle")
    {rm : Room} {a : Addr} {argsL rest : List Value} (hM : own_Met l Z y bytes maxL none rm (.ref a :: argsL).toArray h Q) (eT : T.heap = h) {W : Nat} (hf : rm.frames + 1 ≤ R.frames) (hl : W + (maxL + 11) + rm.locals ≤ R.locals) (hc : cells + rm.cells ≤ R.cells) (hs : slots + rm.slots ≤ R.slots)
    {g : JFrame} (hg : g.method = m) (hsize : g.locals.size = c.maxLocals) (hlen : ∀ sig, parseMethodDescriptor y.desc = some sig → argsL.length = sig.parameters.length)
    (hstack : g.stack = argsL.reverse ++ .ref a :: rest) (hW : 2 * g.monitorRoom + (rest.map fun v => v.category).sum ≤ W) (hdg : decode c.code g.pc = .ok (.invokespecial index, 3)) :
    ∃ (v : Option Value) (T' : State) (L : List Loc), Stand p l e R s m args below meth c T' (locs ++ L) (cells + rm.cells) (slots + rm.slots) ∧ Q v T'.heap L ∧ ∀ K, own_Goes p e below K T' { g with pc := g.pc + 3, stack := v.toList ++ rest } → own_Goes p e below K T g := by
  obtain ⟨v, vm₁, ⟨T', L', k', n'⟩, -, X', ⟨L, hQ, l1, l2, l3⟩, st⟩ := X.specialBack hx hy1 hown (mvT hZ w1) (mvT hZ w2) (mvT hZ w4) hy (backOf (W := W) hM hZ w4 w3 hf hl) hg hsize (Steps.refl _) hlen hstack hW hdg (fun _ _ => ⟨rfl, eT, hc, hs⟩)
  dsimp only [Pt.U, Pt.locs, Pt.cells, Pt.slots] at X' l1 l2 l3 st hQ
  subst l1 l2 l3
  exact ⟨v, T', L, X', hQ, fun K k => own_by (fun t k => st.trans k) k⟩
theorem own_callV (X : Stand p l e R s m args below meth c T locs cells slots) (hx : p.tables.exec = Jvm.exec) (hZ : Z.Warmed39 s.vm) {own C : String} {index : Nat} {y : MethodName} {bytes : ByteArray} {maxL : Nat} {ret : Option FieldType}
    (hown : s.vm.findClass own = some m.cls) (w1 : (Cond.methodLink own index y).before a0 Z = true) (w5 : (Cond.declares y).before a0 Z = true) (w6 : (Cond.selects C y y).before a0 Z = true) (w2 : (Cond.instanceMethod y).before a0 Z = true) (w3 : (Cond.initialized y.cls).before a0 Z = true) (w4 : (Cond.code y bytes maxL ret).before a0 Z = true) (hy : y.cls ≠ "java/lang/invoke/MethodHandle" ∧ y.cls ≠ "java/lang/invoke/VarHandle")
    {rm : Room} {a : Addr} {argsL rest : List Value} (E : Exa Z h a C) (hM : own_Met l Z y bytes maxL ret rm (.ref a :: argsL).toArray h Q) (eT : T.heap = h) {W : Nat} (hf : rm.frames + 1 ≤ R.frames) (hl : W + (maxL + 11) + rm.locals ≤ R.locals) (hc : cells + rm.cells ≤ R.cells) (hs : slots + rm.slots ≤ R.slots)
    {g : JFrame} (hg : g.method = m) (hsize : g.locals.size = c.maxLocals) (hlen : ∀ sig, parseMethodDescriptor y.desc = some sig → argsL.length = sig.parameters.length)
    (hstack : g.stack = argsL.reverse ++ .ref a :: rest) (hW : 2 * g.monitorRoom + (rest.map fun v => v.category).sum ≤ W) (hdg : decode c.code g.pc = .ok (.invokevirtual index, 3)) :
    ∃ (v : Option Value) (T' : State) (L : List Loc), Stand p l e R s m args below meth c T' (locs ++ L) (cells + rm.cells) (slots + rm.slots) ∧ Q v T'.heap L ∧ ∀ K, own_Goes p e below K T' { g with pc := g.pc + 3, stack := v.toList ++ rest } → own_Goes p e below K T g := by
  obtain ⟨cB, kB, q1, q2, q3⟩ := isOf hZ eT E
  obtain ⟨v, vm₁, ⟨T', L', k', n'⟩, -, X', ⟨L, hQ, l1, l2, l3⟩, st⟩ := X.virtualBack hx hown (mvT hZ w1) (mvT hZ w5) (notFace_of_selects (args := #[]) (mvT hZ w6)) (mvT hZ w6) (mvT hZ w2) hy (backOf (W := W) hM hZ w4 w3 hf hl) q1 q3 hg hsize (Steps.refl _) hlen hstack hW hdg (fun _ _ => ⟨rfl, eT, hc, hs⟩)
  dsimp only [Pt.U, Pt.locs, Pt.cells, Pt.slots] at X' l1 l2 l3 st hQ
  subst l1 l2 l3
  exact ⟨v, T', L, X', hQ, fun K k => own_by (fun t k => st.trans k) k⟩
theorem own_callPv (X : Stand p l e R s m args below meth c T locs cells slots) (hx : p.tables.exec = Jvm.exec) (hZ : Z.Warmed39 s.vm) {own C : String} {index : Nat} {y : MethodName} {bytes : ByteArray} {maxL : Nat} {ret : Option FieldType}
    (hown : s.vm.findClass own = some m.cls) (w1 : (Cond.methodLink own index y).before a0 Z = true) (w6 : (Cond.selects y.cls y y).before a0 Z = true) (w2 : (Cond.instanceMethod y).before a0 Z = true) (w7 : (Cond.privateMethod y).before a0 Z = true) (w3 : (Cond.initialized y.cls).before a0 Z = true) (w4 : (Cond.code y bytes maxL ret).before a0 Z = true) (hy : y.cls ≠ "java/lang/invoke/MethodHandle" ∧ y.cls ≠ "java/lang/invoke/VarHandle")
    {rm : Room} {a : Addr} {argsL rest : List Value} (E : Exa Z h a C) (hM : own_Met l Z y bytes maxL ret rm (.ref a :: argsL).toArray h Q) (eT : T.heap = h) {W : Nat} (hf : rm.frames + 1 ≤ R.frames) (hl : W + (maxL + 11) + rm.locals ≤ R.locals) (hc : cells + rm.cells ≤ R.cells) (hs : slots + rm.slots ≤ R.slots)
    {g : JFrame} (hg : g.method = m) (hsize : g.locals.size = c.maxLocals) (hlen : ∀ sig, parseMethodDescriptor y.desc = some sig → argsL.length = sig.parameters.length)
    (hstack : g.stack = argsL.reverse ++ .ref a :: rest) (hW : 2 * g.monitorRoom + (rest.map fun v => v.category).sum ≤ W) (hdg : decode c.code g.pc = .ok (.invokevirtual index, 3)) :
    ∃ (v : Option Value) (T' : State) (L : List Loc), Stand p l e R s m args below meth c T' (locs ++ L) (cells + rm.cells) (slots + rm.slots) ∧ Q v T'.heap L ∧ ∀ K, own_Goes p e below K T' { g with pc := g.pc + 3, stack := v.toList ++ rest } → own_Goes p e below K T g := by
  obtain ⟨cq, q1, q2⟩ := E.cell
  obtain ⟨v, vm₁, ⟨T', L', k', n'⟩, -, X', ⟨L, hQ, l1, l2, l3⟩, st⟩ := X.privateBack hx hown (mvT hZ w1) (mvT hZ w2) (mvT hZ w6) (Cond.privateMethod_at (mvP hZ w7 (args := #[]))) (mvT hZ w4) hy (backOf (W := W) hM hZ w4 w3 hf hl) hg hsize (Steps.refl _) (by rw [eT]; exact q1) q2 hlen hstack hW hdg (fun _ _ => ⟨rfl, eT, hc, hs⟩)
  dsimp only [Pt.U, Pt.locs, Pt.cells, Pt.slots] at X' l1 l2 l3 st hQ
  subst l1 l2 l3
  exact ⟨v, T', L, X', hQ, fun K k => own_by (fun t k => st.trans k) k⟩
theorem own_Sta_keep {h' : Heap} {ws : List Addr} {O n d : String} {v : Value} (F : Sta Z h O n d v) (K : Keep h h' ws) (q : ∀ a ∈ ws, ∀ cell : Cell, h[a]? = some cell → cell.vm.isStatics = false) : Sta Z h' O n d v := by
  obtain ⟨cf, i, k, f, st, cell, h1, h2, h3, h4, h5, h6, h7⟩ := F
  refine ⟨cf, i, k, f, st, cell, h1, h2, h3, h4, K.2.1 st cell h5 (fun y => ?_), h6, h7⟩
  rw [q st y cell h5] at h6; cases h6
theorem own_selp {y : MethodName} {k : Nat} (w7 : (Cond.privateMethod y).before a0 Z = true) (w2 : (Cond.instanceMethod y).before a0 Z = true) (wi : (Cond.instantiable y.cls k).before a0 Z = true) (hy : y.cls ≠ "java/lang/invoke/MethodHandle" ∧ y.cls ≠ "java/lang/invoke/VarHandle") : (Cond.selects y.cls y y).before a0 Z = true := by
  obtain ⟨c, k, i1, i2, i3, i4, -⟩ := Cond.instantiable_spec wi
  rw [Bool.or_eq_false_iff] at i4
  exact Jvm.Stand.selects_self_of_private i1 i2 i4.1 (Cond.privateMethod_at w7) w2 hy
end OwnKit
theorem own_fI {s : State} {args : Array Value} {t : Term} {O n d : String} {a : Addr} {k : Int32} (ht : t.eval args s none [] s = some (.ref a)) (h : (Jvm.Cond.eq (.field t O n d) (.int k)).value args s none s [] = some true) : Fld s s.heap a O n d (.int k) := by
  obtain ⟨x, y, e1, e2, k1, k2⟩ := cmp_v (Or.inl h)
  cases e2
  obtain ⟨z, rfl⟩ := k2
  have e3 : (Term.int k).eval args s none [] s = some (.int k) := rfl
  have q : z = k := by simpa [Cond.value, e1, e3] using h
  subst q
  exact Fld.start (by rw [← fld_at ht]; exact e1)
theorem own_fN {s : State} {args : Array Value} {t : Term} {O n d : String} {a : Addr} (ht : t.eval args s none [] s = some (.ref a)) (h : (Jvm.Cond.eq (.field t O n d) .null).value args s none s [] = some true) : Fld s s.heap a O n d .null :=
  Fld.start (by rw [← fld_at ht]; exact null_v h)
theorem own_fR {s : State} {args : Array Value} {t u : Term} {O n d : String} {a b : Addr} (ht : t.eval args s none [] s = some (.ref a)) (hu : u.eval args s none [] s = some (.ref b)) (h : (Jvm.Cond.eq (.field t O n d) u).value args s none s [] = some true) : Fld s s.heap a O n d (.ref b) := by
  obtain ⟨x, y, e1, e2, k1, k2⟩ := cmp_v (Or.inl h)
  cases hu.symm.trans e2
  have q : x = .ref b := by
    rcases ref_cases k2.2 with rfl | ⟨z, rfl⟩
    · simp [Cond.value, e1, e2] at h
    · simp [Cond.value, e1, e2] at h; rw [h]
  subst q
  exact Fld.start (by rw [← fld_at ht]; exact e1)
theorem own_kk (q : Int32) : (q &&& (3 : Int32)) = (0 : Int32) ∨ (q &&& (3 : Int32)) = (1 : Int32) ∨ (q &&& (3 : Int32)) = (2 : Int32) ∨ (q &&& (3 : Int32)) = (3 : Int32) := by
  have e := c_mask q 3 2 (by decide) (by decide)
  have l1 := Int.emod_nonneg q.toInt (show ((2 ^ 2 : Nat) : Int) ≠ 0 by decide)
  have l2 := Int.emod_lt_of_pos q.toInt (show (0 : Int) < ((2 ^ 2 : Nat) : Int) by decide)
  simp only [← Int32.toInt_inj]
  rw [e]
  simp only [show (0 : Int32).toInt = 0 from rfl, show (1 : Int32).toInt = 1 from rfl, show (2 : Int32).toInt = 2 from rfl, show (3 : Int32).toInt = 3 from rfl]
  omega
theorem own_d_pick_0 : decode method_2_code 0 = .ok (.iload_n 0, 1) := by decide +kernel
theorem own_d_pick_1 : decode method_2_code 1 = .ok (.ifCond .ne 7, 3) := by decide +kernel
theorem own_d_pick_4 : decode method_2_code 4 = .ok (.getstatic 7, 3) := by decide +kernel
theorem own_d_pick_7 : decode method_2_code 7 = .ok (.areturn, 1) := by decide +kernel
theorem own_d_pick_8 : decode method_2_code 8 = .ok (.iload_n 0, 1) := by decide +kernel
theorem own_d_pick_9 : decode method_2_code 9 = .ok (.iconst 1, 1) := by decide +kernel
theorem own_d_pick_10 : decode method_2_code 10 = .ok (.if_icmp .ne 7, 3) := by decide +kernel
theorem own_d_pick_13 : decode method_2_code 13 = .ok (.getstatic 13, 3) := by decide +kernel
theorem own_d_pick_16 : decode method_2_code 16 = .ok (.areturn, 1) := by decide +kernel
theorem own_d_pick_17 : decode method_2_code 17 = .ok (.iload_n 0, 1) := by decide +kernel
theorem own_d_pick_18 : decode method_2_code 18 = .ok (.iconst 2, 1) := by decide +kernel
theorem own_d_pick_19 : decode method_2_code 19 = .ok (.if_icmp .ne 7, 3) := by decide +kernel
theorem own_d_pick_22 : decode method_2_code 22 = .ok (.getstatic 16, 3) := by decide +kernel
theorem own_d_pick_25 : decode method_2_code 25 = .ok (.areturn, 1) := by decide +kernel
theorem own_d_pick_26 : decode method_2_code 26 = .ok (.getstatic 19, 3) := by decide +kernel
theorem own_d_pick_29 : decode method_2_code 29 = .ok (.areturn, 1) := by decide +kernel
theorem own_pn_com_example_rowgate_rowgate_KindMarksCellsPinLaw : plainName "com/example/rowgate/rowgate/KindMarksCellsPinLaw" = true := by first | (simp [plainName, overriddenIn]; done) | decide +kernel
theorem own_ef_pick (m : MethodId) (k : Int32) : entryFrame m #[(.int k)] 1 = mkF m 0 #[.val (.int k)] [] := by first | (simp [entryFrame, mkF, argsToLocals, Value.category]; done) | rfl
def own_Q_pick (Z : State) (k : Int32) (a_PUT : Addr) (a_DELETE : Addr) (a_APPEND : Addr) (a_MUTATE : Addr) (h0 : Heap) (n0 : Nat) (v : Option Value) (h : Heap) (L : List Loc) : Prop := v = some (.ref (if k = (0 : Int32) then a_PUT else (if k = (1 : Int32) then a_DELETE else (if k = (2 : Int32) then a_APPEND else a_MUTATE)))) ∧ Fr n0 L ∧ h = h0
set_option maxRecDepth 65536 in
set_option maxHeartbeats 40000000 in
theorem own_rm_pick (l : Launch) (Z : State) (a0 : Array Value) (hw : ∀ d ∈ tables_1, d.before a0 Z = true) (ws : List Jvm.Cond) (k : Int32) (a_PUT : Addr) (a_DELETE : Addr) (a_APPEND : Addr) (a_MUTATE : Addr) (h0 : Heap) (n0 : Nat) (Z0 : n0 ≤ h0.size) (S_PUT : Sta Z h0 "com/example/rowgate/rowgate/Edit$Kind" "PUT" "Lcom/example/rowgate/rowgate/Edit$Kind;" (.ref a_PUT)) (S_DELETE : Sta Z h0 "com/example/rowgate/rowgate/Edit$Kind" "DELETE" "Lcom/example/rowgate/rowgate/Edit$Kind;" (.ref a_DELETE)) (S_APPEND : Sta Z h0 "com/example/rowgate/rowgate/Edit$Kind" "APPEND" "Lcom/example/rowgate/rowgate/Edit$Kind;" (.ref a_APPEND)) (S_MUTATE : Sta Z h0 "com/example/rowgate/rowgate/Edit$Kind" "MUTATE" "Lcom/example/rowgate/rowgate/Edit$Kind;" (.ref a_MUTATE)) :
    MetFree l (⟨"com/example/rowgate/rowgate/KindMarksCellsPinLaw", "kindOf", "(I)Lcom/example/rowgate/rowgate/Edit$Kind;"⟩ : MethodName) (head1 (Jvm.Cond.code (⟨"com/example/rowgate/rowgate/KindMarksCellsPinLaw", "kindOf", "(I)Lcom/example/rowgate/rowgate/Edit$Kind;"⟩ : MethodName) method_2_code 1 (some (.object "com/example/rowgate/rowgate/Edit$Kind")) :: ws) ({ frames := 0, cells := 0, slots := 0, locals := 0 } : Room)) (fun a_ U_ => a_ = #[(.int k)] ∧ Z.Warmed39 U_.vm ∧ U_.heap = h0) (fun _ _ _ _ _ => True) (fun _ U_ o_ U'_ => ∃ v_ L_, o_ = .returned v_ ∧ own_Q_pick Z k a_PUT a_DELETE a_APPEND a_MUTATE h0 n0 v_ U'_.heap L_ ∧ FrameEnd U_ o_ U'_ L_ ({ frames := 0, cells := 0, slots := 0, locals := 0 } : Room).cells ({ frames := 0, cells := 0, slots := 0, locals := 0 } : Room).slots) := by
  refine MetFree.of_bodySF (plainFor_of_name own_pn_com_example_rowgate_rowgate_KindMarksCellsPinLaw) hisR ?_
  intro p e s m args below meth c s₁ Bd hml0 hP hK
  obtain ⟨rfl, hZ, hh⟩ := hP
  have hx := Bd.exec
  have hby := Bd.bytes
  have hlk : meth.locks = false := BodyLoose.notSynchronized Bd
  have hml : c.maxLocals = 1 := hml0
  have hown : s.vm.findClass "com/example/rowgate/rowgate/KindMarksCellsPinLaw" = some m.cls := findClass_of_methodNamed Bd.named
  have hnm := (name_of_methodNamed Bd.named Bd.method).1
  have X0 : Stand p l e ({ frames := 0, cells := 0, slots := 0, locals := 0 } : Room) s m #[(.int k)] below meth c s₁ [] 0 0 := Stand.of_body Bd
  have e0 : s₁.heap = h0 := by rw [← hh, Bd.state]; rfl
  have N0 := Fr.nil n0
  show own_Goes p e below (own_K (own_Q_pick Z k a_PUT a_DELETE a_APPEND a_MUTATE h0 n0) s ({ frames := 0, cells := 0, slots := 0, locals := 0 } : Room).cells ({ frames := 0, cells := 0, slots := 0, locals := 0 } : Room).slots) s₁ (entryFrame m #[(.int k)] 1)
  rw [own_ef_pick]
  refine own_by (T' := s₁) (g' := (mkF m 1 #[.val (.int k)] [(.int k)])) (fun t_ k_ => XS.iloadN X0.here hx rfl (hb hby own_d_pick_0) rfl k_) ?_
  by_cases c1_1 : k = (0 : Int32)
  · skip
    refine own_by (T' := s₁) (g' := (mkF m 4 #[.val (.int k)] [])) (fun t_ k_ => XS.ifNo X0.here hx rfl (hb hby own_d_pick_1) rfl ((if0 _ _).trans (teq (c1_1 : k = (0 : Int32))).2) k_) ?_
    obtain ⟨T2, X2, e2, st2⟩ := getS2 X0 hx hZ hown (host := "") (Or.inl (hw _ (List.mem_of_getElem? (i := 4) rfl))) Via.refl e0 S_PUT (g := (mkF m 4 #[.val (.int k)] [])) rfl (hb hby own_d_pick_4)
    refine own_by (T' := T2) (g' := (mkF m 7 #[.val (.int k)] [(.ref a_PUT)])) st2 ?_
    refine own_retR X2 hx Bd.returns hlk rfl rfl (hb hby own_d_pick_7) (by decide) (by decide) ?_
    rw [e2]
    exact ⟨by simp [c1_1], N0, rfl⟩
  · skip
    refine own_by (T' := s₁) (g' := (mkF m 8 #[.val (.int k)] [])) (fun t_ k_ => XS.ifYes X0.here hx rfl (pc0 := 1) (pc' := 8) rfl (hb hby own_d_pick_1) rfl ((if0 _ _).trans (feq (c1_1 : ¬ (k = (0 : Int32)))).2) (by decide) (by decide) k_) ?_
    refine own_by (T' := s₁) (g' := (mkF m 9 #[.val (.int k)] [(.int k)])) (fun t_ k_ => XS.iloadN X0.here hx rfl (hb hby own_d_pick_8) rfl k_) ?_
    refine own_by (T' := s₁) (g' := (mkF m 10 #[.val (.int k)] [(.int (1 : Int32)), (.int k)])) (fun t_ k_ => XS.iconst X0.here hx rfl (hb hby own_d_pick_9) k_) ?_
    by_cases c10_3 : k = (1 : Int32)
    · skip
      refine own_by (T' := s₁) (g' := (mkF m 13 #[.val (.int k)] [])) (fun t_ k_ => XS.icmpNo X0.here hx rfl (hb hby own_d_pick_10) rfl (teq (c10_3 : k = (1 : Int32))).2 k_) ?_
      obtain ⟨T4, X4, e4, st4⟩ := getS2 X0 hx hZ hown (host := "") (Or.inl (hw _ (List.mem_of_getElem? (i := 30) rfl))) Via.refl e0 S_DELETE (g := (mkF m 13 #[.val (.int k)] [])) rfl (hb hby own_d_pick_13)
      refine own_by (T' := T4) (g' := (mkF m 16 #[.val (.int k)] [(.ref a_DELETE)])) st4 ?_
      refine own_retR X4 hx Bd.returns hlk rfl rfl (hb hby own_d_pick_16) (by decide) (by decide) ?_
      rw [e4]
      exact ⟨by simp [c1_1, c10_3], N0, rfl⟩
    · skip
      refine own_by (T' := s₁) (g' := (mkF m 17 #[.val (.int k)] [])) (fun t_ k_ => XS.icmpYes X0.here hx rfl (pc0 := 10) (pc' := 17) rfl (hb hby own_d_pick_10) rfl (feq (c10_3 : ¬ (k = (1 : Int32)))).2 (by decide) (by decide) k_) ?_
      refine own_by (T' := s₁) (g' := (mkF m 18 #[.val (.int k)] [(.int k)])) (fun t_ k_ => XS.iloadN X0.here hx rfl (hb hby own_d_pick_17) rfl k_) ?_
      refine own_by (T' := s₁) (g' := (mkF m 19 #[.val (.int k)] [(.int (2 : Int32)), (.int k)])) (fun t_ k_ => XS.iconst X0.here hx rfl (hb hby own_d_pick_18) k_) ?_
      by_cases c19_5 : k = (2 : Int32)
      · skip
        refine own_by (T' := s₁) (g' := (mkF m 22 #[.val (.int k)] [])) (fun t_ k_ => XS.icmpNo X0.here hx rfl (hb hby own_d_pick_19) rfl (teq (c19_5 : k = (2 : Int32))).2 k_) ?_
        obtain ⟨T6, X6, e6, st6⟩ := getS2 X0 hx hZ hown (host := "") (Or.inl (hw _ (List.mem_of_getElem? (i := 28) rfl))) Via.refl e0 S_APPEND (g := (mkF m 22 #[.val (.int k)] [])) rfl (hb hby own_d_pick_22)
        refine own_by (T' := T6) (g' := (mkF m 25 #[.val (.int k)] [(.ref a_APPEND)])) st6 ?_
        refine own_retR X6 hx Bd.returns hlk rfl rfl (hb hby own_d_pick_25) (by decide) (by decide) ?_
        rw [e6]
        exact ⟨by simp [c1_1, c10_3, c19_5], N0, rfl⟩
      · skip
        refine own_by (T' := s₁) (g' := (mkF m 26 #[.val (.int k)] [])) (fun t_ k_ => XS.icmpYes X0.here hx rfl (pc0 := 19) (pc' := 26) rfl (hb hby own_d_pick_19) rfl (feq (c19_5 : ¬ (k = (2 : Int32)))).2 (by decide) (by decide) k_) ?_
        obtain ⟨T7, X7, e7, st7⟩ := getS2 X0 hx hZ hown (host := "") (Or.inl (hw _ (List.mem_of_getElem? (i := 26) rfl))) Via.refl e0 S_MUTATE (g := (mkF m 26 #[.val (.int k)] [])) rfl (hb hby own_d_pick_26)
        refine own_by (T' := T7) (g' := (mkF m 29 #[.val (.int k)] [(.ref a_MUTATE)])) st7 ?_
        refine own_retR X7 hx Bd.returns hlk rfl rfl (hb hby own_d_pick_29) (by decide) (by decide) ?_
        rw [e7]
        exact ⟨by simp [c1_1, c10_3, c19_5], N0, rfl⟩
theorem own_d_mk_0 : decode prog_10_method_6_code 0 = .ok (.aload_n 0, 1) := by decide +kernel
theorem own_d_mk_1 : decode prog_10_method_6_code 1 = .ok (.getfield 39, 3) := by decide +kernel
theorem own_d_mk_4 : decode prog_10_method_6_code 4 = .ok (.ifCond .eq 14, 3) := by decide +kernel
theorem own_d_mk_7 : decode prog_10_method_6_code 7 = .ok (.aload_n 0, 1) := by decide +kernel
theorem own_d_mk_8 : decode prog_10_method_6_code 8 = .ok (.getfield 43, 3) := by decide +kernel
theorem own_d_mk_11 : decode prog_10_method_6_code 11 = .ok (.ifCond .eq 7, 3) := by decide +kernel
theorem own_d_mk_14 : decode prog_10_method_6_code 14 = .ok (.iconst 1, 1) := by decide +kernel
theorem own_d_mk_15 : decode prog_10_method_6_code 15 = .ok (.goto 4, 3) := by decide +kernel
theorem own_d_mk_18 : decode prog_10_method_6_code 18 = .ok (.iconst 0, 1) := by decide +kernel
theorem own_d_mk_19 : decode prog_10_method_6_code 19 = .ok (.ireturn, 1) := by decide +kernel
theorem own_pn_com_example_rowgate_rowgate_Edit_Kind : plainName "com/example/rowgate/rowgate/Edit$Kind" = true := by first | (simp [plainName, overriddenIn]; done) | decide +kernel
theorem own_ef_mk (m : MethodId) (a : Addr) : entryFrame m #[(.ref a)] 1 = mkF m 0 #[.val (.ref a)] [] := by first | (simp [entryFrame, mkF, argsToLocals, Value.category]; done) | rfl
def own_Q_mk (Z : State) (a : Addr) (gb : Int32) (de : Int32) (r : Int32) (h0 : Heap) (n0 : Nat) (v : Option Value) (h : Heap) (L : List Loc) : Prop := v = some (.int r) ∧ Fr n0 L ∧ h = h0
set_option maxRecDepth 65536 in
set_option maxHeartbeats 40000000 in
theorem own_rm_mk (l : Launch) (Z : State) (a0 : Array Value) (hw : ∀ d ∈ tables_1, d.before a0 Z = true) (ws : List Jvm.Cond) (a : Addr) (gb : Int32) (de : Int32) (r : Int32) (h0 : Heap) (n0 : Nat) (Z0 : n0 ≤ h0.size) (F_givesBytes : Fld Z h0 a "com/example/rowgate/rowgate/Edit$Kind" "givesBytes" "Z" (.int gb)) (F_deletes : Fld Z h0 a "com/example/rowgate/rowgate/Edit$Kind" "deletes" "Z" (.int de)) (hr : (if gb = (0 : Int32) then (0 : Int32) else if de = (0 : Int32) then (0 : Int32) else (1 : Int32)) = r) :
    MetFree l (⟨"com/example/rowgate/rowgate/Edit$Kind", "marksCells", "()Z"⟩ : MethodName) (head1 (Jvm.Cond.code (⟨"com/example/rowgate/rowgate/Edit$Kind", "marksCells", "()Z"⟩ : MethodName) prog_10_method_6_code 1 (some .boolean) :: ws) ({ frames := 0, cells := 0, slots := 0, locals := 0 } : Room)) (fun a_ U_ => a_ = #[(.ref a)] ∧ Z.Warmed39 U_.vm ∧ U_.heap = h0) (fun _ _ _ _ _ => True) (fun _ U_ o_ U'_ => ∃ v_ L_, o_ = .returned v_ ∧ own_Q_mk Z a gb de r h0 n0 v_ U'_.heap L_ ∧ FrameEnd U_ o_ U'_ L_ ({ frames := 0, cells := 0, slots := 0, locals := 0 } : Room).cells ({ frames := 0, cells := 0, slots := 0, locals := 0 } : Room).slots) := by
  refine MetFree.of_bodySF (plainFor_of_name own_pn_com_example_rowgate_rowgate_Edit_Kind) hisR ?_
  intro p e s m args below meth c s₁ Bd hml0 hP hK
  obtain ⟨rfl, hZ, hh⟩ := hP
  have hx := Bd.exec
  have hby := Bd.bytes
  have hlk : meth.locks = false := BodyLoose.notSynchronized Bd
  have hml : c.maxLocals = 1 := hml0
  have hown : s.vm.findClass "com/example/rowgate/rowgate/Edit$Kind" = some m.cls := findClass_of_methodNamed Bd.named
  have hnm := (name_of_methodNamed Bd.named Bd.method).1
  have X0 : Stand p l e ({ frames := 0, cells := 0, slots := 0, locals := 0 } : Room) s m #[(.ref a)] below meth c s₁ [] 0 0 := Stand.of_body Bd
  have e0 : s₁.heap = h0 := by rw [← hh, Bd.state]; rfl
  have N0 := Fr.nil n0
  show own_Goes p e below (own_K (own_Q_mk Z a gb de r h0 n0) s ({ frames := 0, cells := 0, slots := 0, locals := 0 } : Room).cells ({ frames := 0, cells := 0, slots := 0, locals := 0 } : Room).slots) s₁ (entryFrame m #[(.ref a)] 1)
  rw [own_ef_mk]
  refine own_by (T' := s₁) (g' := (mkF m 1 #[.val (.ref a)] [(.ref a)])) (fun t_ k_ => XS.aloadN X0.here hx rfl (hb hby own_d_mk_0) rfl rfl k_) ?_
  obtain ⟨T1, X1, e1, st1⟩ := getF X0 hx hZ hown (host := "") (Or.inl (hw _ (List.mem_of_getElem? (i := 12) rfl))) Via.refl e0 F_givesBytes (g := (mkF m 1 #[.val (.ref a)] [(.ref a)])) rfl rfl (hb hby own_d_mk_1)
  refine own_by (T' := T1) (g' := (mkF m 4 #[.val (.ref a)] [(.int gb)])) st1 ?_
  by_cases c4_2 : gb = (0 : Int32)
  · skip
    refine own_by (T' := T1) (g' := (mkF m 18 #[.val (.ref a)] [])) (fun t_ k_ => XS.ifYes X1.here hx rfl (pc0 := 4) (pc' := 18) rfl (hb hby own_d_mk_4) rfl ((if0 _ _).trans (teq (c4_2 : gb = (0 : Int32))).1) (by decide) (by decide) k_) ?_
    refine own_by (T' := T1) (g' := (mkF m 19 #[.val (.ref a)] [(.int (0 : Int32))])) (fun t_ k_ => XS.iconst X1.here hx rfl (hb hby own_d_mk_18) k_) ?_
    refine own_retN X1 hx (t := .boolean) Bd.returns hlk (by simp) (hb hby own_d_mk_19) (by decide) (by decide) (v := (0 : Int32)) rfl ?_
    rw [e1]
    exact ⟨by rw [← hr]; simp [c4_2], N0, rfl⟩
  · skip
    refine own_by (T' := T1) (g' := (mkF m 7 #[.val (.ref a)] [])) (fun t_ k_ => XS.ifNo X1.here hx rfl (hb hby own_d_mk_4) rfl ((if0 _ _).trans (feq (c4_2 : ¬ (gb = (0 : Int32)))).1) k_) ?_
    refine own_by (T' := T1) (g' := (mkF m 8 #[.val (.ref a)] [(.ref a)])) (fun t_ k_ => XS.aloadN X1.here hx rfl (hb hby own_d_mk_7) rfl rfl k_) ?_
    obtain ⟨T3, X3, e3, st3⟩ := getF X1 hx hZ hown (host := "") (Or.inl (hw _ (List.mem_of_getElem? (i := 14) rfl))) Via.refl e1 F_deletes (g := (mkF m 8 #[.val (.ref a)] [(.ref a)])) rfl rfl (hb hby own_d_mk_8)
    refine own_by (T' := T3) (g' := (mkF m 11 #[.val (.ref a)] [(.int de)])) st3 ?_
    by_cases c11_4 : de = (0 : Int32)
    · skip
      refine own_by (T' := T3) (g' := (mkF m 18 #[.val (.ref a)] [])) (fun t_ k_ => XS.ifYes X3.here hx rfl (pc0 := 11) (pc' := 18) rfl (hb hby own_d_mk_11) rfl ((if0 _ _).trans (teq (c11_4 : de = (0 : Int32))).1) (by decide) (by decide) k_) ?_
      refine own_by (T' := T3) (g' := (mkF m 19 #[.val (.ref a)] [(.int (0 : Int32))])) (fun t_ k_ => XS.iconst X3.here hx rfl (hb hby own_d_mk_18) k_) ?_
      refine own_retN X3 hx (t := .boolean) Bd.returns hlk (by simp) (hb hby own_d_mk_19) (by decide) (by decide) (v := (0 : Int32)) rfl ?_
      rw [e3]
      exact ⟨by rw [← hr]; simp [c4_2, c11_4], N0, rfl⟩
    · skip
      refine own_by (T' := T3) (g' := (mkF m 14 #[.val (.ref a)] [])) (fun t_ k_ => XS.ifNo X3.here hx rfl (hb hby own_d_mk_11) rfl ((if0 _ _).trans (feq (c11_4 : ¬ (de = (0 : Int32)))).1) k_) ?_
      refine own_by (T' := T3) (g' := (mkF m 15 #[.val (.ref a)] [(.int (1 : Int32))])) (fun t_ k_ => XS.iconst X3.here hx rfl (hb hby own_d_mk_14) k_) ?_
      refine own_by (T' := T3) (g' := (mkF m 19 #[.val (.ref a)] [(.int (1 : Int32))])) (fun t_ k_ => XS.goto X3.here hx rfl (pc0 := 15) (pc' := 19) rfl (hb hby own_d_mk_15) (by decide) (by decide) k_) ?_
      refine own_retN X3 hx (t := .boolean) Bd.returns hlk (by simp) (hb hby own_d_mk_19) (by decide) (by decide) (v := (1 : Int32)) rfl ?_
      rw [e3]
      exact ⟨by rw [← hr]; simp [c4_2, c11_4], N0, rfl⟩
theorem own_d_gv_0 : decode prog_10_method_5_code 0 = .ok (.aload_n 0, 1) := by decide +kernel
theorem own_d_gv_1 : decode prog_10_method_5_code 1 = .ok (.getfield 39, 3) := by decide +kernel
theorem own_d_gv_4 : decode prog_10_method_5_code 4 = .ok (.ireturn, 1) := by decide +kernel
theorem own_ef_gv (m : MethodId) (a : Addr) : entryFrame m #[(.ref a)] 1 = mkF m 0 #[.val (.ref a)] [] := by first | (simp [entryFrame, mkF, argsToLocals, Value.category]; done) | rfl
def own_Q_gv (Z : State) (a : Addr) (gb : Int32) (h0 : Heap) (n0 : Nat) (v : Option Value) (h : Heap) (L : List Loc) : Prop := v = some (.int gb) ∧ Fr n0 L ∧ h = h0
set_option maxRecDepth 65536 in
set_option maxHeartbeats 40000000 in
theorem own_rm_gv (l : Launch) (Z : State) (a0 : Array Value) (hw : ∀ d ∈ tables_1, d.before a0 Z = true) (ws : List Jvm.Cond) (a : Addr) (gb : Int32) (h0 : Heap) (n0 : Nat) (Z0 : n0 ≤ h0.size) (F_givesBytes : Fld Z h0 a "com/example/rowgate/rowgate/Edit$Kind" "givesBytes" "Z" (.int gb)) (hb1 : nar .boolean gb = gb) :
    MetFree l (⟨"com/example/rowgate/rowgate/Edit$Kind", "givesBytes", "()Z"⟩ : MethodName) (head1 (Jvm.Cond.code (⟨"com/example/rowgate/rowgate/Edit$Kind", "givesBytes", "()Z"⟩ : MethodName) prog_10_method_5_code 1 (some .boolean) :: ws) ({ frames := 0, cells := 0, slots := 0, locals := 0 } : Room)) (fun a_ U_ => a_ = #[(.ref a)] ∧ Z.Warmed39 U_.vm ∧ U_.heap = h0) (fun _ _ _ _ _ => True) (fun _ U_ o_ U'_ => ∃ v_ L_, o_ = .returned v_ ∧ own_Q_gv Z a gb h0 n0 v_ U'_.heap L_ ∧ FrameEnd U_ o_ U'_ L_ ({ frames := 0, cells := 0, slots := 0, locals := 0 } : Room).cells ({ frames := 0, cells := 0, slots := 0, locals := 0 } : Room).slots) := by
  refine MetFree.of_bodySF (plainFor_of_name own_pn_com_example_rowgate_rowgate_Edit_Kind) hisR ?_
  intro p e s m args below meth c s₁ Bd hml0 hP hK
  obtain ⟨rfl, hZ, hh⟩ := hP
  have hx := Bd.exec
  have hby := Bd.bytes
  have hlk : meth.locks = false := BodyLoose.notSynchronized Bd
  have hml : c.maxLocals = 1 := hml0
  have hown : s.vm.findClass "com/example/rowgate/rowgate/Edit$Kind" = some m.cls := findClass_of_methodNamed Bd.named
  have hnm := (name_of_methodNamed Bd.named Bd.method).1
  have X0 : Stand p l e ({ frames := 0, cells := 0, slots := 0, locals := 0 } : Room) s m #[(.ref a)] below meth c s₁ [] 0 0 := Stand.of_body Bd
  have e0 : s₁.heap = h0 := by rw [← hh, Bd.state]; rfl
  have N0 := Fr.nil n0
  show own_Goes p e below (own_K (own_Q_gv Z a gb h0 n0) s ({ frames := 0, cells := 0, slots := 0, locals := 0 } : Room).cells ({ frames := 0, cells := 0, slots := 0, locals := 0 } : Room).slots) s₁ (entryFrame m #[(.ref a)] 1)
  rw [own_ef_gv]
  refine own_by (T' := s₁) (g' := (mkF m 1 #[.val (.ref a)] [(.ref a)])) (fun t_ k_ => XS.aloadN X0.here hx rfl (hb hby own_d_gv_0) rfl rfl k_) ?_
  obtain ⟨T1, X1, e1, st1⟩ := getF X0 hx hZ hown (host := "") (Or.inl (hw _ (List.mem_of_getElem? (i := 12) rfl))) Via.refl e0 F_givesBytes (g := (mkF m 1 #[.val (.ref a)] [(.ref a)])) rfl rfl (hb hby own_d_gv_1)
  refine own_by (T' := T1) (g' := (mkF m 4 #[.val (.ref a)] [(.int gb)])) st1 ?_
  refine own_retN X1 hx (t := .boolean) Bd.returns hlk (by simp) (hb hby own_d_gv_4) (by decide) (by decide) (v := gb) hb1 ?_
  rw [e1]
  exact ⟨rfl, N0, rfl⟩
theorem own_d_dl_0 : decode prog_10_method_7_code 0 = .ok (.aload_n 0, 1) := by decide +kernel
theorem own_d_dl_1 : decode prog_10_method_7_code 1 = .ok (.getfield 43, 3) := by decide +kernel
theorem own_d_dl_4 : decode prog_10_method_7_code 4 = .ok (.ireturn, 1) := by decide +kernel
theorem own_ef_dl (m : MethodId) (a : Addr) : entryFrame m #[(.ref a)] 1 = mkF m 0 #[.val (.ref a)] [] := by first | (simp [entryFrame, mkF, argsToLocals, Value.category]; done) | rfl
def own_Q_dl (Z : State) (a : Addr) (gb : Int32) (h0 : Heap) (n0 : Nat) (v : Option Value) (h : Heap) (L : List Loc) : Prop := v = some (.int gb) ∧ Fr n0 L ∧ h = h0
set_option maxRecDepth 65536 in
set_option maxHeartbeats 40000000 in
theorem own_rm_dl (l : Launch) (Z : State) (a0 : Array Value) (hw : ∀ d ∈ tables_1, d.before a0 Z = true) (ws : List Jvm.Cond) (a : Addr) (gb : Int32) (h0 : Heap) (n0 : Nat) (Z0 : n0 ≤ h0.size) (F_deletes : Fld Z h0 a "com/example/rowgate/rowgate/Edit$Kind" "deletes" "Z" (.int gb)) (hb1 : nar .boolean gb = gb) :
    MetFree l (⟨"com/example/rowgate/rowgate/Edit$Kind", "deletes", "()Z"⟩ : MethodName) (head1 (Jvm.Cond.code (⟨"com/example/rowgate/rowgate/Edit$Kind", "deletes", "()Z"⟩ : MethodName) prog_10_method_7_code 1 (some .boolean) :: ws) ({ frames := 0, cells := 0, slots := 0, locals := 0 } : Room)) (fun a_ U_ => a_ = #[(.ref a)] ∧ Z.Warmed39 U_.vm ∧ U_.heap = h0) (fun _ _ _ _ _ => True) (fun _ U_ o_ U'_ => ∃ v_ L_, o_ = .returned v_ ∧ own_Q_dl Z a gb h0 n0 v_ U'_.heap L_ ∧ FrameEnd U_ o_ U'_ L_ ({ frames := 0, cells := 0, slots := 0, locals := 0 } : Room).cells ({ frames := 0, cells := 0, slots := 0, locals := 0 } : Room).slots) := by
  refine MetFree.of_bodySF (plainFor_of_name own_pn_com_example_rowgate_rowgate_Edit_Kind) hisR ?_
  intro p e s m args below meth c s₁ Bd hml0 hP hK
  obtain ⟨rfl, hZ, hh⟩ := hP
  have hx := Bd.exec
  have hby := Bd.bytes
  have hlk : meth.locks = false := BodyLoose.notSynchronized Bd
  have hml : c.maxLocals = 1 := hml0
  have hown : s.vm.findClass "com/example/rowgate/rowgate/Edit$Kind" = some m.cls := findClass_of_methodNamed Bd.named
  have hnm := (name_of_methodNamed Bd.named Bd.method).1
  have X0 : Stand p l e ({ frames := 0, cells := 0, slots := 0, locals := 0 } : Room) s m #[(.ref a)] below meth c s₁ [] 0 0 := Stand.of_body Bd
  have e0 : s₁.heap = h0 := by rw [← hh, Bd.state]; rfl
  have N0 := Fr.nil n0
  show own_Goes p e below (own_K (own_Q_dl Z a gb h0 n0) s ({ frames := 0, cells := 0, slots := 0, locals := 0 } : Room).cells ({ frames := 0, cells := 0, slots := 0, locals := 0 } : Room).slots) s₁ (entryFrame m #[(.ref a)] 1)
  rw [own_ef_dl]
  refine own_by (T' := s₁) (g' := (mkF m 1 #[.val (.ref a)] [(.ref a)])) (fun t_ k_ => XS.aloadN X0.here hx rfl (hb hby own_d_dl_0) rfl rfl k_) ?_
  obtain ⟨T1, X1, e1, st1⟩ := getF X0 hx hZ hown (host := "") (Or.inl (hw _ (List.mem_of_getElem? (i := 14) rfl))) Via.refl e0 F_deletes (g := (mkF m 1 #[.val (.ref a)] [(.ref a)])) rfl rfl (hb hby own_d_dl_1)
  refine own_by (T' := T1) (g' := (mkF m 4 #[.val (.ref a)] [(.int gb)])) st1 ?_
  refine own_retN X1 hx (t := .boolean) Bd.returns hlk (by simp) (hb hby own_d_dl_4) (by decide) (by decide) (v := gb) hb1 ?_
  rw [e1]
  exact ⟨rfl, N0, rfl⟩
theorem own_pd0 : parseMethodDescriptor "(I)Lcom/example/rowgate/rowgate/Edit$Kind;" = some ⟨[.int], some (.object "com/example/rowgate/rowgate/Edit$Kind")⟩ := by decide +kernel
theorem own_pd1 : parseMethodDescriptor "()Z" = some ⟨[], some .boolean⟩ := by decide +kernel
theorem own_ef_law (m : MethodId) (q : Int32) : entryFrame m #[(.int q)] maxLocals = mkF m 0 #[.val (.int q), .unset, .unset, .unset, .unset] [] := by first | (simp [entryFrame, mkF, argsToLocals, Value.category, maxLocals]; done) | rfl
def own_Q_law (Z : State) (q : Int32) (a_PUT : Addr) (a_DELETE : Addr) (a_APPEND : Addr) (a_MUTATE : Addr) (h0 : Heap) (n0 : Nat) (v : Option Value) (h : Heap) (L : List Loc) : Prop := v = some (.int 1) ∧ Fr n0 L
set_option maxRecDepth 65536 in
set_option maxHeartbeats 40000000 in
theorem own_rm_law (l : Launch) (Z : State) (a0 : Array Value) (hw : ∀ d ∈ tables_1, d.before a0 Z = true) (ws : List Jvm.Cond) (q : Int32) (a_PUT : Addr) (a_DELETE : Addr) (a_APPEND : Addr) (a_MUTATE : Addr) (h0 : Heap) (n0 : Nat) (Z0 : n0 ≤ h0.size) (S_PUT : Sta Z h0 "com/example/rowgate/rowgate/Edit$Kind" "PUT" "Lcom/example/rowgate/rowgate/Edit$Kind;" (.ref a_PUT)) (S_DELETE : Sta Z h0 "com/example/rowgate/rowgate/Edit$Kind" "DELETE" "Lcom/example/rowgate/rowgate/Edit$Kind;" (.ref a_DELETE)) (S_APPEND : Sta Z h0 "com/example/rowgate/rowgate/Edit$Kind" "APPEND" "Lcom/example/rowgate/rowgate/Edit$Kind;" (.ref a_APPEND)) (S_MUTATE : Sta Z h0 "com/example/rowgate/rowgate/Edit$Kind" "MUTATE" "Lcom/example/rowgate/rowgate/Edit$Kind;" (.ref a_MUTATE)) (E_PUT : Exa Z h0 a_PUT "com/example/rowgate/rowgate/Edit$Kind") (E_DELETE : Exa Z h0 a_DELETE "com/example/rowgate/rowgate/Edit$Kind") (E_APPEND : Exa Z h0 a_APPEND "com/example/rowgate/rowgate/Edit$Kind") (E_MUTATE : Exa Z h0 a_MUTATE "com/example/rowgate/rowgate/Edit$Kind") (F_PUT_givesBytes : Fld Z h0 a_PUT "com/example/rowgate/rowgate/Edit$Kind" "givesBytes" "Z" (.int (1 : Int32))) (F_PUT_deletes : Fld Z h0 a_PUT "com/example/rowgate/rowgate/Edit$Kind" "deletes" "Z" (.int (0 : Int32))) (F_DELETE_givesBytes : Fld Z h0 a_DELETE "com/example/rowgate/rowgate/Edit$Kind" "givesBytes" "Z" (.int (0 : Int32))) (F_DELETE_deletes : Fld Z h0 a_DELETE "com/example/rowgate/rowgate/Edit$Kind" "deletes" "Z" (.int (1 : Int32))) (F_APPEND_givesBytes : Fld Z h0 a_APPEND "com/example/rowgate/rowgate/Edit$Kind" "givesBytes" "Z" (.int (1 : Int32))) (F_APPEND_deletes : Fld Z h0 a_APPEND "com/example/rowgate/rowgate/Edit$Kind" "deletes" "Z" (.int (0 : Int32))) (F_MUTATE_givesBytes : Fld Z h0 a_MUTATE "com/example/rowgate/rowgate/Edit$Kind" "givesBytes" "Z" (.int (1 : Int32))) (F_MUTATE_deletes : Fld Z h0 a_MUTATE "com/example/rowgate/rowgate/Edit$Kind" "deletes" "Z" (.int (1 : Int32))) :
    MetFree l x (head1 (Jvm.Cond.code x code maxLocals ret :: ws) room_1) (fun a_ U_ => a_ = #[(.int q)] ∧ Z.Warmed39 U_.vm ∧ U_.heap = h0) (fun _ _ _ _ _ => True) (fun _ U_ o_ U'_ => ∃ v_ L_, o_ = .returned v_ ∧ own_Q_law Z q a_PUT a_DELETE a_APPEND a_MUTATE h0 n0 v_ U'_.heap L_ ∧ FrameEnd U_ o_ U'_ L_ room_1.cells room_1.slots) := by
  refine MetFree.of_bodySF (plainFor_of_name own_pn_com_example_rowgate_rowgate_KindMarksCellsPinLaw) hisR ?_
  intro p e s m args below meth c s₁ Bd hml0 hP hK
  obtain ⟨rfl, hZ, hh⟩ := hP
  have hx := Bd.exec
  have hby := Bd.bytes
  have hlk : meth.locks = false := BodyLoose.notSynchronized Bd
  have hml : c.maxLocals = 5 := hml0
  have hown : s.vm.findClass "com/example/rowgate/rowgate/KindMarksCellsPinLaw" = some m.cls := findClass_of_methodNamed Bd.named
  have hnm := (name_of_methodNamed Bd.named Bd.method).1
  have X0 : Stand p l e room_1 s m #[(.int q)] below meth c s₁ [] 0 0 := Stand.of_body Bd
  have e0 : s₁.heap = h0 := by rw [← hh, Bd.state]; rfl
  have N0 := Fr.nil n0
  show own_Goes p e below (own_K (own_Q_law Z q a_PUT a_DELETE a_APPEND a_MUTATE h0 n0) s room_1.cells room_1.slots) s₁ (entryFrame m #[(.int q)] maxLocals)
  rw [own_ef_law]
  refine own_by (T' := s₁) (g' := (mkF m 1 #[.val (.int q), .unset, .unset, .unset, .unset] [(.int q)])) (fun t_ k_ => XS.iloadN X0.here hx rfl (hb hby at_0) rfl k_) ?_
  refine own_by (T' := s₁) (g' := (mkF m 2 #[.val (.int q), .unset, .unset, .unset, .unset] [(.int (3 : Int32)), (.int q)])) (fun t_ k_ => XS.iconst X0.here hx rfl (hb hby at_1) k_) ?_
  refine own_by (T' := s₁) (g' := (mkF m 3 #[.val (.int q), .unset, .unset, .unset, .unset] [(.int (q &&& (3 : Int32)))])) (fun t_ k_ => XS.iand X0.here hx rfl (hb hby at_2) rfl k_) ?_
  refine own_by (T' := s₁) (g' := (mkF m 4 #[.val (.int q), .val (.int (q &&& (3 : Int32))), .unset, .unset, .unset] [])) (fun t_ k_ => XS.istoreN X0.here hx rfl (hb hby at_3) rfl (l' := #[.val (.int q), .val (.int (q &&& (3 : Int32))), .unset, .unset, .unset]) rfl k_) ?_
  rcases own_kk q with hk | hk | hk | hk
  · skip
    rw [hk]
    refine own_by (T' := s₁) (g' := (mkF m 5 #[.val (.int q), .val (.int (0 : Int32)), .unset, .unset, .unset] [(.int (0 : Int32))])) (fun t_ k_ => XS.iloadN X0.here hx rfl (hb hby at_4) rfl k_) ?_
    obtain ⟨_, T1, L1, X1, hQ1, st1⟩ := own_callS X0 hx hZ (y := (⟨"com/example/rowgate/rowgate/KindMarksCellsPinLaw", "kindOf", "(I)Lcom/example/rowgate/rowgate/Edit$Kind;"⟩ : MethodName)) hown (hw _ (List.mem_of_getElem? (i := 0) rfl)) (hw _ (List.mem_of_getElem? (i := 1) rfl)) (hw _ (List.mem_of_getElem? (i := 2) rfl)) (hw _ (List.mem_of_getElem? (i := 3) rfl)) (by decide) (argsL := [(.int (0 : Int32))]) (rest := []) (own_rm_pick l Z a0 hw [] (0 : Int32) a_PUT a_DELETE a_APPEND a_MUTATE h0 n0 Z0 S_PUT S_DELETE S_APPEND S_MUTATE) e0 (W := 0) (by decide) (by decide) (by decide) (by decide) (g := (mkF m 5 #[.val (.int q), .val (.int (0 : Int32)), .unset, .unset, .unset] [(.int (0 : Int32))])) rfl (by rw [hml]; rfl) (lenOf own_pd0 rfl) rfl (by show 2 * 0 + _ ≤ _; exact Nat.le_of_eq rfl) (hb hby at_5)
    obtain ⟨rfl, Nq1, e1⟩ := hQ1
    have N1 := Fr.app N0 Nq1
    refine st1 _ ?_
    show own_Goes p e below _ T1 (mkF m 8 #[.val (.int q), .val (.int (0 : Int32)), .unset, .unset, .unset] [(.ref a_PUT)])
    refine own_by (T' := T1) (g' := (mkF m 9 #[.val (.int q), .val (.int (0 : Int32)), .val (.ref a_PUT), .unset, .unset] [])) (fun t_ k_ => XS.astoreN X1.here hx rfl (hb hby at_8) rfl rfl (l' := #[.val (.int q), .val (.int (0 : Int32)), .val (.ref a_PUT), .unset, .unset]) rfl k_) ?_
    refine own_by (T' := T1) (g' := (mkF m 10 #[.val (.int q), .val (.int (0 : Int32)), .val (.ref a_PUT), .unset, .unset] [(.ref a_PUT)])) (fun t_ k_ => XS.aloadN X1.here hx rfl (hb hby at_9) rfl rfl k_) ?_
    obtain ⟨_, T2, L2, X2, hQ2, st2⟩ := own_callV X1 hx hZ (y := (⟨"com/example/rowgate/rowgate/Edit$Kind", "marksCells", "()Z"⟩ : MethodName)) hown (hw _ (List.mem_of_getElem? (i := 7) rfl)) (hw _ (List.mem_of_getElem? (i := 8) rfl)) (hw _ (List.mem_of_getElem? (i := 10) rfl)) (hw _ (List.mem_of_getElem? (i := 9) rfl)) (hw _ (List.mem_of_getElem? (i := 5) rfl)) (hw _ (List.mem_of_getElem? (i := 11) rfl)) (by decide) (argsL := []) (rest := []) E_PUT (own_rm_mk l Z a0 hw [] a_PUT (1 : Int32) (0 : Int32) (0 : Int32) h0 n0 Z0 F_PUT_givesBytes F_PUT_deletes (by decide)) e1 (W := 0) (by decide) (by decide) (by decide) (by decide) (g := (mkF m 10 #[.val (.int q), .val (.int (0 : Int32)), .val (.ref a_PUT), .unset, .unset] [(.ref a_PUT)])) rfl (by rw [hml]; rfl) (lenOf own_pd1 rfl) rfl (by show 2 * 0 + _ ≤ _; exact Nat.le_of_eq rfl) (hb hby at_10)
    obtain ⟨rfl, Nq2, e2⟩ := hQ2
    have N2 := Fr.app N1 Nq2
    refine st2 _ ?_
    show own_Goes p e below _ T2 (mkF m 13 #[.val (.int q), .val (.int (0 : Int32)), .val (.ref a_PUT), .unset, .unset] [(.int (0 : Int32))])
    refine own_by (T' := T2) (g' := (mkF m 14 #[.val (.int q), .val (.int (0 : Int32)), .val (.ref a_PUT), .val (.int (0 : Int32)), .unset] [])) (fun t_ k_ => XS.istoreN X2.here hx rfl (hb hby at_13) rfl (l' := #[.val (.int q), .val (.int (0 : Int32)), .val (.ref a_PUT), .val (.int (0 : Int32)), .unset]) rfl k_) ?_
    refine own_by (T' := T2) (g' := (mkF m 15 #[.val (.int q), .val (.int (0 : Int32)), .val (.ref a_PUT), .val (.int (0 : Int32)), .unset] [(.int (0 : Int32))])) (fun t_ k_ => XS.iloadN X2.here hx rfl (hb hby at_14) rfl k_) ?_
    refine own_by (T' := T2) (g' := (mkF m 16 #[.val (.int q), .val (.int (0 : Int32)), .val (.ref a_PUT), .val (.int (0 : Int32)), .unset] [(.int (3 : Int32)), (.int (0 : Int32))])) (fun t_ k_ => XS.iconst X2.here hx rfl (hb hby at_15) k_) ?_
    refine own_by (T' := T2) (g' := (mkF m 23 #[.val (.int q), .val (.int (0 : Int32)), .val (.ref a_PUT), .val (.int (0 : Int32)), .unset] [])) (fun t_ k_ => XS.icmpYes X2.here hx rfl (pc0 := 16) (pc' := 23) rfl (hb hby at_16) rfl (feq ((by decide) : ¬ ((0 : Int32) = (3 : Int32)))).2 (by decide) (by decide) k_) ?_
    refine own_by (T' := T2) (g' := (mkF m 24 #[.val (.int q), .val (.int (0 : Int32)), .val (.ref a_PUT), .val (.int (0 : Int32)), .unset] [(.int (0 : Int32))])) (fun t_ k_ => XS.iconst X2.here hx rfl (hb hby at_23) k_) ?_
    refine own_by (T' := T2) (g' := (mkF m 26 #[.val (.int q), .val (.int (0 : Int32)), .val (.ref a_PUT), .val (.int (0 : Int32)), .val (.int (0 : Int32))] [])) (fun t_ k_ => XS.istore X2.here hx rfl (hb hby at_24) rfl (l' := #[.val (.int q), .val (.int (0 : Int32)), .val (.ref a_PUT), .val (.int (0 : Int32)), .val (.int (0 : Int32))]) rfl k_) ?_
    refine own_by (T' := T2) (g' := (mkF m 27 #[.val (.int q), .val (.int (0 : Int32)), .val (.ref a_PUT), .val (.int (0 : Int32)), .val (.int (0 : Int32))] [(.int (0 : Int32))])) (fun t_ k_ => XS.iloadN X2.here hx rfl (hb hby at_26) rfl k_) ?_
    refine own_by (T' := T2) (g' := (mkF m 29 #[.val (.int q), .val (.int (0 : Int32)), .val (.ref a_PUT), .val (.int (0 : Int32)), .val (.int (0 : Int32))] [(.int (0 : Int32)), (.int (0 : Int32))])) (fun t_ k_ => XS.iload X2.here hx rfl (hb hby at_27) rfl k_) ?_
    refine own_by (T' := T2) (g' := (mkF m 32 #[.val (.int q), .val (.int (0 : Int32)), .val (.ref a_PUT), .val (.int (0 : Int32)), .val (.int (0 : Int32))] [])) (fun t_ k_ => XS.icmpNo X2.here hx rfl (hb hby at_29) rfl (teq ((by decide) : (0 : Int32) = (0 : Int32))).2 k_) ?_
    refine own_by (T' := T2) (g' := (mkF m 33 #[.val (.int q), .val (.int (0 : Int32)), .val (.ref a_PUT), .val (.int (0 : Int32)), .val (.int (0 : Int32))] [(.int (0 : Int32))])) (fun t_ k_ => XS.iloadN X2.here hx rfl (hb hby at_32) rfl k_) ?_
    refine own_by (T' := T2) (g' := (mkF m 34 #[.val (.int q), .val (.int (0 : Int32)), .val (.ref a_PUT), .val (.int (0 : Int32)), .val (.int (0 : Int32))] [(.ref a_PUT), (.int (0 : Int32))])) (fun t_ k_ => XS.aloadN X2.here hx rfl (hb hby at_33) rfl rfl k_) ?_
    obtain ⟨_, T3, L3, X3, hQ3, st3⟩ := own_callV X2 hx hZ (y := (⟨"com/example/rowgate/rowgate/Edit$Kind", "givesBytes", "()Z"⟩ : MethodName)) hown (hw _ (List.mem_of_getElem? (i := 16) rfl)) (hw _ (List.mem_of_getElem? (i := 17) rfl)) (hw _ (List.mem_of_getElem? (i := 19) rfl)) (hw _ (List.mem_of_getElem? (i := 18) rfl)) (hw _ (List.mem_of_getElem? (i := 5) rfl)) (hw _ (List.mem_of_getElem? (i := 20) rfl)) (by decide) (argsL := []) (rest := [(.int (0 : Int32))]) E_PUT (own_rm_gv l Z a0 hw [] a_PUT (1 : Int32) h0 n0 Z0 F_PUT_givesBytes rfl) e2 (W := 1) (by decide) (by decide) (by decide) (by decide) (g := (mkF m 34 #[.val (.int q), .val (.int (0 : Int32)), .val (.ref a_PUT), .val (.int (0 : Int32)), .val (.int (0 : Int32))] [(.ref a_PUT), (.int (0 : Int32))])) rfl (by rw [hml]; rfl) (lenOf own_pd1 rfl) rfl (by show 2 * 0 + _ ≤ _; exact Nat.le_of_eq rfl) (hb hby at_34)
    obtain ⟨rfl, Nq3, e3⟩ := hQ3
    have N3 := Fr.app N2 Nq3
    refine st3 _ ?_
    show own_Goes p e below _ T3 (mkF m 37 #[.val (.int q), .val (.int (0 : Int32)), .val (.ref a_PUT), .val (.int (0 : Int32)), .val (.int (0 : Int32))] [(.int (1 : Int32)), (.int (0 : Int32))])
    refine own_by (T' := T3) (g' := (mkF m 40 #[.val (.int q), .val (.int (0 : Int32)), .val (.ref a_PUT), .val (.int (0 : Int32)), .val (.int (0 : Int32))] [(.int (0 : Int32))])) (fun t_ k_ => XS.ifNo X3.here hx rfl (hb hby at_37) rfl ((if0 _ _).trans (feq ((by decide) : ¬ ((1 : Int32) = (0 : Int32)))).1) k_) ?_
    refine own_by (T' := T3) (g' := (mkF m 41 #[.val (.int q), .val (.int (0 : Int32)), .val (.ref a_PUT), .val (.int (0 : Int32)), .val (.int (0 : Int32))] [(.ref a_PUT), (.int (0 : Int32))])) (fun t_ k_ => XS.aloadN X3.here hx rfl (hb hby at_40) rfl rfl k_) ?_
    obtain ⟨_, T4, L4, X4, hQ4, st4⟩ := own_callV X3 hx hZ (y := (⟨"com/example/rowgate/rowgate/Edit$Kind", "deletes", "()Z"⟩ : MethodName)) hown (hw _ (List.mem_of_getElem? (i := 21) rfl)) (hw _ (List.mem_of_getElem? (i := 22) rfl)) (hw _ (List.mem_of_getElem? (i := 24) rfl)) (hw _ (List.mem_of_getElem? (i := 23) rfl)) (hw _ (List.mem_of_getElem? (i := 5) rfl)) (hw _ (List.mem_of_getElem? (i := 25) rfl)) (by decide) (argsL := []) (rest := [(.int (0 : Int32))]) E_PUT (own_rm_dl l Z a0 hw [] a_PUT (0 : Int32) h0 n0 Z0 F_PUT_deletes rfl) e3 (W := 1) (by decide) (by decide) (by decide) (by decide) (g := (mkF m 41 #[.val (.int q), .val (.int (0 : Int32)), .val (.ref a_PUT), .val (.int (0 : Int32)), .val (.int (0 : Int32))] [(.ref a_PUT), (.int (0 : Int32))])) rfl (by rw [hml]; rfl) (lenOf own_pd1 rfl) rfl (by show 2 * 0 + _ ≤ _; exact Nat.le_of_eq rfl) (hb hby at_41)
    obtain ⟨rfl, Nq4, e4⟩ := hQ4
    have N4 := Fr.app N3 Nq4
    refine st4 _ ?_
    show own_Goes p e below _ T4 (mkF m 44 #[.val (.int q), .val (.int (0 : Int32)), .val (.ref a_PUT), .val (.int (0 : Int32)), .val (.int (0 : Int32))] [(.int (0 : Int32)), (.int (0 : Int32))])
    refine own_by (T' := T4) (g' := (mkF m 51 #[.val (.int q), .val (.int (0 : Int32)), .val (.ref a_PUT), .val (.int (0 : Int32)), .val (.int (0 : Int32))] [(.int (0 : Int32))])) (fun t_ k_ => XS.ifYes X4.here hx rfl (pc0 := 44) (pc' := 51) rfl (hb hby at_44) rfl ((if0 _ _).trans (teq ((by decide) : (0 : Int32) = (0 : Int32))).1) (by decide) (by decide) k_) ?_
    refine own_by (T' := T4) (g' := (mkF m 52 #[.val (.int q), .val (.int (0 : Int32)), .val (.ref a_PUT), .val (.int (0 : Int32)), .val (.int (0 : Int32))] [(.int (0 : Int32)), (.int (0 : Int32))])) (fun t_ k_ => XS.iconst X4.here hx rfl (hb hby at_51) k_) ?_
    refine own_by (T' := T4) (g' := (mkF m 55 #[.val (.int q), .val (.int (0 : Int32)), .val (.ref a_PUT), .val (.int (0 : Int32)), .val (.int (0 : Int32))] [])) (fun t_ k_ => XS.icmpNo X4.here hx rfl (hb hby at_52) rfl (teq ((by decide) : (0 : Int32) = (0 : Int32))).2 k_) ?_
    refine own_by (T' := T4) (g' := (mkF m 56 #[.val (.int q), .val (.int (0 : Int32)), .val (.ref a_PUT), .val (.int (0 : Int32)), .val (.int (0 : Int32))] [(.int (1 : Int32))])) (fun t_ k_ => XS.iconst X4.here hx rfl (hb hby at_55) k_) ?_
    refine own_by (T' := T4) (g' := (mkF m 60 #[.val (.int q), .val (.int (0 : Int32)), .val (.ref a_PUT), .val (.int (0 : Int32)), .val (.int (0 : Int32))] [(.int (1 : Int32))])) (fun t_ k_ => XS.goto X4.here hx rfl (pc0 := 56) (pc' := 60) rfl (hb hby at_56) (by decide) (by decide) k_) ?_
    refine own_retN X4 hx (t := .boolean) Bd.returns hlk (by simp) (hb hby at_60) (by decide) (by decide) (v := (1 : Int32)) rfl ?_
    rw [e4]
    exact ⟨rfl, N4⟩
  · skip
    rw [hk]
    refine own_by (T' := s₁) (g' := (mkF m 5 #[.val (.int q), .val (.int (1 : Int32)), .unset, .unset, .unset] [(.int (1 : Int32))])) (fun t_ k_ => XS.iloadN X0.here hx rfl (hb hby at_4) rfl k_) ?_
    obtain ⟨_, T5, L5, X5, hQ5, st5⟩ := own_callS X0 hx hZ (y := (⟨"com/example/rowgate/rowgate/KindMarksCellsPinLaw", "kindOf", "(I)Lcom/example/rowgate/rowgate/Edit$Kind;"⟩ : MethodName)) hown (hw _ (List.mem_of_getElem? (i := 0) rfl)) (hw _ (List.mem_of_getElem? (i := 1) rfl)) (hw _ (List.mem_of_getElem? (i := 2) rfl)) (hw _ (List.mem_of_getElem? (i := 3) rfl)) (by decide) (argsL := [(.int (1 : Int32))]) (rest := []) (own_rm_pick l Z a0 hw [] (1 : Int32) a_PUT a_DELETE a_APPEND a_MUTATE h0 n0 Z0 S_PUT S_DELETE S_APPEND S_MUTATE) e0 (W := 0) (by decide) (by decide) (by decide) (by decide) (g := (mkF m 5 #[.val (.int q), .val (.int (1 : Int32)), .unset, .unset, .unset] [(.int (1 : Int32))])) rfl (by rw [hml]; rfl) (lenOf own_pd0 rfl) rfl (by show 2 * 0 + _ ≤ _; exact Nat.le_of_eq rfl) (hb hby at_5)
    obtain ⟨rfl, Nq5, e5⟩ := hQ5
    have N5 := Fr.app N0 Nq5
    refine st5 _ ?_
    show own_Goes p e below _ T5 (mkF m 8 #[.val (.int q), .val (.int (1 : Int32)), .unset, .unset, .unset] [(.ref a_DELETE)])
    refine own_by (T' := T5) (g' := (mkF m 9 #[.val (.int q), .val (.int (1 : Int32)), .val (.ref a_DELETE), .unset, .unset] [])) (fun t_ k_ => XS.astoreN X5.here hx rfl (hb hby at_8) rfl rfl (l' := #[.val (.int q), .val (.int (1 : Int32)), .val (.ref a_DELETE), .unset, .unset]) rfl k_) ?_
    refine own_by (T' := T5) (g' := (mkF m 10 #[.val (.int q), .val (.int (1 : Int32)), .val (.ref a_DELETE), .unset, .unset] [(.ref a_DELETE)])) (fun t_ k_ => XS.aloadN X5.here hx rfl (hb hby at_9) rfl rfl k_) ?_
    obtain ⟨_, T6, L6, X6, hQ6, st6⟩ := own_callV X5 hx hZ (y := (⟨"com/example/rowgate/rowgate/Edit$Kind", "marksCells", "()Z"⟩ : MethodName)) hown (hw _ (List.mem_of_getElem? (i := 7) rfl)) (hw _ (List.mem_of_getElem? (i := 8) rfl)) (hw _ (List.mem_of_getElem? (i := 10) rfl)) (hw _ (List.mem_of_getElem? (i := 9) rfl)) (hw _ (List.mem_of_getElem? (i := 5) rfl)) (hw _ (List.mem_of_getElem? (i := 11) rfl)) (by decide) (argsL := []) (rest := []) E_DELETE (own_rm_mk l Z a0 hw [] a_DELETE (0 : Int32) (1 : Int32) (0 : Int32) h0 n0 Z0 F_DELETE_givesBytes F_DELETE_deletes (by decide)) e5 (W := 0) (by decide) (by decide) (by decide) (by decide) (g := (mkF m 10 #[.val (.int q), .val (.int (1 : Int32)), .val (.ref a_DELETE), .unset, .unset] [(.ref a_DELETE)])) rfl (by rw [hml]; rfl) (lenOf own_pd1 rfl) rfl (by show 2 * 0 + _ ≤ _; exact Nat.le_of_eq rfl) (hb hby at_10)
    obtain ⟨rfl, Nq6, e6⟩ := hQ6
    have N6 := Fr.app N5 Nq6
    refine st6 _ ?_
    show own_Goes p e below _ T6 (mkF m 13 #[.val (.int q), .val (.int (1 : Int32)), .val (.ref a_DELETE), .unset, .unset] [(.int (0 : Int32))])
    refine own_by (T' := T6) (g' := (mkF m 14 #[.val (.int q), .val (.int (1 : Int32)), .val (.ref a_DELETE), .val (.int (0 : Int32)), .unset] [])) (fun t_ k_ => XS.istoreN X6.here hx rfl (hb hby at_13) rfl (l' := #[.val (.int q), .val (.int (1 : Int32)), .val (.ref a_DELETE), .val (.int (0 : Int32)), .unset]) rfl k_) ?_
    refine own_by (T' := T6) (g' := (mkF m 15 #[.val (.int q), .val (.int (1 : Int32)), .val (.ref a_DELETE), .val (.int (0 : Int32)), .unset] [(.int (1 : Int32))])) (fun t_ k_ => XS.iloadN X6.here hx rfl (hb hby at_14) rfl k_) ?_
    refine own_by (T' := T6) (g' := (mkF m 16 #[.val (.int q), .val (.int (1 : Int32)), .val (.ref a_DELETE), .val (.int (0 : Int32)), .unset] [(.int (3 : Int32)), (.int (1 : Int32))])) (fun t_ k_ => XS.iconst X6.here hx rfl (hb hby at_15) k_) ?_
    refine own_by (T' := T6) (g' := (mkF m 23 #[.val (.int q), .val (.int (1 : Int32)), .val (.ref a_DELETE), .val (.int (0 : Int32)), .unset] [])) (fun t_ k_ => XS.icmpYes X6.here hx rfl (pc0 := 16) (pc' := 23) rfl (hb hby at_16) rfl (feq ((by decide) : ¬ ((1 : Int32) = (3 : Int32)))).2 (by decide) (by decide) k_) ?_
    refine own_by (T' := T6) (g' := (mkF m 24 #[.val (.int q), .val (.int (1 : Int32)), .val (.ref a_DELETE), .val (.int (0 : Int32)), .unset] [(.int (0 : Int32))])) (fun t_ k_ => XS.iconst X6.here hx rfl (hb hby at_23) k_) ?_
    refine own_by (T' := T6) (g' := (mkF m 26 #[.val (.int q), .val (.int (1 : Int32)), .val (.ref a_DELETE), .val (.int (0 : Int32)), .val (.int (0 : Int32))] [])) (fun t_ k_ => XS.istore X6.here hx rfl (hb hby at_24) rfl (l' := #[.val (.int q), .val (.int (1 : Int32)), .val (.ref a_DELETE), .val (.int (0 : Int32)), .val (.int (0 : Int32))]) rfl k_) ?_
    refine own_by (T' := T6) (g' := (mkF m 27 #[.val (.int q), .val (.int (1 : Int32)), .val (.ref a_DELETE), .val (.int (0 : Int32)), .val (.int (0 : Int32))] [(.int (0 : Int32))])) (fun t_ k_ => XS.iloadN X6.here hx rfl (hb hby at_26) rfl k_) ?_
    refine own_by (T' := T6) (g' := (mkF m 29 #[.val (.int q), .val (.int (1 : Int32)), .val (.ref a_DELETE), .val (.int (0 : Int32)), .val (.int (0 : Int32))] [(.int (0 : Int32)), (.int (0 : Int32))])) (fun t_ k_ => XS.iload X6.here hx rfl (hb hby at_27) rfl k_) ?_
    refine own_by (T' := T6) (g' := (mkF m 32 #[.val (.int q), .val (.int (1 : Int32)), .val (.ref a_DELETE), .val (.int (0 : Int32)), .val (.int (0 : Int32))] [])) (fun t_ k_ => XS.icmpNo X6.here hx rfl (hb hby at_29) rfl (teq ((by decide) : (0 : Int32) = (0 : Int32))).2 k_) ?_
    refine own_by (T' := T6) (g' := (mkF m 33 #[.val (.int q), .val (.int (1 : Int32)), .val (.ref a_DELETE), .val (.int (0 : Int32)), .val (.int (0 : Int32))] [(.int (0 : Int32))])) (fun t_ k_ => XS.iloadN X6.here hx rfl (hb hby at_32) rfl k_) ?_
    refine own_by (T' := T6) (g' := (mkF m 34 #[.val (.int q), .val (.int (1 : Int32)), .val (.ref a_DELETE), .val (.int (0 : Int32)), .val (.int (0 : Int32))] [(.ref a_DELETE), (.int (0 : Int32))])) (fun t_ k_ => XS.aloadN X6.here hx rfl (hb hby at_33) rfl rfl k_) ?_
    obtain ⟨_, T7, L7, X7, hQ7, st7⟩ := own_callV X6 hx hZ (y := (⟨"com/example/rowgate/rowgate/Edit$Kind", "givesBytes", "()Z"⟩ : MethodName)) hown (hw _ (List.mem_of_getElem? (i := 16) rfl)) (hw _ (List.mem_of_getElem? (i := 17) rfl)) (hw _ (List.mem_of_getElem? (i := 19) rfl)) (hw _ (List.mem_of_getElem? (i := 18) rfl)) (hw _ (List.mem_of_getElem? (i := 5) rfl)) (hw _ (List.mem_of_getElem? (i := 20) rfl)) (by decide) (argsL := []) (rest := [(.int (0 : Int32))]) E_DELETE (own_rm_gv l Z a0 hw [] a_DELETE (0 : Int32) h0 n0 Z0 F_DELETE_givesBytes rfl) e6 (W := 1) (by decide) (by decide) (by decide) (by decide) (g := (mkF m 34 #[.val (.int q), .val (.int (1 : Int32)), .val (.ref a_DELETE), .val (.int (0 : Int32)), .val (.int (0 : Int32))] [(.ref a_DELETE), (.int (0 : Int32))])) rfl (by rw [hml]; rfl) (lenOf own_pd1 rfl) rfl (by show 2 * 0 + _ ≤ _; exact Nat.le_of_eq rfl) (hb hby at_34)
    obtain ⟨rfl, Nq7, e7⟩ := hQ7
    have N7 := Fr.app N6 Nq7
    refine st7 _ ?_
    show own_Goes p e below _ T7 (mkF m 37 #[.val (.int q), .val (.int (1 : Int32)), .val (.ref a_DELETE), .val (.int (0 : Int32)), .val (.int (0 : Int32))] [(.int (0 : Int32)), (.int (0 : Int32))])
    refine own_by (T' := T7) (g' := (mkF m 51 #[.val (.int q), .val (.int (1 : Int32)), .val (.ref a_DELETE), .val (.int (0 : Int32)), .val (.int (0 : Int32))] [(.int (0 : Int32))])) (fun t_ k_ => XS.ifYes X7.here hx rfl (pc0 := 37) (pc' := 51) rfl (hb hby at_37) rfl ((if0 _ _).trans (teq ((by decide) : (0 : Int32) = (0 : Int32))).1) (by decide) (by decide) k_) ?_
    refine own_by (T' := T7) (g' := (mkF m 52 #[.val (.int q), .val (.int (1 : Int32)), .val (.ref a_DELETE), .val (.int (0 : Int32)), .val (.int (0 : Int32))] [(.int (0 : Int32)), (.int (0 : Int32))])) (fun t_ k_ => XS.iconst X7.here hx rfl (hb hby at_51) k_) ?_
    refine own_by (T' := T7) (g' := (mkF m 55 #[.val (.int q), .val (.int (1 : Int32)), .val (.ref a_DELETE), .val (.int (0 : Int32)), .val (.int (0 : Int32))] [])) (fun t_ k_ => XS.icmpNo X7.here hx rfl (hb hby at_52) rfl (teq ((by decide) : (0 : Int32) = (0 : Int32))).2 k_) ?_
    refine own_by (T' := T7) (g' := (mkF m 56 #[.val (.int q), .val (.int (1 : Int32)), .val (.ref a_DELETE), .val (.int (0 : Int32)), .val (.int (0 : Int32))] [(.int (1 : Int32))])) (fun t_ k_ => XS.iconst X7.here hx rfl (hb hby at_55) k_) ?_
    refine own_by (T' := T7) (g' := (mkF m 60 #[.val (.int q), .val (.int (1 : Int32)), .val (.ref a_DELETE), .val (.int (0 : Int32)), .val (.int (0 : Int32))] [(.int (1 : Int32))])) (fun t_ k_ => XS.goto X7.here hx rfl (pc0 := 56) (pc' := 60) rfl (hb hby at_56) (by decide) (by decide) k_) ?_
    refine own_retN X7 hx (t := .boolean) Bd.returns hlk (by simp) (hb hby at_60) (by decide) (by decide) (v := (1 : Int32)) rfl ?_
    rw [e7]
    exact ⟨rfl, N7⟩
  · skip
    rw [hk]
    refine own_by (T' := s₁) (g' := (mkF m 5 #[.val (.int q), .val (.int (2 : Int32)), .unset, .unset, .unset] [(.int (2 : Int32))])) (fun t_ k_ => XS.iloadN X0.here hx rfl (hb hby at_4) rfl k_) ?_
    obtain ⟨_, T8, L8, X8, hQ8, st8⟩ := own_callS X0 hx hZ (y := (⟨"com/example/rowgate/rowgate/KindMarksCellsPinLaw", "kindOf", "(I)Lcom/example/rowgate/rowgate/Edit$Kind;"⟩ : MethodName)) hown (hw _ (List.mem_of_getElem? (i := 0) rfl)) (hw _ (List.mem_of_getElem? (i := 1) rfl)) (hw _ (List.mem_of_getElem? (i := 2) rfl)) (hw _ (List.mem_of_getElem? (i := 3) rfl)) (by decide) (argsL := [(.int (2 : Int32))]) (rest := []) (own_rm_pick l Z a0 hw [] (2 : Int32) a_PUT a_DELETE a_APPEND a_MUTATE h0 n0 Z0 S_PUT S_DELETE S_APPEND S_MUTATE) e0 (W := 0) (by decide) (by decide) (by decide) (by decide) (g := (mkF m 5 #[.val (.int q), .val (.int (2 : Int32)), .unset, .unset, .unset] [(.int (2 : Int32))])) rfl (by rw [hml]; rfl) (lenOf own_pd0 rfl) rfl (by show 2 * 0 + _ ≤ _; exact Nat.le_of_eq rfl) (hb hby at_5)
    obtain ⟨rfl, Nq8, e8⟩ := hQ8
    have N8 := Fr.app N0 Nq8
    refine st8 _ ?_
    show own_Goes p e below _ T8 (mkF m 8 #[.val (.int q), .val (.int (2 : Int32)), .unset, .unset, .unset] [(.ref a_APPEND)])
    refine own_by (T' := T8) (g' := (mkF m 9 #[.val (.int q), .val (.int (2 : Int32)), .val (.ref a_APPEND), .unset, .unset] [])) (fun t_ k_ => XS.astoreN X8.here hx rfl (hb hby at_8) rfl rfl (l' := #[.val (.int q), .val (.int (2 : Int32)), .val (.ref a_APPEND), .unset, .unset]) rfl k_) ?_
    refine own_by (T' := T8) (g' := (mkF m 10 #[.val (.int q), .val (.int (2 : Int32)), .val (.ref a_APPEND), .unset, .unset] [(.ref a_APPEND)])) (fun t_ k_ => XS.aloadN X8.here hx rfl (hb hby at_9) rfl rfl k_) ?_
    obtain ⟨_, T9, L9, X9, hQ9, st9⟩ := own_callV X8 hx hZ (y := (⟨"com/example/rowgate/rowgate/Edit$Kind", "marksCells", "()Z"⟩ : MethodName)) hown (hw _ (List.mem_of_getElem? (i := 7) rfl)) (hw _ (List.mem_of_getElem? (i := 8) rfl)) (hw _ (List.mem_of_getElem? (i := 10) rfl)) (hw _ (List.mem_of_getElem? (i := 9) rfl)) (hw _ (List.mem_of_getElem? (i := 5) rfl)) (hw _ (List.mem_of_getElem? (i := 11) rfl)) (by decide) (argsL := []) (rest := []) E_APPEND (own_rm_mk l Z a0 hw [] a_APPEND (1 : Int32) (0 : Int32) (0 : Int32) h0 n0 Z0 F_APPEND_givesBytes F_APPEND_deletes (by decide)) e8 (W := 0) (by decide) (by decide) (by decide) (by decide) (g := (mkF m 10 #[.val (.int q), .val (.int (2 : Int32)), .val (.ref a_APPEND), .unset, .unset] [(.ref a_APPEND)])) rfl (by rw [hml]; rfl) (lenOf own_pd1 rfl) rfl (by show 2 * 0 + _ ≤ _; exact Nat.le_of_eq rfl) (hb hby at_10)
    obtain ⟨rfl, Nq9, e9⟩ := hQ9
    have N9 := Fr.app N8 Nq9
    refine st9 _ ?_
    show own_Goes p e below _ T9 (mkF m 13 #[.val (.int q), .val (.int (2 : Int32)), .val (.ref a_APPEND), .unset, .unset] [(.int (0 : Int32))])
    refine own_by (T' := T9) (g' := (mkF m 14 #[.val (.int q), .val (.int (2 : Int32)), .val (.ref a_APPEND), .val (.int (0 : Int32)), .unset] [])) (fun t_ k_ => XS.istoreN X9.here hx rfl (hb hby at_13) rfl (l' := #[.val (.int q), .val (.int (2 : Int32)), .val (.ref a_APPEND), .val (.int (0 : Int32)), .unset]) rfl k_) ?_
    refine own_by (T' := T9) (g' := (mkF m 15 #[.val (.int q), .val (.int (2 : Int32)), .val (.ref a_APPEND), .val (.int (0 : Int32)), .unset] [(.int (2 : Int32))])) (fun t_ k_ => XS.iloadN X9.here hx rfl (hb hby at_14) rfl k_) ?_
    refine own_by (T' := T9) (g' := (mkF m 16 #[.val (.int q), .val (.int (2 : Int32)), .val (.ref a_APPEND), .val (.int (0 : Int32)), .unset] [(.int (3 : Int32)), (.int (2 : Int32))])) (fun t_ k_ => XS.iconst X9.here hx rfl (hb hby at_15) k_) ?_
    refine own_by (T' := T9) (g' := (mkF m 23 #[.val (.int q), .val (.int (2 : Int32)), .val (.ref a_APPEND), .val (.int (0 : Int32)), .unset] [])) (fun t_ k_ => XS.icmpYes X9.here hx rfl (pc0 := 16) (pc' := 23) rfl (hb hby at_16) rfl (feq ((by decide) : ¬ ((2 : Int32) = (3 : Int32)))).2 (by decide) (by decide) k_) ?_
    refine own_by (T' := T9) (g' := (mkF m 24 #[.val (.int q), .val (.int (2 : Int32)), .val (.ref a_APPEND), .val (.int (0 : Int32)), .unset] [(.int (0 : Int32))])) (fun t_ k_ => XS.iconst X9.here hx rfl (hb hby at_23) k_) ?_
    refine own_by (T' := T9) (g' := (mkF m 26 #[.val (.int q), .val (.int (2 : Int32)), .val (.ref a_APPEND), .val (.int (0 : Int32)), .val (.int (0 : Int32))] [])) (fun t_ k_ => XS.istore X9.here hx rfl (hb hby at_24) rfl (l' := #[.val (.int q), .val (.int (2 : Int32)), .val (.ref a_APPEND), .val (.int (0 : Int32)), .val (.int (0 : Int32))]) rfl k_) ?_
    refine own_by (T' := T9) (g' := (mkF m 27 #[.val (.int q), .val (.int (2 : Int32)), .val (.ref a_APPEND), .val (.int (0 : Int32)), .val (.int (0 : Int32))] [(.int (0 : Int32))])) (fun t_ k_ => XS.iloadN X9.here hx rfl (hb hby at_26) rfl k_) ?_
    refine own_by (T' := T9) (g' := (mkF m 29 #[.val (.int q), .val (.int (2 : Int32)), .val (.ref a_APPEND), .val (.int (0 : Int32)), .val (.int (0 : Int32))] [(.int (0 : Int32)), (.int (0 : Int32))])) (fun t_ k_ => XS.iload X9.here hx rfl (hb hby at_27) rfl k_) ?_
    refine own_by (T' := T9) (g' := (mkF m 32 #[.val (.int q), .val (.int (2 : Int32)), .val (.ref a_APPEND), .val (.int (0 : Int32)), .val (.int (0 : Int32))] [])) (fun t_ k_ => XS.icmpNo X9.here hx rfl (hb hby at_29) rfl (teq ((by decide) : (0 : Int32) = (0 : Int32))).2 k_) ?_
    refine own_by (T' := T9) (g' := (mkF m 33 #[.val (.int q), .val (.int (2 : Int32)), .val (.ref a_APPEND), .val (.int (0 : Int32)), .val (.int (0 : Int32))] [(.int (0 : Int32))])) (fun t_ k_ => XS.iloadN X9.here hx rfl (hb hby at_32) rfl k_) ?_
    refine own_by (T' := T9) (g' := (mkF m 34 #[.val (.int q), .val (.int (2 : Int32)), .val (.ref a_APPEND), .val (.int (0 : Int32)), .val (.int (0 : Int32))] [(.ref a_APPEND), (.int (0 : Int32))])) (fun t_ k_ => XS.aloadN X9.here hx rfl (hb hby at_33) rfl rfl k_) ?_
    obtain ⟨_, T10, L10, X10, hQ10, st10⟩ := own_callV X9 hx hZ (y := (⟨"com/example/rowgate/rowgate/Edit$Kind", "givesBytes", "()Z"⟩ : MethodName)) hown (hw _ (List.mem_of_getElem? (i := 16) rfl)) (hw _ (List.mem_of_getElem? (i := 17) rfl)) (hw _ (List.mem_of_getElem? (i := 19) rfl)) (hw _ (List.mem_of_getElem? (i := 18) rfl)) (hw _ (List.mem_of_getElem? (i := 5) rfl)) (hw _ (List.mem_of_getElem? (i := 20) rfl)) (by decide) (argsL := []) (rest := [(.int (0 : Int32))]) E_APPEND (own_rm_gv l Z a0 hw [] a_APPEND (1 : Int32) h0 n0 Z0 F_APPEND_givesBytes rfl) e9 (W := 1) (by decide) (by decide) (by decide) (by decide) (g := (mkF m 34 #[.val (.int q), .val (.int (2 : Int32)), .val (.ref a_APPEND), .val (.int (0 : Int32)), .val (.int (0 : Int32))] [(.ref a_APPEND), (.int (0 : Int32))])) rfl (by rw [hml]; rfl) (lenOf own_pd1 rfl) rfl (by show 2 * 0 + _ ≤ _; exact Nat.le_of_eq rfl) (hb hby at_34)
    obtain ⟨rfl, Nq10, e10⟩ := hQ10
    have N10 := Fr.app N9 Nq10
    refine st10 _ ?_
    show own_Goes p e below _ T10 (mkF m 37 #[.val (.int q), .val (.int (2 : Int32)), .val (.ref a_APPEND), .val (.int (0 : Int32)), .val (.int (0 : Int32))] [(.int (1 : Int32)), (.int (0 : Int32))])
    refine own_by (T' := T10) (g' := (mkF m 40 #[.val (.int q), .val (.int (2 : Int32)), .val (.ref a_APPEND), .val (.int (0 : Int32)), .val (.int (0 : Int32))] [(.int (0 : Int32))])) (fun t_ k_ => XS.ifNo X10.here hx rfl (hb hby at_37) rfl ((if0 _ _).trans (feq ((by decide) : ¬ ((1 : Int32) = (0 : Int32)))).1) k_) ?_
    refine own_by (T' := T10) (g' := (mkF m 41 #[.val (.int q), .val (.int (2 : Int32)), .val (.ref a_APPEND), .val (.int (0 : Int32)), .val (.int (0 : Int32))] [(.ref a_APPEND), (.int (0 : Int32))])) (fun t_ k_ => XS.aloadN X10.here hx rfl (hb hby at_40) rfl rfl k_) ?_
    obtain ⟨_, T11, L11, X11, hQ11, st11⟩ := own_callV X10 hx hZ (y := (⟨"com/example/rowgate/rowgate/Edit$Kind", "deletes", "()Z"⟩ : MethodName)) hown (hw _ (List.mem_of_getElem? (i := 21) rfl)) (hw _ (List.mem_of_getElem? (i := 22) rfl)) (hw _ (List.mem_of_getElem? (i := 24) rfl)) (hw _ (List.mem_of_getElem? (i := 23) rfl)) (hw _ (List.mem_of_getElem? (i := 5) rfl)) (hw _ (List.mem_of_getElem? (i := 25) rfl)) (by decide) (argsL := []) (rest := [(.int (0 : Int32))]) E_APPEND (own_rm_dl l Z a0 hw [] a_APPEND (0 : Int32) h0 n0 Z0 F_APPEND_deletes rfl) e10 (W := 1) (by decide) (by decide) (by decide) (by decide) (g := (mkF m 41 #[.val (.int q), .val (.int (2 : Int32)), .val (.ref a_APPEND), .val (.int (0 : Int32)), .val (.int (0 : Int32))] [(.ref a_APPEND), (.int (0 : Int32))])) rfl (by rw [hml]; rfl) (lenOf own_pd1 rfl) rfl (by show 2 * 0 + _ ≤ _; exact Nat.le_of_eq rfl) (hb hby at_41)
    obtain ⟨rfl, Nq11, e11⟩ := hQ11
    have N11 := Fr.app N10 Nq11
    refine st11 _ ?_
    show own_Goes p e below _ T11 (mkF m 44 #[.val (.int q), .val (.int (2 : Int32)), .val (.ref a_APPEND), .val (.int (0 : Int32)), .val (.int (0 : Int32))] [(.int (0 : Int32)), (.int (0 : Int32))])
    refine own_by (T' := T11) (g' := (mkF m 51 #[.val (.int q), .val (.int (2 : Int32)), .val (.ref a_APPEND), .val (.int (0 : Int32)), .val (.int (0 : Int32))] [(.int (0 : Int32))])) (fun t_ k_ => XS.ifYes X11.here hx rfl (pc0 := 44) (pc' := 51) rfl (hb hby at_44) rfl ((if0 _ _).trans (teq ((by decide) : (0 : Int32) = (0 : Int32))).1) (by decide) (by decide) k_) ?_
    refine own_by (T' := T11) (g' := (mkF m 52 #[.val (.int q), .val (.int (2 : Int32)), .val (.ref a_APPEND), .val (.int (0 : Int32)), .val (.int (0 : Int32))] [(.int (0 : Int32)), (.int (0 : Int32))])) (fun t_ k_ => XS.iconst X11.here hx rfl (hb hby at_51) k_) ?_
    refine own_by (T' := T11) (g' := (mkF m 55 #[.val (.int q), .val (.int (2 : Int32)), .val (.ref a_APPEND), .val (.int (0 : Int32)), .val (.int (0 : Int32))] [])) (fun t_ k_ => XS.icmpNo X11.here hx rfl (hb hby at_52) rfl (teq ((by decide) : (0 : Int32) = (0 : Int32))).2 k_) ?_
    refine own_by (T' := T11) (g' := (mkF m 56 #[.val (.int q), .val (.int (2 : Int32)), .val (.ref a_APPEND), .val (.int (0 : Int32)), .val (.int (0 : Int32))] [(.int (1 : Int32))])) (fun t_ k_ => XS.iconst X11.here hx rfl (hb hby at_55) k_) ?_
    refine own_by (T' := T11) (g' := (mkF m 60 #[.val (.int q), .val (.int (2 : Int32)), .val (.ref a_APPEND), .val (.int (0 : Int32)), .val (.int (0 : Int32))] [(.int (1 : Int32))])) (fun t_ k_ => XS.goto X11.here hx rfl (pc0 := 56) (pc' := 60) rfl (hb hby at_56) (by decide) (by decide) k_) ?_
    refine own_retN X11 hx (t := .boolean) Bd.returns hlk (by simp) (hb hby at_60) (by decide) (by decide) (v := (1 : Int32)) rfl ?_
    rw [e11]
    exact ⟨rfl, N11⟩
  · skip
    rw [hk]
    refine own_by (T' := s₁) (g' := (mkF m 5 #[.val (.int q), .val (.int (3 : Int32)), .unset, .unset, .unset] [(.int (3 : Int32))])) (fun t_ k_ => XS.iloadN X0.here hx rfl (hb hby at_4) rfl k_) ?_
    obtain ⟨_, T12, L12, X12, hQ12, st12⟩ := own_callS X0 hx hZ (y := (⟨"com/example/rowgate/rowgate/KindMarksCellsPinLaw", "kindOf", "(I)Lcom/example/rowgate/rowgate/Edit$Kind;"⟩ : MethodName)) hown (hw _ (List.mem_of_getElem? (i := 0) rfl)) (hw _ (List.mem_of_getElem? (i := 1) rfl)) (hw _ (List.mem_of_getElem? (i := 2) rfl)) (hw _ (List.mem_of_getElem? (i := 3) rfl)) (by decide) (argsL := [(.int (3 : Int32))]) (rest := []) (own_rm_pick l Z a0 hw [] (3 : Int32) a_PUT a_DELETE a_APPEND a_MUTATE h0 n0 Z0 S_PUT S_DELETE S_APPEND S_MUTATE) e0 (W := 0) (by decide) (by decide) (by decide) (by decide) (g := (mkF m 5 #[.val (.int q), .val (.int (3 : Int32)), .unset, .unset, .unset] [(.int (3 : Int32))])) rfl (by rw [hml]; rfl) (lenOf own_pd0 rfl) rfl (by show 2 * 0 + _ ≤ _; exact Nat.le_of_eq rfl) (hb hby at_5)
    obtain ⟨rfl, Nq12, e12⟩ := hQ12
    have N12 := Fr.app N0 Nq12
    refine st12 _ ?_
    show own_Goes p e below _ T12 (mkF m 8 #[.val (.int q), .val (.int (3 : Int32)), .unset, .unset, .unset] [(.ref a_MUTATE)])
    refine own_by (T' := T12) (g' := (mkF m 9 #[.val (.int q), .val (.int (3 : Int32)), .val (.ref a_MUTATE), .unset, .unset] [])) (fun t_ k_ => XS.astoreN X12.here hx rfl (hb hby at_8) rfl rfl (l' := #[.val (.int q), .val (.int (3 : Int32)), .val (.ref a_MUTATE), .unset, .unset]) rfl k_) ?_
    refine own_by (T' := T12) (g' := (mkF m 10 #[.val (.int q), .val (.int (3 : Int32)), .val (.ref a_MUTATE), .unset, .unset] [(.ref a_MUTATE)])) (fun t_ k_ => XS.aloadN X12.here hx rfl (hb hby at_9) rfl rfl k_) ?_
    obtain ⟨_, T13, L13, X13, hQ13, st13⟩ := own_callV X12 hx hZ (y := (⟨"com/example/rowgate/rowgate/Edit$Kind", "marksCells", "()Z"⟩ : MethodName)) hown (hw _ (List.mem_of_getElem? (i := 7) rfl)) (hw _ (List.mem_of_getElem? (i := 8) rfl)) (hw _ (List.mem_of_getElem? (i := 10) rfl)) (hw _ (List.mem_of_getElem? (i := 9) rfl)) (hw _ (List.mem_of_getElem? (i := 5) rfl)) (hw _ (List.mem_of_getElem? (i := 11) rfl)) (by decide) (argsL := []) (rest := []) E_MUTATE (own_rm_mk l Z a0 hw [] a_MUTATE (1 : Int32) (1 : Int32) (1 : Int32) h0 n0 Z0 F_MUTATE_givesBytes F_MUTATE_deletes (by decide)) e12 (W := 0) (by decide) (by decide) (by decide) (by decide) (g := (mkF m 10 #[.val (.int q), .val (.int (3 : Int32)), .val (.ref a_MUTATE), .unset, .unset] [(.ref a_MUTATE)])) rfl (by rw [hml]; rfl) (lenOf own_pd1 rfl) rfl (by show 2 * 0 + _ ≤ _; exact Nat.le_of_eq rfl) (hb hby at_10)
    obtain ⟨rfl, Nq13, e13⟩ := hQ13
    have N13 := Fr.app N12 Nq13
    refine st13 _ ?_
    show own_Goes p e below _ T13 (mkF m 13 #[.val (.int q), .val (.int (3 : Int32)), .val (.ref a_MUTATE), .unset, .unset] [(.int (1 : Int32))])
    refine own_by (T' := T13) (g' := (mkF m 14 #[.val (.int q), .val (.int (3 : Int32)), .val (.ref a_MUTATE), .val (.int (1 : Int32)), .unset] [])) (fun t_ k_ => XS.istoreN X13.here hx rfl (hb hby at_13) rfl (l' := #[.val (.int q), .val (.int (3 : Int32)), .val (.ref a_MUTATE), .val (.int (1 : Int32)), .unset]) rfl k_) ?_
    refine own_by (T' := T13) (g' := (mkF m 15 #[.val (.int q), .val (.int (3 : Int32)), .val (.ref a_MUTATE), .val (.int (1 : Int32)), .unset] [(.int (3 : Int32))])) (fun t_ k_ => XS.iloadN X13.here hx rfl (hb hby at_14) rfl k_) ?_
    refine own_by (T' := T13) (g' := (mkF m 16 #[.val (.int q), .val (.int (3 : Int32)), .val (.ref a_MUTATE), .val (.int (1 : Int32)), .unset] [(.int (3 : Int32)), (.int (3 : Int32))])) (fun t_ k_ => XS.iconst X13.here hx rfl (hb hby at_15) k_) ?_
    refine own_by (T' := T13) (g' := (mkF m 19 #[.val (.int q), .val (.int (3 : Int32)), .val (.ref a_MUTATE), .val (.int (1 : Int32)), .unset] [])) (fun t_ k_ => XS.icmpNo X13.here hx rfl (hb hby at_16) rfl (teq ((by decide) : (3 : Int32) = (3 : Int32))).2 k_) ?_
    refine own_by (T' := T13) (g' := (mkF m 20 #[.val (.int q), .val (.int (3 : Int32)), .val (.ref a_MUTATE), .val (.int (1 : Int32)), .unset] [(.int (1 : Int32))])) (fun t_ k_ => XS.iconst X13.here hx rfl (hb hby at_19) k_) ?_
    refine own_by (T' := T13) (g' := (mkF m 24 #[.val (.int q), .val (.int (3 : Int32)), .val (.ref a_MUTATE), .val (.int (1 : Int32)), .unset] [(.int (1 : Int32))])) (fun t_ k_ => XS.goto X13.here hx rfl (pc0 := 20) (pc' := 24) rfl (hb hby at_20) (by decide) (by decide) k_) ?_
    refine own_by (T' := T13) (g' := (mkF m 26 #[.val (.int q), .val (.int (3 : Int32)), .val (.ref a_MUTATE), .val (.int (1 : Int32)), .val (.int (1 : Int32))] [])) (fun t_ k_ => XS.istore X13.here hx rfl (hb hby at_24) rfl (l' := #[.val (.int q), .val (.int (3 : Int32)), .val (.ref a_MUTATE), .val (.int (1 : Int32)), .val (.int (1 : Int32))]) rfl k_) ?_
    refine own_by (T' := T13) (g' := (mkF m 27 #[.val (.int q), .val (.int (3 : Int32)), .val (.ref a_MUTATE), .val (.int (1 : Int32)), .val (.int (1 : Int32))] [(.int (1 : Int32))])) (fun t_ k_ => XS.iloadN X13.here hx rfl (hb hby at_26) rfl k_) ?_
    refine own_by (T' := T13) (g' := (mkF m 29 #[.val (.int q), .val (.int (3 : Int32)), .val (.ref a_MUTATE), .val (.int (1 : Int32)), .val (.int (1 : Int32))] [(.int (1 : Int32)), (.int (1 : Int32))])) (fun t_ k_ => XS.iload X13.here hx rfl (hb hby at_27) rfl k_) ?_
    refine own_by (T' := T13) (g' := (mkF m 32 #[.val (.int q), .val (.int (3 : Int32)), .val (.ref a_MUTATE), .val (.int (1 : Int32)), .val (.int (1 : Int32))] [])) (fun t_ k_ => XS.icmpNo X13.here hx rfl (hb hby at_29) rfl (teq ((by decide) : (1 : Int32) = (1 : Int32))).2 k_) ?_
    refine own_by (T' := T13) (g' := (mkF m 33 #[.val (.int q), .val (.int (3 : Int32)), .val (.ref a_MUTATE), .val (.int (1 : Int32)), .val (.int (1 : Int32))] [(.int (1 : Int32))])) (fun t_ k_ => XS.iloadN X13.here hx rfl (hb hby at_32) rfl k_) ?_
    refine own_by (T' := T13) (g' := (mkF m 34 #[.val (.int q), .val (.int (3 : Int32)), .val (.ref a_MUTATE), .val (.int (1 : Int32)), .val (.int (1 : Int32))] [(.ref a_MUTATE), (.int (1 : Int32))])) (fun t_ k_ => XS.aloadN X13.here hx rfl (hb hby at_33) rfl rfl k_) ?_
    obtain ⟨_, T14, L14, X14, hQ14, st14⟩ := own_callV X13 hx hZ (y := (⟨"com/example/rowgate/rowgate/Edit$Kind", "givesBytes", "()Z"⟩ : MethodName)) hown (hw _ (List.mem_of_getElem? (i := 16) rfl)) (hw _ (List.mem_of_getElem? (i := 17) rfl)) (hw _ (List.mem_of_getElem? (i := 19) rfl)) (hw _ (List.mem_of_getElem? (i := 18) rfl)) (hw _ (List.mem_of_getElem? (i := 5) rfl)) (hw _ (List.mem_of_getElem? (i := 20) rfl)) (by decide) (argsL := []) (rest := [(.int (1 : Int32))]) E_MUTATE (own_rm_gv l Z a0 hw [] a_MUTATE (1 : Int32) h0 n0 Z0 F_MUTATE_givesBytes rfl) e13 (W := 1) (by decide) (by decide) (by decide) (by decide) (g := (mkF m 34 #[.val (.int q), .val (.int (3 : Int32)), .val (.ref a_MUTATE), .val (.int (1 : Int32)), .val (.int (1 : Int32))] [(.ref a_MUTATE), (.int (1 : Int32))])) rfl (by rw [hml]; rfl) (lenOf own_pd1 rfl) rfl (by show 2 * 0 + _ ≤ _; exact Nat.le_of_eq rfl) (hb hby at_34)
    obtain ⟨rfl, Nq14, e14⟩ := hQ14
    have N14 := Fr.app N13 Nq14
    refine st14 _ ?_
    show own_Goes p e below _ T14 (mkF m 37 #[.val (.int q), .val (.int (3 : Int32)), .val (.ref a_MUTATE), .val (.int (1 : Int32)), .val (.int (1 : Int32))] [(.int (1 : Int32)), (.int (1 : Int32))])
    refine own_by (T' := T14) (g' := (mkF m 40 #[.val (.int q), .val (.int (3 : Int32)), .val (.ref a_MUTATE), .val (.int (1 : Int32)), .val (.int (1 : Int32))] [(.int (1 : Int32))])) (fun t_ k_ => XS.ifNo X14.here hx rfl (hb hby at_37) rfl ((if0 _ _).trans (feq ((by decide) : ¬ ((1 : Int32) = (0 : Int32)))).1) k_) ?_
    refine own_by (T' := T14) (g' := (mkF m 41 #[.val (.int q), .val (.int (3 : Int32)), .val (.ref a_MUTATE), .val (.int (1 : Int32)), .val (.int (1 : Int32))] [(.ref a_MUTATE), (.int (1 : Int32))])) (fun t_ k_ => XS.aloadN X14.here hx rfl (hb hby at_40) rfl rfl k_) ?_
    obtain ⟨_, T15, L15, X15, hQ15, st15⟩ := own_callV X14 hx hZ (y := (⟨"com/example/rowgate/rowgate/Edit$Kind", "deletes", "()Z"⟩ : MethodName)) hown (hw _ (List.mem_of_getElem? (i := 21) rfl)) (hw _ (List.mem_of_getElem? (i := 22) rfl)) (hw _ (List.mem_of_getElem? (i := 24) rfl)) (hw _ (List.mem_of_getElem? (i := 23) rfl)) (hw _ (List.mem_of_getElem? (i := 5) rfl)) (hw _ (List.mem_of_getElem? (i := 25) rfl)) (by decide) (argsL := []) (rest := [(.int (1 : Int32))]) E_MUTATE (own_rm_dl l Z a0 hw [] a_MUTATE (1 : Int32) h0 n0 Z0 F_MUTATE_deletes rfl) e14 (W := 1) (by decide) (by decide) (by decide) (by decide) (g := (mkF m 41 #[.val (.int q), .val (.int (3 : Int32)), .val (.ref a_MUTATE), .val (.int (1 : Int32)), .val (.int (1 : Int32))] [(.ref a_MUTATE), (.int (1 : Int32))])) rfl (by rw [hml]; rfl) (lenOf own_pd1 rfl) rfl (by show 2 * 0 + _ ≤ _; exact Nat.le_of_eq rfl) (hb hby at_41)
    obtain ⟨rfl, Nq15, e15⟩ := hQ15
    have N15 := Fr.app N14 Nq15
    refine st15 _ ?_
    show own_Goes p e below _ T15 (mkF m 44 #[.val (.int q), .val (.int (3 : Int32)), .val (.ref a_MUTATE), .val (.int (1 : Int32)), .val (.int (1 : Int32))] [(.int (1 : Int32)), (.int (1 : Int32))])
    refine own_by (T' := T15) (g' := (mkF m 47 #[.val (.int q), .val (.int (3 : Int32)), .val (.ref a_MUTATE), .val (.int (1 : Int32)), .val (.int (1 : Int32))] [(.int (1 : Int32))])) (fun t_ k_ => XS.ifNo X15.here hx rfl (hb hby at_44) rfl ((if0 _ _).trans (feq ((by decide) : ¬ ((1 : Int32) = (0 : Int32)))).1) k_) ?_
    refine own_by (T' := T15) (g' := (mkF m 48 #[.val (.int q), .val (.int (3 : Int32)), .val (.ref a_MUTATE), .val (.int (1 : Int32)), .val (.int (1 : Int32))] [(.int (1 : Int32)), (.int (1 : Int32))])) (fun t_ k_ => XS.iconst X15.here hx rfl (hb hby at_47) k_) ?_
    refine own_by (T' := T15) (g' := (mkF m 52 #[.val (.int q), .val (.int (3 : Int32)), .val (.ref a_MUTATE), .val (.int (1 : Int32)), .val (.int (1 : Int32))] [(.int (1 : Int32)), (.int (1 : Int32))])) (fun t_ k_ => XS.goto X15.here hx rfl (pc0 := 48) (pc' := 52) rfl (hb hby at_48) (by decide) (by decide) k_) ?_
    refine own_by (T' := T15) (g' := (mkF m 55 #[.val (.int q), .val (.int (3 : Int32)), .val (.ref a_MUTATE), .val (.int (1 : Int32)), .val (.int (1 : Int32))] [])) (fun t_ k_ => XS.icmpNo X15.here hx rfl (hb hby at_52) rfl (teq ((by decide) : (1 : Int32) = (1 : Int32))).2 k_) ?_
    refine own_by (T' := T15) (g' := (mkF m 56 #[.val (.int q), .val (.int (3 : Int32)), .val (.ref a_MUTATE), .val (.int (1 : Int32)), .val (.int (1 : Int32))] [(.int (1 : Int32))])) (fun t_ k_ => XS.iconst X15.here hx rfl (hb hby at_55) k_) ?_
    refine own_by (T' := T15) (g' := (mkF m 60 #[.val (.int q), .val (.int (3 : Int32)), .val (.ref a_MUTATE), .val (.int (1 : Int32)), .val (.int (1 : Int32))] [(.int (1 : Int32))])) (fun t_ k_ => XS.goto X15.here hx rfl (pc0 := 56) (pc' := 60) rfl (hb hby at_56) (by decide) (by decide) k_) ?_
    refine own_retN X15 hx (t := .boolean) Bd.returns hlk (by simp) (hb hby at_60) (by decide) (by decide) (v := (1 : Int32)) rfl ?_
    rw [e15]
    exact ⟨rfl, N15⟩
set_option maxRecDepth 65536 in
set_option maxHeartbeats 40000000 in
theorem own_comes {Post : Tables → Env → Array Value → State → Outcome → State → Prop} (hpost : ∀ tb e args s v u, (limb_1_1.after args s (.returned v) u = true ∧ limb_1_2.after args s (.returned v) u = true ∧ True) → FrameEnd s (.returned v) u (Jvm.fieldLocs frame_1_writes args s ++ Jvm.arrayLocs frame_1_arrays args s ++ Jvm.staticLocs frame_1_statics s) 0 0 → Post tb e args s (.returned v) u) :
    ArmFor flags0 classFile x code maxLocals ret World_1 tables_1 room_1 Calls_1 rest_1 Pre_1 Post := by
  intro l hfl _ _ p e ha hc hk s m args below hf hA hF happ hP
  obtain ⟨hcalls, hrest, hpre⟩ := hP
  obtain ⟨-, -, -, hnamed, -, -, -, hat⟩ := (Spec.applies_iff hf).mp happ
  obtain ⟨hg, hn⟩ := and_e (Cond.before_iff.mp (show (Jvm.Cond.and given_1 narrow_1).before args s = true from hpre))
  obtain ⟨g0, gr0⟩ := and_e hg
  obtain ⟨w0, rfl⟩ : ∃ w0 : Value, args = #[w0] := by
    have hs : args.size = 1 := by simpa [Cond.value, given_1] using g0
    obtain ⟨L⟩ := args
    match L, hs with
    | [w0], _ => exact ⟨w0, rfl⟩
  have hw := fun d (hd : d ∈ tables_1) => atoms_spec (ws := Jvm.Cond.code x code maxLocals ret :: tables_1) hat d (List.mem_cons_of_mem _ hd)
  have hfit : Fit s := fun {y c} hc i hi => by
    obtain ⟨ha, rfl⟩ := Array.getElem?_eq_some_iff.mp hc
    have q := List.all_eq_true.mp ((Array.all_eq_true_iff_forall_mem.mp hF) _ (Array.getElem_mem ha)) i (List.mem_range.mpr hi)
    simpa [Array.getElem?_eq_getElem hi] using q
  obtain ⟨i0, ei0⟩ := is_v gr0
  obtain rfl : w0 = (.int i0) := Option.some.inj ei0
  obtain ⟨nc0, nr0⟩ := and_e hn
  obtain ⟨nc1, nr1⟩ := and_e nr0
  obtain ⟨nc2, nr2⟩ := and_e nr1
  obtain ⟨nc3, nr3⟩ := and_e nr2
  obtain ⟨nc4, nr4⟩ := and_e nr3
  obtain ⟨nc5, nr5⟩ := and_e nr4
  obtain ⟨nc6, nr6⟩ := and_e nr5
  obtain ⟨nc7, nr7⟩ := and_e nr6
  obtain ⟨nc8, nr8⟩ := and_e nr7
  obtain ⟨nc9, nr9⟩ := and_e nr8
  obtain ⟨nc10, nr10⟩ := and_e nr9
  have nc11 := nr10
  obtain ⟨a_PUT, ev_PUT⟩ := exa_v nc0
  have E_PUT := Exa.start ev_PUT nc0
  have S_PUT := Sta.start ev_PUT (Or.inr ⟨(hw _ (List.mem_of_getElem? (i := 5) rfl)), (hw _ (List.mem_of_getElem? (i := 6) rfl))⟩)
  obtain ⟨a_MUTATE, ev_MUTATE⟩ := exa_v nc3
  have E_MUTATE := Exa.start ev_MUTATE nc3
  have S_MUTATE := Sta.start ev_MUTATE (Or.inr ⟨(hw _ (List.mem_of_getElem? (i := 5) rfl)), (hw _ (List.mem_of_getElem? (i := 27) rfl))⟩)
  obtain ⟨a_APPEND, ev_APPEND⟩ := exa_v nc6
  have E_APPEND := Exa.start ev_APPEND nc6
  have S_APPEND := Sta.start ev_APPEND (Or.inr ⟨(hw _ (List.mem_of_getElem? (i := 5) rfl)), (hw _ (List.mem_of_getElem? (i := 29) rfl))⟩)
  obtain ⟨a_DELETE, ev_DELETE⟩ := exa_v nc9
  have E_DELETE := Exa.start ev_DELETE nc9
  have S_DELETE := Sta.start ev_DELETE (Or.inr ⟨(hw _ (List.mem_of_getElem? (i := 5) rfl)), (hw _ (List.mem_of_getElem? (i := 31) rfl))⟩)
  have F_PUT_givesBytes := own_fI ev_PUT nc1
  have F_PUT_deletes := own_fI ev_PUT nc2
  have F_MUTATE_givesBytes := own_fI ev_MUTATE nc4
  have F_MUTATE_deletes := own_fI ev_MUTATE nc5
  have F_APPEND_givesBytes := own_fI ev_APPEND nc7
  have F_APPEND_deletes := own_fI ev_APPEND nc8
  have F_DELETE_givesBytes := own_fI ev_DELETE nc10
  have F_DELETE_deletes := own_fI ev_DELETE nc11
  obtain ⟨n, o, h1, h2, h3, _, L, rfl, ⟨rfl, N⟩, hq⟩ := own_rm_law l s _ hw tables_1 i0 a_PUT a_DELETE a_APPEND a_MUTATE s.heap s.heap.size (Nat.le_refl _) S_PUT S_DELETE S_APPEND S_MUTATE E_PUT E_DELETE E_APPEND E_MUTATE F_PUT_givesBytes F_PUT_deletes F_DELETE_givesBytes F_DELETE_deletes F_APPEND_givesBytes F_APPEND_deletes F_MUTATE_givesBytes F_MUTATE_deletes p e ha hc hk s m _ below hf ((Spec.applies_iff_loose hf).mp happ).1 ⟨rfl, State.Warmed39.refl s, rfl⟩ trivial
  refine ⟨n, _, h1, h2, h3, hpost _ _ _ _ _ _ ⟨Cond.after_iff.mpr rfl, Cond.after_iff.mpr (eq_i res_at (Term.int_eval (1)) rfl), trivial⟩ ⟨hq.1, hq.2.1, (hq.2.2.sift fun y hy => Or.inr (N y hy)).mono (by decide) (by decide)⟩⟩
theorem main_1_1 : Claimed_1_1 := own_comes fun _ _ _ _ _ _ h hF => ⟨h.1, hF⟩
theorem main_1_2 : Claimed_1_2 := own_comes fun _ _ _ _ _ _ h hF => ⟨h.2.1, hF⟩
end Jvm.Pilot.@@N@@
namespace Jvm.Pilot.@@N@@
open Jvm Jvm.ClassFile Sem Op Lib Jvm.Free Jvm.Stand Jvm.Pilot.@@N@@.Jvm.D
/-! MADE BY PROGRAM (witnessworld.py) out of the Statement's table words and the real class files: 12 classes; the members and pool entries that the words name. The judged class is class 1, her method 2. -/
namespace start1
open Jvm.ClassFile
def u (s : String) : CpInfo := .utf8 (stringToUtf16 s)
/-- a pool by its gaps: so many unusable entries, then the entry; so many at the end -/
def gap : Nat → List CpInfo → List CpInfo
  | 0, r => r
  | n + 1, r => .unusable :: gap n r
def poolList (es : List (Nat × CpInfo)) (last : Nat) : List CpInfo := es.foldr (fun e r => gap e.1 (e.2 :: r)) (gap last [])
def pool (es : List (Nat × CpInfo)) (last : Nat) : Array CpInfo := ⟨poolList es last⟩
def fileOf (pool : Array CpInfo) (this : Nat) (attrs : Array Attribute := #[]) (ms : Array MethodInfo := #[]) (fl : Nat := 33) (sup : Nat := 0) (ifs : Array Nat := #[]) (fds : Array FieldInfo := #[]) : ClassFile where
  minorVersion := 0
  majorVersion := 65
  constantPool := pool
  accessFlags := fl
  thisClass := this
  superClass := sup
  interfaces := ifs
  fields := fds
  methods := ms
  attributes := attrs
def plain (name : String) (sup : Option ClassId) : Class where
  name := name
  kind := .ordinary
  loader := none
  accessFlags := 33
  super := sup
  interfaces := #[]
  cf := none
  fields := #[]
  methods := #[]
  instanceTypes := #[]
  staticTypes := #[]
  resolved := #[]
  callSites := []
  init := .initialized
  statics := none
  mirror := none

def pool0 : Array CpInfo := pool [(5, u "<init>"), (0, u "()V"), (1, .class_ 10), (1, u "java/lang/Object")] 113

def k0m0 : Method := { name := "<init>", desc := "()V", sig := { parameters := [], returnType := none }, accessFlags := 1, code := none }
/-- java/lang/Object -/
def k0 : Class := { plain "java/lang/Object" none with
  accessFlags := 33
  interfaces := #[]
  cf := some (fileOf pool0 8 #[] #[{ accessFlags := 1, nameIndex := 5, descriptorIndex := 6, attributes := #[] }] 33 0 #[] #[])
  fields := #[]
  methods := #[k0m0]
  instanceTypes := #[]
  staticTypes := #[]
  resolved := Array.replicate 124 none
  statics := none }

def pool1 : Array CpInfo := pool [(2, .class_ 4), (1, u "java/lang/Object"), (0, u "<init>"), (0, u "()V"), (0, .fieldref 8 9), (0, .class_ 10), (0, .nameAndType 11 12), (0, u "com/example/rowgate/rowgate/Edit$Kind"), (0, u "PUT"), (0, u "Lcom/example/rowgate/rowgate/Edit$Kind;"), (0, .fieldref 8 14), (0, .nameAndType 15 12), (0, u "DELETE"), (0, .fieldref 8 17), (0, .nameAndType 18 12), (0, u "APPEND"), (0, .fieldref 8 20), (0, .nameAndType 21 12), (0, u "MUTATE"), (0, .methodref 23 24), (0, .class_ 25), (0, .nameAndType 26 27), (0, u "com/example/rowgate/rowgate/KindMarksCellsPinLaw"), (0, u "kindOf"), (0, u "(I)Lcom/example/rowgate/rowgate/Edit$Kind;"), (0, .methodref 8 29), (0, .nameAndType 30 31), (0, u "marksCells"), (0, u "()Z"), (0, .methodref 8 33), (0, .nameAndType 34 31), (0, u "givesBytes"), (0, .methodref 8 36), (0, .nameAndType 37 31), (0, u "deletes"), (3, u "law"), (0, u "(I)Z")] 6

def k1m0 : Method := { name := "<init>", desc := "()V", sig := { parameters := [], returnType := none }, accessFlags := 2, code := none }
def k1c1 : Code := { maxStack := 2, maxLocals := 1, code := method_2_code, exceptionTable := #[], attributes := #[] }
def k1m1 : Method := { name := "kindOf", desc := "(I)Lcom/example/rowgate/rowgate/Edit$Kind;", sig := { parameters := [.int], returnType := some (.object "com/example/rowgate/rowgate/Edit$Kind") }, accessFlags := 10, code := some k1c1 }
def k1c2 : Code := { maxStack := 2, maxLocals := 5, code := code, exceptionTable := #[], attributes := #[] }
def k1m2 : Method := { name := "law", desc := "(I)Z", sig := { parameters := [.int], returnType := some .boolean }, accessFlags := 9, code := some k1c2 }
/-- com/example/rowgate/rowgate/KindMarksCellsPinLaw -/
def k1 : Class := { plain "com/example/rowgate/rowgate/KindMarksCellsPinLaw" (some 0) with
  accessFlags := 49
  interfaces := #[]
  cf := some (fileOf pool1 23 #[] #[{ accessFlags := 2, nameIndex := 5, descriptorIndex := 6, attributes := #[] }, { accessFlags := 10, nameIndex := 26, descriptorIndex := 27, attributes := #[] }, { accessFlags := 9, nameIndex := 41, descriptorIndex := 42, attributes := #[] }] 49 2 #[] #[])
  fields := #[]
  methods := #[k1m0, k1m1, k1m2]
  instanceTypes := #[]
  staticTypes := #[]
  resolved := Array.replicate 49 none
  statics := none }

def pool2 : Array CpInfo := pool [(1, .class_ 2), (0, u "java/lang/constant/Constable"), (0, .class_ 4), (0, u "java/lang/Object")] 6

/-- java/lang/constant/Constable -/
def k2 : Class := { plain "java/lang/constant/Constable" (some 0) with
  accessFlags := 1537
  interfaces := #[]
  cf := some (fileOf pool2 1 #[] #[] 1537 3 #[] #[])
  fields := #[]
  methods := #[]
  instanceTypes := #[]
  staticTypes := #[]
  resolved := Array.replicate 11 none
  statics := none }

def pool3 : Array CpInfo := pool [(1, .class_ 2), (0, u "java/lang/Comparable"), (0, .class_ 4), (0, u "java/lang/Object")] 7

/-- java/lang/Comparable -/
def k3 : Class := { plain "java/lang/Comparable" (some 0) with
  accessFlags := 1537
  interfaces := #[]
  cf := some (fileOf pool3 1 #[] #[] 1537 3 #[] #[])
  fields := #[]
  methods := #[]
  instanceTypes := #[]
  staticTypes := #[]
  resolved := Array.replicate 12 none
  statics := none }

def pool4 : Array CpInfo := pool [(1, .class_ 2), (0, u "java/io/Serializable"), (0, .class_ 4), (0, u "java/lang/Object")] 2

/-- java/io/Serializable -/
def k4 : Class := { plain "java/io/Serializable" (some 0) with
  accessFlags := 1537
  interfaces := #[]
  cf := some (fileOf pool4 1 #[] #[] 1537 3 #[] #[])
  fields := #[]
  methods := #[]
  instanceTypes := #[]
  staticTypes := #[]
  resolved := Array.replicate 7 none
  statics := none }

def pool5 : Array CpInfo := pool [(2, .class_ 4), (1, u "java/lang/Enum"), (0, u "name"), (0, u "Ljava/lang/String;"), (2, u "ordinal"), (0, u "I"), (1, .class_ 14), (1, u "java/lang/Object"), (4, u "hash"), (86, .class_ 108), (1, u "java/lang/Enum$EnumDesc"), (2, .class_ 112), (0, u "java/lang/constant/Constable"), (0, .class_ 114), (0, u "java/lang/Comparable"), (0, .class_ 116), (0, u "java/io/Serializable")] 87

/-- java/lang/Enum -/
def k5 : Class := { plain "java/lang/Enum" (some 0) with
  accessFlags := 1057
  interfaces := #[2, 3, 4]
  cf := some (fileOf pool5 2 #[.nestMembers #[106]] #[] 1057 12 #[111, 113, 115] #[{ accessFlags := 18, nameIndex := 5, descriptorIndex := 6, attributes := #[] }, { accessFlags := 18, nameIndex := 9, descriptorIndex := 10, attributes := #[] }, { accessFlags := 2, nameIndex := 19, descriptorIndex := 10, attributes := #[] }])
  fields := #[{ name := "name", type := (.object "java/lang/String"), accessFlags := 18, slot := 0, constantValue := 0 }, { name := "ordinal", type := .int, accessFlags := 18, slot := 1, constantValue := 0 }, { name := "hash", type := .int, accessFlags := 2, slot := 2, constantValue := 0 }]
  methods := #[]
  instanceTypes := #[(.object "java/lang/String"), .int, .int]
  staticTypes := #[]
  resolved := Array.replicate 204 none
  statics := none }

def pool6 : Array CpInfo := pool [(1, .class_ 2), (0, u "com/example/rowgate/rowgate/Edit$Kind"), (2, u "PUT"), (0, u "Lcom/example/rowgate/rowgate/Edit$Kind;"), (2, u "DELETE"), (2, u "APPEND"), (2, u "MUTATE"), (2, u "$VALUES"), (0, u "[Lcom/example/rowgate/rowgate/Edit$Kind;"), (6, .class_ 28), (1, u "java/lang/Enum"), (8, u "code"), (0, u "B"), (0, .fieldref 1 40), (0, .nameAndType 41 42), (0, u "givesBytes"), (0, u "Z"), (0, .fieldref 1 44), (0, .nameAndType 45 42), (0, u "deletes"), (2, u "KINDS"), (31, u "()Z"), (0, u "marksCells"), (10, .class_ 93), (0, u "com/example/rowgate/rowgate/Edit")] 2

def k6c0 : Code := { maxStack := 1, maxLocals := 1, code := prog_10_method_5_code, exceptionTable := #[], attributes := #[] }
def k6m0 : Method := { name := "givesBytes", desc := "()Z", sig := { parameters := [], returnType := some .boolean }, accessFlags := 0, code := some k6c0 }
def k6c1 : Code := { maxStack := 1, maxLocals := 1, code := prog_10_method_6_code, exceptionTable := #[], attributes := #[] }
def k6m1 : Method := { name := "marksCells", desc := "()Z", sig := { parameters := [], returnType := some .boolean }, accessFlags := 0, code := some k6c1 }
def k6c2 : Code := { maxStack := 1, maxLocals := 1, code := prog_10_method_7_code, exceptionTable := #[], attributes := #[] }
def k6m2 : Method := { name := "deletes", desc := "()Z", sig := { parameters := [], returnType := some .boolean }, accessFlags := 0, code := some k6c2 }
/-- com/example/rowgate/rowgate/Edit$Kind -/
def k6 : Class := { plain "com/example/rowgate/rowgate/Edit$Kind" (some 5) with
  accessFlags := 16432
  interfaces := #[]
  cf := some (fileOf pool6 1 #[.nestHost 92] #[{ accessFlags := 0, nameIndex := 41, descriptorIndex := 80, attributes := #[] }, { accessFlags := 0, nameIndex := 81, descriptorIndex := 80, attributes := #[] }, { accessFlags := 0, nameIndex := 45, descriptorIndex := 80, attributes := #[] }] 16432 26 #[] #[{ accessFlags := 16409, nameIndex := 5, descriptorIndex := 6, attributes := #[] }, { accessFlags := 16409, nameIndex := 9, descriptorIndex := 6, attributes := #[] }, { accessFlags := 16409, nameIndex := 12, descriptorIndex := 6, attributes := #[] }, { accessFlags := 16409, nameIndex := 15, descriptorIndex := 6, attributes := #[] }, { accessFlags := 26, nameIndex := 48, descriptorIndex := 19, attributes := #[] }, { accessFlags := 18, nameIndex := 37, descriptorIndex := 38, attributes := #[] }, { accessFlags := 18, nameIndex := 41, descriptorIndex := 42, attributes := #[] }, { accessFlags := 18, nameIndex := 45, descriptorIndex := 42, attributes := #[] }, { accessFlags := 4122, nameIndex := 18, descriptorIndex := 19, attributes := #[] }])
  fields := #[{ name := "PUT", type := (.object "com/example/rowgate/rowgate/Edit$Kind"), accessFlags := 16409, slot := 0, constantValue := 0 }, { name := "DELETE", type := (.object "com/example/rowgate/rowgate/Edit$Kind"), accessFlags := 16409, slot := 1, constantValue := 0 }, { name := "APPEND", type := (.object "com/example/rowgate/rowgate/Edit$Kind"), accessFlags := 16409, slot := 2, constantValue := 0 }, { name := "MUTATE", type := (.object "com/example/rowgate/rowgate/Edit$Kind"), accessFlags := 16409, slot := 3, constantValue := 0 }, { name := "KINDS", type := (.array (.object "com/example/rowgate/rowgate/Edit$Kind")), accessFlags := 26, slot := 4, constantValue := 0 }, { name := "code", type := .byte, accessFlags := 18, slot := 3, constantValue := 0 }, { name := "givesBytes", type := .boolean, accessFlags := 18, slot := 4, constantValue := 0 }, { name := "deletes", type := .boolean, accessFlags := 18, slot := 5, constantValue := 0 }, { name := "$VALUES", type := (.array (.object "com/example/rowgate/rowgate/Edit$Kind")), accessFlags := 4122, slot := 5, constantValue := 0 }]
  methods := #[k6m0, k6m1, k6m2]
  instanceTypes := #[(.object "java/lang/String"), .int, .int, .byte, .boolean, .boolean]
  staticTypes := #[(.object "com/example/rowgate/rowgate/Edit$Kind"), (.object "com/example/rowgate/rowgate/Edit$Kind"), (.object "com/example/rowgate/rowgate/Edit$Kind"), (.object "com/example/rowgate/rowgate/Edit$Kind"), (.array (.object "com/example/rowgate/rowgate/Edit$Kind")), (.array (.object "com/example/rowgate/rowgate/Edit$Kind"))]
  resolved := Array.replicate 96 none
  statics := some 0 }

def pool7 : Array CpInfo := pool [(1, u "java/lang/Cloneable"), (0, .class_ 1), (0, u "java/lang/Object"), (0, .class_ 3)] 3

/-- java/lang/Cloneable -/
def k7 : Class := { plain "java/lang/Cloneable" (some 0) with
  accessFlags := 1537
  interfaces := #[]
  cf := some (fileOf pool7 2 #[] #[] 1537 4 #[] #[])
  fields := #[]
  methods := #[]
  instanceTypes := #[]
  staticTypes := #[]
  resolved := Array.replicate 8 none
  statics := none }

/-- the primitive byte -/
def k8 : Class := { plain "byte" none with kind := .primitive 'B', accessFlags := 0x411 }
/-- [B -/
def k9 : Class := { plain "[B" (some 0) with kind := .array 8 .byte, interfaces := #[7, 4], accessFlags := 1041 }

/-- the primitive int -/
def k10 : Class := { plain "int" none with kind := .primitive 'I', accessFlags := 0x411 }
/-- [I -/
def k11 : Class := { plain "[I" (some 0) with kind := .array 10 .int, interfaces := #[7, 4], accessFlags := 1041 }

def heap : Heap := #[{ cls := 6, slots := #[.ref 1, .ref 4, .ref 3, .ref 2, .null, .null], vm := .statics 6 },
  { cls := 6, slots := #[.null, .int 0, .int 0, .int 0, .int 1, .int 0], vm := .none },
  { cls := 6, slots := #[.null, .int 0, .int 0, .int 0, .int 1, .int 1], vm := .none },
  { cls := 6, slots := #[.null, .int 0, .int 0, .int 0, .int 1, .int 0], vm := .none },
  { cls := 6, slots := #[.null, .int 0, .int 0, .int 0, .int 0, .int 1], vm := .none }]
def classes : Array Class := #[k0, k1, k2, k3, k4, k5, k6, k7, k8, k9, k10, k11]
def interned : List (Array UInt16 × Addr) := []
def slotsUsed : Nat := 30
def theMethod : MethodId := ⟨1, 2⟩
def args0 : Array Value := #[.int 5]
def aboutOver (below : List Frame) : State where
  vm := { classes := classes, interned := interned.toArray }
  heap := heap
  slotsUsed := slotsUsed
  threads := #[{ frames := .invoking theMethod args0 :: below }]
def below0 : List Frame := [.native { method := ⟨0, 0⟩, args := #[] }]
def about1 : State := aboutOver below0
def p0 : Program := .bare "" "" ""
def e0 : Env := launch0.env 0 0 0
theorem w_frames : about1.frames = Frame.invoking theMethod args0 :: below0 := rfl
set_option maxRecDepth 65536 in
theorem w_args : argsFit about1.vm theMethod args0 = true := by decide +kernel
set_option maxRecDepth 65536 in
theorem w_heap : heapFits about1 = true := by decide +kernel
set_option maxRecDepth 65536 in
theorem w_runnable : about1.curStatus? = some .runnable := by decide +kernel
set_option maxRecDepth 65536 in
theorem w_alone : about1.alone = true := by decide +kernel
set_option maxRecDepth 65536 in
theorem w_named : about1.methodNamed? x = some theMethod := by decide +kernel
set_option maxRecDepth 65536 in
theorem w_hears : about1.hears theMethod below0 = true := by decide +kernel
set_option maxRecDepth 65536 in
theorem w_ripe : about1.ripe theMethod args0 below0 = true := by decide +kernel
theorem w_running : about1.status = .running := rfl
set_option maxRecDepth 65536 in
theorem w_room : about1.hasRoom e0.platform room_1 = true :=
  launch0.hasRoom_least _ room_1 (by decide +kernel) (by decide +kernel) (by decide +kernel) (by decide +kernel) (by decide +kernel) (by decide +kernel)
theorem allAtoms_all (ts : List Jvm.Cond) (a : Array Jvm.Value) (st : Jvm.State) : (allAtoms ts).before a st = ts.all (fun c => c.before a st) := by
  induction ts with
  | nil => rfl
  | cons c t ih =>
    show (Jvm.Cond.and c (allAtoms t)).before a st = _
    rw [Jvm.Cond.before_and, ih, List.all_cons]
def words1 : List Jvm.Cond := Jvm.Cond.code x code maxLocals ret :: tables_1
/-- a 'code' word, met by the world's own term for the bytes: nothing is compared byte by byte -/
theorem code_word {y : MethodName} {bytes : ByteArray} {mx : Nat} {rt : Option FieldType} {a : Array Value} {s : State} {m : MethodId} {meth : Method} {c : Code} (h1 : s.methodNamed? y = some m) (h2 : s.vm.method? m = some meth) (h3 : meth.code = some c) (h4 : c.code = bytes)
    (h5 : (c.maxLocals == mx && c.exceptionTable.isEmpty && decide (c.maxStack ≤ mostOperands) && decide (meth.sig.returnType = rt) && !meth.locks && decide (parseMethodDescriptor y.desc = some meth.sig)) = true) : (Jvm.Cond.code y bytes mx rt).before a s = true := by
  simp only [Bool.and_eq_true, beq_iff_eq, Bool.not_eq_true', decide_eq_true_eq] at h5
  obtain ⟨⟨⟨⟨⟨g1, g2⟩, g3⟩, g4⟩, g5⟩, g6⟩ := h5
  simp [Cond.before, Cond.holds, Cond.value, h1, h2, h3, h4, g1, g2, g3, g4, g5, g6]
def isCode : Jvm.Cond → Bool
  | .code _ _ _ _ => true
  | _ => false
theorem all_split {L : List Jvm.Cond} {P : Jvm.Cond → Bool} (h1 : L.all (fun c => isCode c || P c) = true) (h2 : ∀ c ∈ L.filter isCode, P c = true) : L.all P = true := by
  refine List.all_eq_true.mpr fun c hc => ?_
  have h := List.all_eq_true.mp h1 c hc
  rcases Bool.eq_false_or_eq_true (isCode c) with hi | hi
  · exact h2 c (List.mem_filter.mpr ⟨hc, hi⟩)
  · simpa [hi] using h
set_option maxRecDepth 65536 in
theorem w_c0 : (Jvm.Cond.code x code maxLocals ret).before args0 about1 = true := code_word (m := ⟨1, 2⟩) (meth := k1m2) (c := k1c2) (by decide +kernel) rfl rfl rfl (by decide +kernel)
set_option maxRecDepth 65536 in
theorem w_c1 : (Jvm.Cond.code ({ cls := "com/example/rowgate/rowgate/KindMarksCellsPinLaw", name := "kindOf", desc := "(I)Lcom/example/rowgate/rowgate/Edit$Kind;" } : Jvm.MethodName) method_2_code (1 : Nat) (Option.some (Jvm.ClassFile.FieldType.object "com/example/rowgate/rowgate/Edit$Kind"))).before args0 about1 = true := code_word (m := ⟨1, 1⟩) (meth := k1m1) (c := k1c1) (by decide +kernel) rfl rfl rfl (by decide +kernel)
set_option maxRecDepth 65536 in
theorem w_c2 : (Jvm.Cond.code ({ cls := "com/example/rowgate/rowgate/Edit$Kind", name := "marksCells", desc := "()Z" } : Jvm.MethodName) prog_10_method_6_code (1 : Nat) (Option.some Jvm.ClassFile.FieldType.boolean)).before args0 about1 = true := code_word (m := ⟨6, 1⟩) (meth := k6m1) (c := k6c1) (by decide +kernel) rfl rfl rfl (by decide +kernel)
set_option maxRecDepth 65536 in
theorem w_c3 : (Jvm.Cond.code ({ cls := "com/example/rowgate/rowgate/Edit$Kind", name := "givesBytes", desc := "()Z" } : Jvm.MethodName) prog_10_method_5_code (1 : Nat) (Option.some Jvm.ClassFile.FieldType.boolean)).before args0 about1 = true := code_word (m := ⟨6, 0⟩) (meth := k6m0) (c := k6c0) (by decide +kernel) rfl rfl rfl (by decide +kernel)
set_option maxRecDepth 65536 in
theorem w_c4 : (Jvm.Cond.code ({ cls := "com/example/rowgate/rowgate/Edit$Kind", name := "deletes", desc := "()Z" } : Jvm.MethodName) prog_10_method_7_code (1 : Nat) (Option.some Jvm.ClassFile.FieldType.boolean)).before args0 about1 = true := code_word (m := ⟨6, 2⟩) (meth := k6m2) (c := k6c2) (by decide +kernel) rfl rfl rfl (by decide +kernel)
def codes1 : List Jvm.Cond := [Jvm.Cond.code x code maxLocals ret, Jvm.Cond.code ({ cls := "com/example/rowgate/rowgate/KindMarksCellsPinLaw", name := "kindOf", desc := "(I)Lcom/example/rowgate/rowgate/Edit$Kind;" } : Jvm.MethodName) method_2_code (1 : Nat) (Option.some (Jvm.ClassFile.FieldType.object "com/example/rowgate/rowgate/Edit$Kind")), Jvm.Cond.code ({ cls := "com/example/rowgate/rowgate/Edit$Kind", name := "marksCells", desc := "()Z" } : Jvm.MethodName) prog_10_method_6_code (1 : Nat) (Option.some Jvm.ClassFile.FieldType.boolean), Jvm.Cond.code ({ cls := "com/example/rowgate/rowgate/Edit$Kind", name := "givesBytes", desc := "()Z" } : Jvm.MethodName) prog_10_method_5_code (1 : Nat) (Option.some Jvm.ClassFile.FieldType.boolean), Jvm.Cond.code ({ cls := "com/example/rowgate/rowgate/Edit$Kind", name := "deletes", desc := "()Z" } : Jvm.MethodName) prog_10_method_7_code (1 : Nat) (Option.some Jvm.ClassFile.FieldType.boolean)]
set_option maxRecDepth 65536 in
theorem codes_eq : words1.filter isCode = codes1 := rfl
theorem w_codes : ∀ c ∈ words1.filter isCode, c.before args0 about1 = true := by
  rw [codes_eq]
  intro c hc
  simp only [codes1, List.mem_cons, List.not_mem_nil, or_false] at hc
  rcases hc with rfl | rfl | rfl | rfl | rfl
  · exact w_c0
  · exact w_c1
  · exact w_c2
  · exact w_c3
  · exact w_c4
set_option maxRecDepth 65536 in
theorem w_t1 : (words1.take 24).all (fun c => isCode c || c.before args0 about1) = true := by decide +kernel
set_option maxRecDepth 65536 in
theorem w_t2 : (words1.drop 24).all (fun c => isCode c || c.before args0 about1) = true := by decide +kernel
theorem w_tables : (allAtoms (Jvm.Cond.code x code maxLocals ret :: tables_1)).before args0 about1 = true := by
  rw [allAtoms_all]
  show words1.all (fun c => c.before args0 about1) = true
  refine all_split ?_ w_codes
  rw [← List.take_append_drop 24 words1, List.all_append, w_t1, w_t2]
  rfl
set_option maxRecDepth 65536 in
theorem w_case : (Jvm.Cond.and given_1 narrow_1).before args0 about1 = true := by decide +kernel
theorem w_applies : (headSpec (Jvm.Cond.code x code maxLocals ret :: tables_1) room_1).applies x e0.platform about1 = true :=
  (Spec.applies_iff w_frames).mpr ⟨w_running, w_runnable, w_alone, w_named, w_hears, w_ripe, w_room, w_tables⟩
theorem atStart : AtStart classFile x code maxLocals ret World_1 tables_1 room_1 Calls_1 rest_1 Pre_1 launch0 p0 e0 about1 theMethod args0 below0 :=
  ⟨lists_1, trivial, launch0.admits_env _ _ _, launch0.least_env, fairChoices_fair.cas, fairChoices_fair.clock, w_frames, w_args, w_heap, w_applies, trivial, trivial, w_case⟩
end start1
theorem witness_1 : WitnessClaimed_1 := ⟨start1.p0, start1.e0, start1.about1, start1.theMethod, start1.args0, start1.below0, start1.atStart⟩
end Jvm.Pilot.@@N@@
