import JvmDerived
import JvmDerived.Pilot.@@N@@Statement
import JvmDerived.Pilot.@@N@@Code
set_option linter.unusedVariables false
set_option linter.unusedSimpArgs false
namespace Jvm.Pilot.@@N@@
open Jvm Jvm.ClassFile Sem Op Lib Jvm.Free Jvm.Stand Jvm.LawKit Jvm.RoadKit Bundle Jvm.Pilot.@@N@@.Jvm.D
/-! A walk in the backward style: 'own_Goes K T g': from the frame g over T the run comes to an end of which K holds. -/
def own_Goes (p : Program) (e : Env) (below : List Frame) (K : Outcome → State → Prop) (T : State) (g : JFrame) : Prop :=
  ∃ s₂ o, Steps p.tables e below (T.setTop g) s₂ ∧ s₂.status = .running ∧ Ended s₂ below o ∧ K o s₂
def own_K (Q : Option Value → Heap → List Loc → Prop) (U : State) (C S : Nat) : Outcome → State → Prop :=
  fun o U' => ∃ v L, o = .returned v ∧ Q v U'.heap L ∧ FrameEnd U o U' L C S
section OwnKit
variable {p : Program} {l : Launch} {e : Env} {R : Room} {s : State} {m : MethodId} {args : Array Value} {below : List Frame} {meth : Method} {c : Code} {T T' : State} {locs : List Loc} {cells slots : Nat} {Z : State} {a0 : Array Value} {h : Heap} {K : Outcome → State → Prop} {Q : Option Value → Heap → List Loc → Prop} {C S : Nat}
theorem own_by {g g' : JFrame} (st : ∀ t, Steps p.tables e below (T'.setTop g') t → Steps p.tables e below (T.setTop g) t) (k : own_Goes p e below K T' g') : own_Goes p e below K T g := by
  obtain ⟨s₂, o, h1, r⟩ := k
  exact ⟨s₂, o, st _ h1, r⟩
theorem own_retN (X : Stand p l e R s m args below meth c T locs cells slots) (hx : p.tables.exec = Jvm.exec) {pc : Nat} {Ls : Array Slot} {z : Int32} {t : FieldType} {rest : List Value} (hret : meth.sig.returnType = some t) (hlocks : meth.locks = false) (ht : t = .boolean ∨ t = .byte ∨ t = .char ∨ t = .short)
    (hd : decode c.code pc = .ok (.ireturn, 1)) (hc : cells ≤ C) (hs : slots ≤ S) {v : Int32} (hv : nar t z = v) (q : Q (some (.int v)) T.heap locs) : own_Goes p e below (own_K Q s C S) T (mkF m pc Ls (.int z :: rest)) := by
  subst hv
  obtain ⟨fs, hr, hrun, hended, hW, hsame⟩ := X.leave (v := some (.int (nar t z))) (fun h => by rw [hret] at h; cases h) hlocks
  exact ⟨_, _, retN X hx hret ht hd hr, hrun, hended, _, _, rfl, q, ⟨_, rfl⟩, hW, hsame.mono hc hs⟩
theorem own_retV (X : Stand p l e R s m args below meth c T locs cells slots) (hx : p.tables.exec = Jvm.exec) {pc : Nat} {Ls : Array Slot} {w : Value} {t : FieldType} {i : Instr} {rest : List Value} (hret : meth.sig.returnType = some t) (hlocks : meth.locks = false) (hn : narrow t w = w)
    (hi : (i = .ireturn ∧ (t = .int ∨ t = .boolean ∨ t = .byte ∨ t = .char ∨ t = .short) ∧ ∃ z, w = .int z) ∨ (i = .lreturn ∧ t = .long ∧ ∃ z, w = .long z) ∨ (i = .dreturn ∧ t = .double ∧ ∃ z, w = .double z) ∨ (i = .freturn ∧ t = .float ∧ ∃ z, w = .float z) ∨ (i = .areturn ∧ t.isReference = true ∧ w.isRef = true))
    (hd : decode c.code pc = .ok (i, 1)) (hc : cells ≤ C) (hs : slots ≤ S) (q : Q (some w) T.heap locs) : own_Goes p e below (own_K Q s C S) T (mkF m pc Ls (w :: rest)) := by
  obtain ⟨fs, hr, hrun, hended, hW, hsame⟩ := X.leave (v := some w) (fun h => by rw [hret] at h; cases h) hlocks
  exact ⟨_, _, retOut X hx hret hn hi hd hr, hrun, hended, _, _, rfl, q, ⟨_, rfl⟩, hW, hsame.mono hc hs⟩
theorem own_retI (X : Stand p l e R s m args below meth c T locs cells slots) (hx : p.tables.exec = Jvm.exec) {pc : Nat} {Ls : Array Slot} {z : Int32} {rest : List Value} (hret : meth.sig.returnType = some .int) (hlocks : meth.locks = false)
    (hd : decode c.code pc = .ok (.ireturn, 1)) (hc : cells ≤ C) (hs : slots ≤ S) (q : Q (some (.int z)) T.heap locs) : own_Goes p e below (own_K Q s C S) T (mkF m pc Ls (.int z :: rest)) :=
  own_retV X hx hret hlocks rfl (Or.inl ⟨rfl, Or.inl rfl, z, rfl⟩) hd hc hs q
theorem own_retJ (X : Stand p l e R s m args below meth c T locs cells slots) (hx : p.tables.exec = Jvm.exec) {pc : Nat} {Ls : Array Slot} {z : Int64} {rest : List Value} (hret : meth.sig.returnType = some .long) (hlocks : meth.locks = false)
    (hd : decode c.code pc = .ok (.lreturn, 1)) (hc : cells ≤ C) (hs : slots ≤ S) (q : Q (some (.long z)) T.heap locs) : own_Goes p e below (own_K Q s C S) T (mkF m pc Ls (.long z :: rest)) :=
  own_retV X hx hret hlocks rfl (Or.inr (Or.inl ⟨rfl, rfl, z, rfl⟩)) hd hc hs q
theorem own_retR (X : Stand p l e R s m args below meth c T locs cells slots) (hx : p.tables.exec = Jvm.exec) {pc : Nat} {Ls : Array Slot} {w : Value} {t : FieldType} {rest : List Value} (hret : meth.sig.returnType = some t) (hlocks : meth.locks = false) (ht : t.isReference = true) (hw : w.isRef = true)
    (hd : decode c.code pc = .ok (.areturn, 1)) (hc : cells ≤ C) (hs : slots ≤ S) (q : Q (some w) T.heap locs) : own_Goes p e below (own_K Q s C S) T (mkF m pc Ls (w :: rest)) :=
  own_retV X hx hret hlocks (by cases t <;> first | (cases ht; done) | (cases w <;> rfl)) (Or.inr (Or.inr (Or.inr (Or.inr ⟨rfl, ht, hw⟩)))) hd hc hs q
theorem own_ret0 (X : Stand p l e R s m args below meth c T locs cells slots) (hx : p.tables.exec = Jvm.exec) {pc : Nat} {Ls : Array Slot} (hret : meth.sig.returnType = none) (hlocks : meth.locks = false)
    (hd : decode c.code pc = .ok (.return_, 1)) (hc : cells ≤ C) (hs : slots ≤ S) (q : Q none T.heap locs) : own_Goes p e below (own_K Q s C S) T (mkF m pc Ls []) := by
  obtain ⟨fs, hr, hrun, hended, hW, hsame⟩ := X.leave (v := none) (fun _ => rfl) hlocks
  exact ⟨_, _, X.returnOut hx hret hd hr, hrun, hended, _, _, rfl, q, ⟨_, rfl⟩, hW, hsame.mono hc hs⟩
theorem own_lrem {g : JFrame} {target : State} (X : Stand p l e R s m args below meth c T locs cells slots) (hx : p.tables.exec = Jvm.exec) (hg : g.method = m) {x y : Int64} {rest : List Value} (hd : decode c.code g.pc = .ok (.lrem, 1)) (hs : g.stack = .long y :: .long x :: rest) (hy : y ≠ 0)
    (hr : Steps p.tables e below (T.setTop { g with pc := g.pc + 1, stack := .long (x % y) :: rest }) target) : Steps p.tables e below (T.setTop g) target := by
  have q : x - x / y * y = x % y := lrem_mod x y
  exact XS.lrem X.here hx hg hd hs hy (by rw [q]; exact hr)
/-- what a callee's theorem says -/
abbrev own_Met (l : Launch) (Z : State) (y : MethodName) (bytes : ByteArray) (maxL : Nat) (ret : Option FieldType) (rm : Room) (as' : Array Value) (h : Heap) (Q : Option Value → Heap → List Loc → Prop) : Prop :=
  MetFree l y (head1 [Cond.code y bytes maxL ret] rm) (fun a U => a = as' ∧ Z.Warmed39 U.vm ∧ U.heap = h) (fun _ _ _ _ _ => True) (fun _ U o U' => ∃ v L, o = .returned v ∧ Q v U'.heap L ∧ FrameEnd U o U' L rm.cells rm.slots)
theorem own_callS (X : Stand p l e R s m args below meth c T locs cells slots) (hx : p.tables.exec = Jvm.exec) (hZ : Z.Warmed39 s.vm) {own : String} {index : Nat} {y : MethodName} {bytes : ByteArray} {maxL : Nat} {ret : Option FieldType}
    (hown : s.vm.findClass own = some m.cls) (w1 : (Cond.methodLink own index y).before a0 Z = true) (w2 : (Cond.static y).before a0 Z = true) (w3 : (Cond.initialized y.cls).before a0 Z = true) (w4 : (Cond.code y bytes maxL ret).before a0 Z = true) (hy : y.cls ≠ "java/lang/invoke/MethodHandle" ∧ y.cls ≠ "java/lang/invoke/VarHandle")
    {rm : Room} {argsL rest : List Value} (hM : own_Met l Z y bytes maxL ret rm argsL.toArray h Q) (eT : T.heap = h) {W : Nat} (hf : rm.frames + 1 ≤ R.frames) (hl : W + (maxL + 11) + rm.locals ≤ R.locals) (hc : cells + rm.cells ≤ R.cells) (hs : slots + rm.slots ≤ R.slots)
    {g : JFrame} (hg : g.method = m) (hsize : g.locals.size = c.maxLocals) (hlen : ∀ sig, parseMethodDescriptor y.desc = some sig → argsL.length = sig.parameters.length)
    (hstack : g.stack = argsL.reverse ++ rest) (hW : 2 * g.monitorRoom + (rest.map fun v => v.category).sum ≤ W) (hdg : decode c.code g.pc = .ok (.invokestatic index, 3)) :
    ∃ (v : Option Value) (T' : State) (L : List Loc), Stand p l e R s m args below meth c T' (locs ++ L) (cells + rm.cells) (slots + rm.slots) ∧ Q v T'.heap L ∧ ∀ K, own_Goes p e below K T' { g with pc := g.pc + 3, stack := v.toList ++ rest } → own_Goes p e below K T g := by
  obtain ⟨v, vm₁, ⟨T', L', k', n'⟩, -, X', ⟨L, hQ, l1, l2, l3⟩, st⟩ := Jvm.LawKit.callS X hx hown (mvT hZ w1) (mvT hZ w2) (mvT hZ w3) (mvT hZ w4) hy (backOf (W := W) hM hZ w4 w3 hf hl) hg hsize hlen hstack hW hdg (fun _ _ => ⟨rfl, eT, hc, hs⟩)
  dsimp only [Pt.U, Pt.locs, Pt.cells, Pt.slots] at X' l1 l2 l3 st hQ
  subst l1 l2 l3
  exact ⟨v, T', L, X', hQ, fun K k => own_by st k⟩
theorem own_callI (X : Stand p l e R s m args below meth c T locs cells slots) (hx : p.tables.exec = Jvm.exec) (hZ : Z.Warmed39 s.vm) {own : String} {index : Nat} {y : MethodName} {bytes : ByteArray} {maxL : Nat} (hy1 : y.name = "<init>")
    (hown : s.vm.findClass own = some m.cls) (w1 : (Cond.methodLink own index y).before a0 Z = true) (w2 : (Cond.instanceMethod y).before a0 Z = true) (w3 : (Cond.initialized y.cls).before a0 Z = true) (w4 : (Cond.code y bytes maxL none).before a0 Z = true) (hy : y.cls ≠ "java/lang/invoke/MethodHandle" ∧ y.cls ≠ "java/lang/invoke/VarHandle")
    {rm : Room} {a : Addr} {argsL rest : List Value} (hM : own_Met l Z y bytes maxL none rm (.ref a :: argsL).toArray h Q) (eT : T.heap = h) {W : Nat} (hf : rm.frames + 1 ≤ R.frames) (hl : W + (maxL + 11) + rm.locals ≤ R.locals) (hc : cells + rm.cells ≤ R.cells) (hs : slots + rm.slots ≤ R.slots)
    {g : JFrame} (hg : g.method = m) (hsize : g.locals.size = c.maxLocals) (hlen : ∀ sig, parseMethodDescriptor y.desc = some sig → argsL.length = sig.parameters.length)
    (hstack : g.stack = argsL.reverse ++ .ref a :: rest) (hW : 2 * g.monitorRoom + (rest.map fun v => v.category).sum ≤ W) (hdg : decode c.code g.pc = .ok (.invokespecial index, 3)) :
    ∃ (v : Option Value) (T' : State) (L : List Loc), Stand p l e R s m args below meth c T' (locs ++ L) (cells + rm.cells) (slots + rm.slots) ∧ Q v T'.heap L ∧ ∀ K, own_Goes p e below K T' { g with pc := g.pc + 3, stack := v.toList ++ rest } → own_Goes p e below K T g := by
  obtain ⟨v, vm₁, ⟨T', L', k', n'⟩, -, X', ⟨L, hQ, l1, l2, l3⟩, st⟩ := X.specialBack hx hy1 hown (mvT hZ w1) (mvT hZ w2) (mvT hZ w4) hy (backOf (W := W) hM hZ w4 w3 hf hl) hg hsize (Steps.refl _) hlen hstack hW hdg (fun _ _ => ⟨rfl, eT, hc, hs⟩)
  dsimp only [Pt.U, Pt.locs, Pt.cells, Pt.slots] at X' l1 l2 l3 st hQ
  subst l1 l2 l3
  exact ⟨v, T', L, X', hQ, fun K k => own_by (fun t k => st.trans k) k⟩
theorem own_callV (X : Stand p l e R s m args below meth c T locs cells slots) (hx : p.tables.exec = Jvm.exec) (hZ : Z.Warmed39 s.vm) {own C : String} {index : Nat} {y : MethodName} {bytes : ByteArray} {maxL : Nat} {ret : Option FieldType}
    (hown : s.vm.findClass own = some m.cls) (w1 : (Cond.methodLink own index y).before a0 Z = true) (w5 : (Cond.declares y).before a0 Z = true) (w6 : (Cond.selects C y y).before a0 Z = true) (w2 : (Cond.instanceMethod y).before a0 Z = true) (w3 : (Cond.initialized y.cls).before a0 Z = true) (w4 : (Cond.code y bytes maxL ret).before a0 Z = true) (hy : y.cls ≠ "java/lang/invoke/MethodHandle" ∧ y.cls ≠ "java/lang/invoke/VarHandle")
    {rm : Room} {a : Addr} {argsL rest : List Value} (E : Exa Z h a C) (hM : own_Met l Z y bytes maxL ret rm (.ref a :: argsL).toArray h Q) (eT : T.heap = h) {W : Nat} (hf : rm.frames + 1 ≤ R.frames) (hl : W + (maxL + 11) + rm.locals ≤ R.locals) (hc : cells + rm.cells ≤ R.cells) (hs : slots + rm.slots ≤ R.slots)
    {g : JFrame} (hg : g.method = m) (hsize : g.locals.size = c.maxLocals) (hlen : ∀ sig, parseMethodDescriptor y.desc = some sig → argsL.length = sig.parameters.length)
    (hstack : g.stack = argsL.reverse ++ .ref a :: rest) (hW : 2 * g.monitorRoom + (rest.map fun v => v.category).sum ≤ W) (hdg : decode c.code g.pc = .ok (.invokevirtual index, 3)) :
    ∃ (v : Option Value) (T' : State) (L : List Loc), Stand p l e R s m args below meth c T' (locs ++ L) (cells + rm.cells) (slots + rm.slots) ∧ Q v T'.heap L ∧ ∀ K, own_Goes p e below K T' { g with pc := g.pc + 3, stack := v.toList ++ rest } → own_Goes p e below K T g := by
  obtain ⟨cB, kB, q1, q2, q3⟩ := isOf hZ eT E
  obtain ⟨v, vm₁, ⟨T', L', k', n'⟩, -, X', ⟨L, hQ, l1, l2, l3⟩, st⟩ := X.virtualBack hx hown (mvT hZ w1) (mvT hZ w5) (notFace_of_selects (args := #[]) (mvT hZ w6)) (mvT hZ w6) (mvT hZ w2) hy (backOf (W := W) hM hZ w4 w3 hf hl) q1 q3 hg hsize (Steps.refl _) hlen hstack hW hdg (fun _ _ => ⟨rfl, eT, hc, hs⟩)
  dsimp only [Pt.U, Pt.locs, Pt.cells, Pt.slots] at X' l1 l2 l3 st hQ
  subst l1 l2 l3
  exact ⟨v, T', L, X', hQ, fun K k => own_by (fun t k => st.trans k) k⟩
theorem own_callPv (X : Stand p l e R s m args below meth c T locs cells slots) (hx : p.tables.exec = Jvm.exec) (hZ : Z.Warmed39 s.vm) {own C : String} {index : Nat} {y : MethodName} {bytes : ByteArray} {maxL : Nat} {ret : Option FieldType}
    (hown : s.vm.findClass own = some m.cls) (w1 : (Cond.methodLink own index y).before a0 Z = true) (w6 : (Cond.selects y.cls y y).before a0 Z = true) (w2 : (Cond.instanceMethod y).before a0 Z = true) (w7 : (Cond.privateMethod y).before a0 Z = true) (w3 : (Cond.initialized y.cls).before a0 Z = true) (w4 : (Cond.code y bytes maxL ret).before a0 Z = true) (hy : y.cls ≠ "java/lang/invoke/MethodHandle" ∧ y.cls ≠ "java/lang/invoke/VarHandle")
    {rm : Room} {a : Addr} {argsL rest : List Value} (E : Exa Z h a C) (hM : own_Met l Z y bytes maxL ret rm (.ref a :: argsL).toArray h Q) (eT : T.heap = h) {W : Nat} (hf : rm.frames + 1 ≤ R.frames) (hl : W + (maxL + 11) + rm.locals ≤ R.locals) (hc : cells + rm.cells ≤ R.cells) (hs : slots + rm.slots ≤ R.slots)
    {g : JFrame} (hg : g.method = m) (hsize : g.locals.size = c.maxLocals) (hlen : ∀ sig, parseMethodDescriptor y.desc = some sig → argsL.length = sig.parameters.length)
    (hstack : g.stack = argsL.reverse ++ .ref a :: rest) (hW : 2 * g.monitorRoom + (rest.map fun v => v.category).sum ≤ W) (hdg : decode c.code g.pc = .ok (.invokevirtual index, 3)) :
    ∃ (v : Option Value) (T' : State) (L : List Loc), Stand p l e R s m args below meth c T' (locs ++ L) (cells + rm.cells) (slots + rm.slots) ∧ Q v T'.heap L ∧ ∀ K, own_Goes p e below K T' { g with pc := g.pc + 3, stack := v.toList ++ rest } → own_Goes p e below K T g := by
  obtain ⟨cq, q1, q2⟩ := E.cell
  obtain ⟨v, vm₁, ⟨T', L', k', n'⟩, -, X', ⟨L, hQ, l1, l2, l3⟩, st⟩ := X.privateBack hx hown (mvT hZ w1) (mvT hZ w2) (mvT hZ w6) (Cond.privateMethod_at (mvP hZ w7 (args := #[]))) (mvT hZ w4) hy (backOf (W := W) hM hZ w4 w3 hf hl) hg hsize (Steps.refl _) (by rw [eT]; exact q1) q2 hlen hstack hW hdg (fun _ _ => ⟨rfl, eT, hc, hs⟩)
  dsimp only [Pt.U, Pt.locs, Pt.cells, Pt.slots] at X' l1 l2 l3 st hQ
  subst l1 l2 l3
  exact ⟨v, T', L, X', hQ, fun K k => own_by (fun t k => st.trans k) k⟩
theorem own_Sta_keep {h' : Heap} {ws : List Addr} {O n d : String} {v : Value} (F : Sta Z h O n d v) (K : Keep h h' ws) (q : ∀ a ∈ ws, ∀ cell : Cell, h[a]? = some cell → cell.vm.isStatics = false) : Sta Z h' O n d v := by
  obtain ⟨cf, i, k, f, st, cell, h1, h2, h3, h4, h5, h6, h7⟩ := F
  refine ⟨cf, i, k, f, st, cell, h1, h2, h3, h4, K.2.1 st cell h5 (fun y => ?_), h6, h7⟩
  rw [q st y cell h5] at h6; cases h6
theorem own_selp {y : MethodName} {k : Nat} (w7 : (Cond.privateMethod y).before a0 Z = true) (w2 : (Cond.instanceMethod y).before a0 Z = true) (wi : (Cond.instantiable y.cls k).before a0 Z = true) (hy : y.cls ≠ "java/lang/invoke/MethodHandle" ∧ y.cls ≠ "java/lang/invoke/VarHandle") : (Cond.selects y.cls y y).before a0 Z = true := by
  obtain ⟨c, k, i1, i2, i3, i4, -⟩ := Cond.instantiable_spec wi
  rw [Bool.or_eq_false_iff] at i4
  exact Jvm.Stand.selects_self_of_private i1 i2 i4.1 (Cond.privateMethod_at w7) w2 hy
end OwnKit
theorem own_fI {s : State} {args : Array Value} {t : Term} {O n d : String} {a : Addr} {k : Int32} (ht : t.eval args s none [] s = some (.ref a)) (h : (Jvm.Cond.eq (.field t O n d) (.int k)).value args s none s [] = some true) : Fld s s.heap a O n d (.int k) := by
  obtain ⟨x, y, e1, e2, k1, k2⟩ := cmp_v (Or.inl h)
  cases e2
  obtain ⟨z, rfl⟩ := k2
  have e3 : (Term.int k).eval args s none [] s = some (.int k) := rfl
  have q : z = k := by simpa [Cond.value, e1, e3] using h
  subst q
  exact Fld.start (by rw [← fld_at ht]; exact e1)
theorem own_fN {s : State} {args : Array Value} {t : Term} {O n d : String} {a : Addr} (ht : t.eval args s none [] s = some (.ref a)) (h : (Jvm.Cond.eq (.field t O n d) .null).value args s none s [] = some true) : Fld s s.heap a O n d .null :=
  Fld.start (by rw [← fld_at ht]; exact null_v h)
theorem own_fR {s : State} {args : Array Value} {t u : Term} {O n d : String} {a b : Addr} (ht : t.eval args s none [] s = some (.ref a)) (hu : u.eval args s none [] s = some (.ref b)) (h : (Jvm.Cond.eq (.field t O n d) u).value args s none s [] = some true) : Fld s s.heap a O n d (.ref b) := by
  obtain ⟨x, y, e1, e2, k1, k2⟩ := cmp_v (Or.inl h)
  cases hu.symm.trans e2
  have q : x = .ref b := by
    rcases ref_cases k2.2 with rfl | ⟨z, rfl⟩
    · simp [Cond.value, e1, e2] at h
    · simp [Cond.value, e1, e2] at h; rw [h]
  subst q
  exact Fld.start (by rw [← fld_at ht]; exact e1)
theorem own_kk (q : Int32) : (q &&& (3 : Int32)) = (0 : Int32) ∨ (q &&& (3 : Int32)) = (1 : Int32) ∨ (q &&& (3 : Int32)) = (2 : Int32) ∨ (q &&& (3 : Int32)) = (3 : Int32) := by
  have e := c_mask q 3 2 (by decide) (by decide)
  have l1 := Int.emod_nonneg q.toInt (show ((2 ^ 2 : Nat) : Int) ≠ 0 by decide)
  have l2 := Int.emod_lt_of_pos q.toInt (show (0 : Int) < ((2 ^ 2 : Nat) : Int) by decide)
  simp only [← Int32.toInt_inj]
  rw [e]
  simp only [show (0 : Int32).toInt = 0 from rfl, show (1 : Int32).toInt = 1 from rfl, show (2 : Int32).toInt = 2 from rfl, show (3 : Int32).toInt = 3 from rfl]
  omega
theorem own_d_ties_n_0 : decode prog_124_method_7_code 0 = .ok (.aload_n 0, 1) := by decide +kernel
theorem own_d_ties_n_1 : decode prog_124_method_7_code 1 = .ok (.getfield 35, 3) := by decide +kernel
theorem own_d_ties_n_4 : decode prog_124_method_7_code 4 = .ok (.ifnull 7, 3) := by decide +kernel
theorem own_d_ties_n_11 : decode prog_124_method_7_code 11 = .ok (.iconst 0, 1) := by decide +kernel
theorem own_d_ties_n_12 : decode prog_124_method_7_code 12 = .ok (.ireturn, 1) := by decide +kernel
theorem own_pn_com_example_stratacheck_stratacheck_spec_Tie : plainName "com/example/stratacheck/stratacheck/spec/Tie" = true := by first | (simp [plainName, overriddenIn]; done) | decide +kernel
theorem own_ef_ties_n (m : MethodId) (a : Addr) : entryFrame m #[(.ref a)] 1 = mkF m 0 #[.val (.ref a)] [] := by first | (simp [entryFrame, mkF, argsToLocals, Value.category]; done) | rfl
def own_Q_ties_n (Z : State) (a : Addr) (h0 : Heap) (n0 : Nat) (v : Option Value) (h : Heap) (L : List Loc) : Prop := v = some (.int (0 : Int32)) ∧ Fr n0 L ∧ h = h0
set_option maxRecDepth 65536 in
set_option maxHeartbeats 40000000 in
theorem own_rm_ties_n (l : Launch) (Z : State) (a0 : Array Value) (hw : ∀ d ∈ tables_1, d.before a0 Z = true) (ws : List Jvm.Cond) (a : Addr) (h0 : Heap) (n0 : Nat) (Z0 : n0 ≤ h0.size) (F : Fld Z h0 a "com/example/stratacheck/stratacheck/spec/Tie" "from" "Lcom/example/stratacheck/stratacheck/model/Level;" .null) :
    MetFree l (⟨"com/example/stratacheck/stratacheck/spec/Tie", "ties", "()Z"⟩ : MethodName) (head1 (Jvm.Cond.code (⟨"com/example/stratacheck/stratacheck/spec/Tie", "ties", "()Z"⟩ : MethodName) prog_124_method_7_code 1 (some .boolean) :: ws) ({ frames := 0, cells := 0, slots := 0, locals := 0 } : Room)) (fun a_ U_ => a_ = #[(.ref a)] ∧ Z.Warmed39 U_.vm ∧ U_.heap = h0) (fun _ _ _ _ _ => True) (fun _ U_ o_ U'_ => ∃ v_ L_, o_ = .returned v_ ∧ own_Q_ties_n Z a h0 n0 v_ U'_.heap L_ ∧ FrameEnd U_ o_ U'_ L_ ({ frames := 0, cells := 0, slots := 0, locals := 0 } : Room).cells ({ frames := 0, cells := 0, slots := 0, locals := 0 } : Room).slots) := by
  refine MetFree.of_bodySF (plainFor_of_name own_pn_com_example_stratacheck_stratacheck_spec_Tie) hisR ?_
  intro p e s m args below meth c s₁ Bd hml0 hP hK
  obtain ⟨rfl, hZ, hh⟩ := hP
  have hx := Bd.exec
  have hby := Bd.bytes
  have hlk : meth.locks = false := BodyLoose.notSynchronized Bd
  have hml : c.maxLocals = 1 := hml0
  have hown : s.vm.findClass "com/example/stratacheck/stratacheck/spec/Tie" = some m.cls := findClass_of_methodNamed Bd.named
  have hnm := (name_of_methodNamed Bd.named Bd.method).1
  have X0 : Stand p l e ({ frames := 0, cells := 0, slots := 0, locals := 0 } : Room) s m #[(.ref a)] below meth c s₁ [] 0 0 := Stand.of_body Bd
  have e0 : s₁.heap = h0 := by rw [← hh, Bd.state]; rfl
  have N0 := Fr.nil n0
  show own_Goes p e below (own_K (own_Q_ties_n Z a h0 n0) s ({ frames := 0, cells := 0, slots := 0, locals := 0 } : Room).cells ({ frames := 0, cells := 0, slots := 0, locals := 0 } : Room).slots) s₁ (entryFrame m #[(.ref a)] 1)
  rw [own_ef_ties_n]
  refine own_by (T' := s₁) (g' := (mkF m 1 #[.val (.ref a)] [(.ref a)])) (fun t_ k_ => XS.aloadN X0.here hx rfl (hb hby own_d_ties_n_0) rfl rfl k_) ?_
  obtain ⟨T1, X1, e1, st1⟩ := getF X0 hx hZ hown (host := "") (Or.inl (hw _ (List.mem_of_getElem? (i := 8) rfl))) Via.refl e0 F (g := (mkF m 1 #[.val (.ref a)] [(.ref a)])) rfl rfl (hb hby own_d_ties_n_1)
  refine own_by (T' := T1) (g' := (mkF m 4 #[.val (.ref a)] [.null])) st1 ?_
  refine own_by (T' := T1) (g' := (mkF m 11 #[.val (.ref a)] [])) (fun t_ k_ => XS.ifnullYes X1.here hx rfl (pc0 := 4) (pc' := 11) rfl (hb hby own_d_ties_n_4) rfl (by decide) (by decide) k_) ?_
  refine own_by (T' := T1) (g' := (mkF m 12 #[.val (.ref a)] [(.int (0 : Int32))])) (fun t_ k_ => XS.iconst X1.here hx rfl (hb hby own_d_ties_n_11) k_) ?_
  refine own_retN X1 hx (t := .boolean) Bd.returns hlk (by simp) (hb hby own_d_ties_n_12) (by decide) (by decide) (v := (0 : Int32)) rfl ?_
  rw [e1]
  exact ⟨rfl, N0, rfl⟩
theorem own_d_from_n_0 : decode prog_124_method_8_code 0 = .ok (.aload_n 0, 1) := by decide +kernel
theorem own_d_from_n_1 : decode prog_124_method_8_code 1 = .ok (.getfield 35, 3) := by decide +kernel
theorem own_d_from_n_4 : decode prog_124_method_8_code 4 = .ok (.areturn, 1) := by decide +kernel
theorem own_ef_from_n (m : MethodId) (a : Addr) : entryFrame m #[(.ref a)] 1 = mkF m 0 #[.val (.ref a)] [] := by first | (simp [entryFrame, mkF, argsToLocals, Value.category]; done) | rfl
def own_Q_from_n (Z : State) (a : Addr) (h0 : Heap) (n0 : Nat) (v : Option Value) (h : Heap) (L : List Loc) : Prop := v = some .null ∧ Fr n0 L ∧ h = h0
set_option maxRecDepth 65536 in
set_option maxHeartbeats 40000000 in
theorem own_rm_from_n (l : Launch) (Z : State) (a0 : Array Value) (hw : ∀ d ∈ tables_1, d.before a0 Z = true) (ws : List Jvm.Cond) (a : Addr) (h0 : Heap) (n0 : Nat) (Z0 : n0 ≤ h0.size) (F : Fld Z h0 a "com/example/stratacheck/stratacheck/spec/Tie" "from" "Lcom/example/stratacheck/stratacheck/model/Level;" .null) :
    MetFree l (⟨"com/example/stratacheck/stratacheck/spec/Tie", "from", "()Lcom/example/stratacheck/stratacheck/model/Level;"⟩ : MethodName) (head1 (Jvm.Cond.code (⟨"com/example/stratacheck/stratacheck/spec/Tie", "from", "()Lcom/example/stratacheck/stratacheck/model/Level;"⟩ : MethodName) prog_124_method_8_code 1 (some (.object "com/example/stratacheck/stratacheck/model/Level")) :: ws) ({ frames := 0, cells := 0, slots := 0, locals := 0 } : Room)) (fun a_ U_ => a_ = #[(.ref a)] ∧ Z.Warmed39 U_.vm ∧ U_.heap = h0) (fun _ _ _ _ _ => True) (fun _ U_ o_ U'_ => ∃ v_ L_, o_ = .returned v_ ∧ own_Q_from_n Z a h0 n0 v_ U'_.heap L_ ∧ FrameEnd U_ o_ U'_ L_ ({ frames := 0, cells := 0, slots := 0, locals := 0 } : Room).cells ({ frames := 0, cells := 0, slots := 0, locals := 0 } : Room).slots) := by
  refine MetFree.of_bodySF (plainFor_of_name own_pn_com_example_stratacheck_stratacheck_spec_Tie) hisR ?_
  intro p e s m args below meth c s₁ Bd hml0 hP hK
  obtain ⟨rfl, hZ, hh⟩ := hP
  have hx := Bd.exec
  have hby := Bd.bytes
  have hlk : meth.locks = false := BodyLoose.notSynchronized Bd
  have hml : c.maxLocals = 1 := hml0
  have hown : s.vm.findClass "com/example/stratacheck/stratacheck/spec/Tie" = some m.cls := findClass_of_methodNamed Bd.named
  have hnm := (name_of_methodNamed Bd.named Bd.method).1
  have X0 : Stand p l e ({ frames := 0, cells := 0, slots := 0, locals := 0 } : Room) s m #[(.ref a)] below meth c s₁ [] 0 0 := Stand.of_body Bd
  have e0 : s₁.heap = h0 := by rw [← hh, Bd.state]; rfl
  have N0 := Fr.nil n0
  show own_Goes p e below (own_K (own_Q_from_n Z a h0 n0) s ({ frames := 0, cells := 0, slots := 0, locals := 0 } : Room).cells ({ frames := 0, cells := 0, slots := 0, locals := 0 } : Room).slots) s₁ (entryFrame m #[(.ref a)] 1)
  rw [own_ef_from_n]
  refine own_by (T' := s₁) (g' := (mkF m 1 #[.val (.ref a)] [(.ref a)])) (fun t_ k_ => XS.aloadN X0.here hx rfl (hb hby own_d_from_n_0) rfl rfl k_) ?_
  obtain ⟨T1, X1, e1, st1⟩ := getF X0 hx hZ hown (host := "") (Or.inl (hw _ (List.mem_of_getElem? (i := 8) rfl))) Via.refl e0 F (g := (mkF m 1 #[.val (.ref a)] [(.ref a)])) rfl rfl (hb hby own_d_from_n_1)
  refine own_by (T' := T1) (g' := (mkF m 4 #[.val (.ref a)] [.null])) st1 ?_
  refine own_retR X1 hx Bd.returns hlk rfl rfl (hb hby own_d_from_n_4) (by decide) (by decide) ?_
  rw [e1]
  exact ⟨rfl, N0, rfl⟩
theorem own_d_to_n_0 : decode prog_124_method_9_code 0 = .ok (.aload_n 0, 1) := by decide +kernel
theorem own_d_to_n_1 : decode prog_124_method_9_code 1 = .ok (.getfield 39, 3) := by decide +kernel
theorem own_d_to_n_4 : decode prog_124_method_9_code 4 = .ok (.areturn, 1) := by decide +kernel
theorem own_ef_to_n (m : MethodId) (a : Addr) : entryFrame m #[(.ref a)] 1 = mkF m 0 #[.val (.ref a)] [] := by first | (simp [entryFrame, mkF, argsToLocals, Value.category]; done) | rfl
def own_Q_to_n (Z : State) (a : Addr) (h0 : Heap) (n0 : Nat) (v : Option Value) (h : Heap) (L : List Loc) : Prop := v = some .null ∧ Fr n0 L ∧ h = h0
set_option maxRecDepth 65536 in
set_option maxHeartbeats 40000000 in
theorem own_rm_to_n (l : Launch) (Z : State) (a0 : Array Value) (hw : ∀ d ∈ tables_1, d.before a0 Z = true) (ws : List Jvm.Cond) (a : Addr) (h0 : Heap) (n0 : Nat) (Z0 : n0 ≤ h0.size) (F : Fld Z h0 a "com/example/stratacheck/stratacheck/spec/Tie" "to" "Lcom/example/stratacheck/stratacheck/model/Level;" .null) :
    MetFree l (⟨"com/example/stratacheck/stratacheck/spec/Tie", "to", "()Lcom/example/stratacheck/stratacheck/model/Level;"⟩ : MethodName) (head1 (Jvm.Cond.code (⟨"com/example/stratacheck/stratacheck/spec/Tie", "to", "()Lcom/example/stratacheck/stratacheck/model/Level;"⟩ : MethodName) prog_124_method_9_code 1 (some (.object "com/example/stratacheck/stratacheck/model/Level")) :: ws) ({ frames := 0, cells := 0, slots := 0, locals := 0 } : Room)) (fun a_ U_ => a_ = #[(.ref a)] ∧ Z.Warmed39 U_.vm ∧ U_.heap = h0) (fun _ _ _ _ _ => True) (fun _ U_ o_ U'_ => ∃ v_ L_, o_ = .returned v_ ∧ own_Q_to_n Z a h0 n0 v_ U'_.heap L_ ∧ FrameEnd U_ o_ U'_ L_ ({ frames := 0, cells := 0, slots := 0, locals := 0 } : Room).cells ({ frames := 0, cells := 0, slots := 0, locals := 0 } : Room).slots) := by
  refine MetFree.of_bodySF (plainFor_of_name own_pn_com_example_stratacheck_stratacheck_spec_Tie) hisR ?_
  intro p e s m args below meth c s₁ Bd hml0 hP hK
  obtain ⟨rfl, hZ, hh⟩ := hP
  have hx := Bd.exec
  have hby := Bd.bytes
  have hlk : meth.locks = false := BodyLoose.notSynchronized Bd
  have hml : c.maxLocals = 1 := hml0
  have hown : s.vm.findClass "com/example/stratacheck/stratacheck/spec/Tie" = some m.cls := findClass_of_methodNamed Bd.named
  have hnm := (name_of_methodNamed Bd.named Bd.method).1
  have X0 : Stand p l e ({ frames := 0, cells := 0, slots := 0, locals := 0 } : Room) s m #[(.ref a)] below meth c s₁ [] 0 0 := Stand.of_body Bd
  have e0 : s₁.heap = h0 := by rw [← hh, Bd.state]; rfl
  have N0 := Fr.nil n0
  show own_Goes p e below (own_K (own_Q_to_n Z a h0 n0) s ({ frames := 0, cells := 0, slots := 0, locals := 0 } : Room).cells ({ frames := 0, cells := 0, slots := 0, locals := 0 } : Room).slots) s₁ (entryFrame m #[(.ref a)] 1)
  rw [own_ef_to_n]
  refine own_by (T' := s₁) (g' := (mkF m 1 #[.val (.ref a)] [(.ref a)])) (fun t_ k_ => XS.aloadN X0.here hx rfl (hb hby own_d_to_n_0) rfl rfl k_) ?_
  obtain ⟨T1, X1, e1, st1⟩ := getF X0 hx hZ hown (host := "") (Or.inl (hw _ (List.mem_of_getElem? (i := 22) rfl))) Via.refl e0 F (g := (mkF m 1 #[.val (.ref a)] [(.ref a)])) rfl rfl (hb hby own_d_to_n_1)
  refine own_by (T' := T1) (g' := (mkF m 4 #[.val (.ref a)] [.null])) st1 ?_
  refine own_retR X1 hx Bd.returns hlk rfl rfl (hb hby own_d_to_n_4) (by decide) (by decide) ?_
  rw [e1]
  exact ⟨rfl, N0, rfl⟩
theorem own_d_ties_r_0 : decode prog_124_method_7_code 0 = .ok (.aload_n 0, 1) := by decide +kernel
theorem own_d_ties_r_1 : decode prog_124_method_7_code 1 = .ok (.getfield 35, 3) := by decide +kernel
theorem own_d_ties_r_4 : decode prog_124_method_7_code 4 = .ok (.ifnull 7, 3) := by decide +kernel
theorem own_d_ties_r_7 : decode prog_124_method_7_code 7 = .ok (.iconst 1, 1) := by decide +kernel
theorem own_d_ties_r_8 : decode prog_124_method_7_code 8 = .ok (.goto 4, 3) := by decide +kernel
theorem own_d_ties_r_12 : decode prog_124_method_7_code 12 = .ok (.ireturn, 1) := by decide +kernel
theorem own_ef_ties_r (m : MethodId) (a : Addr) : entryFrame m #[(.ref a)] 1 = mkF m 0 #[.val (.ref a)] [] := by first | (simp [entryFrame, mkF, argsToLocals, Value.category]; done) | rfl
def own_Q_ties_r (Z : State) (a : Addr) (b : Addr) (h0 : Heap) (n0 : Nat) (v : Option Value) (h : Heap) (L : List Loc) : Prop := v = some (.int (1 : Int32)) ∧ Fr n0 L ∧ h = h0
set_option maxRecDepth 65536 in
set_option maxHeartbeats 40000000 in
theorem own_rm_ties_r (l : Launch) (Z : State) (a0 : Array Value) (hw : ∀ d ∈ tables_1, d.before a0 Z = true) (ws : List Jvm.Cond) (a : Addr) (b : Addr) (h0 : Heap) (n0 : Nat) (Z0 : n0 ≤ h0.size) (F : Fld Z h0 a "com/example/stratacheck/stratacheck/spec/Tie" "from" "Lcom/example/stratacheck/stratacheck/model/Level;" (.ref b)) :
    MetFree l (⟨"com/example/stratacheck/stratacheck/spec/Tie", "ties", "()Z"⟩ : MethodName) (head1 (Jvm.Cond.code (⟨"com/example/stratacheck/stratacheck/spec/Tie", "ties", "()Z"⟩ : MethodName) prog_124_method_7_code 1 (some .boolean) :: ws) ({ frames := 0, cells := 0, slots := 0, locals := 0 } : Room)) (fun a_ U_ => a_ = #[(.ref a)] ∧ Z.Warmed39 U_.vm ∧ U_.heap = h0) (fun _ _ _ _ _ => True) (fun _ U_ o_ U'_ => ∃ v_ L_, o_ = .returned v_ ∧ own_Q_ties_r Z a b h0 n0 v_ U'_.heap L_ ∧ FrameEnd U_ o_ U'_ L_ ({ frames := 0, cells := 0, slots := 0, locals := 0 } : Room).cells ({ frames := 0, cells := 0, slots := 0, locals := 0 } : Room).slots) := by
  refine MetFree.of_bodySF (plainFor_of_name own_pn_com_example_stratacheck_stratacheck_spec_Tie) hisR ?_
  intro p e s m args below meth c s₁ Bd hml0 hP hK
  obtain ⟨rfl, hZ, hh⟩ := hP
  have hx := Bd.exec
  have hby := Bd.bytes
  have hlk : meth.locks = false := BodyLoose.notSynchronized Bd
  have hml : c.maxLocals = 1 := hml0
  have hown : s.vm.findClass "com/example/stratacheck/stratacheck/spec/Tie" = some m.cls := findClass_of_methodNamed Bd.named
  have hnm := (name_of_methodNamed Bd.named Bd.method).1
  have X0 : Stand p l e ({ frames := 0, cells := 0, slots := 0, locals := 0 } : Room) s m #[(.ref a)] below meth c s₁ [] 0 0 := Stand.of_body Bd
  have e0 : s₁.heap = h0 := by rw [← hh, Bd.state]; rfl
  have N0 := Fr.nil n0
  show own_Goes p e below (own_K (own_Q_ties_r Z a b h0 n0) s ({ frames := 0, cells := 0, slots := 0, locals := 0 } : Room).cells ({ frames := 0, cells := 0, slots := 0, locals := 0 } : Room).slots) s₁ (entryFrame m #[(.ref a)] 1)
  rw [own_ef_ties_r]
  refine own_by (T' := s₁) (g' := (mkF m 1 #[.val (.ref a)] [(.ref a)])) (fun t_ k_ => XS.aloadN X0.here hx rfl (hb hby own_d_ties_r_0) rfl rfl k_) ?_
  obtain ⟨T1, X1, e1, st1⟩ := getF X0 hx hZ hown (host := "") (Or.inl (hw _ (List.mem_of_getElem? (i := 8) rfl))) Via.refl e0 F (g := (mkF m 1 #[.val (.ref a)] [(.ref a)])) rfl rfl (hb hby own_d_ties_r_1)
  refine own_by (T' := T1) (g' := (mkF m 4 #[.val (.ref a)] [(.ref b)])) st1 ?_
  refine own_by (T' := T1) (g' := (mkF m 7 #[.val (.ref a)] [])) (fun t_ k_ => XS.ifnullNo X1.here hx rfl (hb hby own_d_ties_r_4) rfl k_) ?_
  refine own_by (T' := T1) (g' := (mkF m 8 #[.val (.ref a)] [(.int (1 : Int32))])) (fun t_ k_ => XS.iconst X1.here hx rfl (hb hby own_d_ties_r_7) k_) ?_
  refine own_by (T' := T1) (g' := (mkF m 12 #[.val (.ref a)] [(.int (1 : Int32))])) (fun t_ k_ => XS.goto X1.here hx rfl (pc0 := 8) (pc' := 12) rfl (hb hby own_d_ties_r_8) (by decide) (by decide) k_) ?_
  refine own_retN X1 hx (t := .boolean) Bd.returns hlk (by simp) (hb hby own_d_ties_r_12) (by decide) (by decide) (v := (1 : Int32)) rfl ?_
  rw [e1]
  exact ⟨rfl, N0, rfl⟩
theorem own_d_from_r_0 : decode prog_124_method_8_code 0 = .ok (.aload_n 0, 1) := by decide +kernel
theorem own_d_from_r_1 : decode prog_124_method_8_code 1 = .ok (.getfield 35, 3) := by decide +kernel
theorem own_d_from_r_4 : decode prog_124_method_8_code 4 = .ok (.areturn, 1) := by decide +kernel
theorem own_ef_from_r (m : MethodId) (a : Addr) : entryFrame m #[(.ref a)] 1 = mkF m 0 #[.val (.ref a)] [] := by first | (simp [entryFrame, mkF, argsToLocals, Value.category]; done) | rfl
def own_Q_from_r (Z : State) (a : Addr) (b : Addr) (h0 : Heap) (n0 : Nat) (v : Option Value) (h : Heap) (L : List Loc) : Prop := v = some (.ref b) ∧ Fr n0 L ∧ h = h0
set_option maxRecDepth 65536 in
set_option maxHeartbeats 40000000 in
theorem own_rm_from_r (l : Launch) (Z : State) (a0 : Array Value) (hw : ∀ d ∈ tables_1, d.before a0 Z = true) (ws : List Jvm.Cond) (a : Addr) (b : Addr) (h0 : Heap) (n0 : Nat) (Z0 : n0 ≤ h0.size) (F : Fld Z h0 a "com/example/stratacheck/stratacheck/spec/Tie" "from" "Lcom/example/stratacheck/stratacheck/model/Level;" (.ref b)) :
    MetFree l (⟨"com/example/stratacheck/stratacheck/spec/Tie", "from", "()Lcom/example/stratacheck/stratacheck/model/Level;"⟩ : MethodName) (head1 (Jvm.Cond.code (⟨"com/example/stratacheck/stratacheck/spec/Tie", "from", "()Lcom/example/stratacheck/stratacheck/model/Level;"⟩ : MethodName) prog_124_method_8_code 1 (some (.object "com/example/stratacheck/stratacheck/model/Level")) :: ws) ({ frames := 0, cells := 0, slots := 0, locals := 0 } : Room)) (fun a_ U_ => a_ = #[(.ref a)] ∧ Z.Warmed39 U_.vm ∧ U_.heap = h0) (fun _ _ _ _ _ => True) (fun _ U_ o_ U'_ => ∃ v_ L_, o_ = .returned v_ ∧ own_Q_from_r Z a b h0 n0 v_ U'_.heap L_ ∧ FrameEnd U_ o_ U'_ L_ ({ frames := 0, cells := 0, slots := 0, locals := 0 } : Room).cells ({ frames := 0, cells := 0, slots := 0, locals := 0 } : Room).slots) := by
  refine MetFree.of_bodySF (plainFor_of_name own_pn_com_example_stratacheck_stratacheck_spec_Tie) hisR ?_
  intro p e s m args below meth c s₁ Bd hml0 hP hK
  obtain ⟨rfl, hZ, hh⟩ := hP
  have hx := Bd.exec
  have hby := Bd.bytes
  have hlk : meth.locks = false := BodyLoose.notSynchronized Bd
  have hml : c.maxLocals = 1 := hml0
  have hown : s.vm.findClass "com/example/stratacheck/stratacheck/spec/Tie" = some m.cls := findClass_of_methodNamed Bd.named
  have hnm := (name_of_methodNamed Bd.named Bd.method).1
  have X0 : Stand p l e ({ frames := 0, cells := 0, slots := 0, locals := 0 } : Room) s m #[(.ref a)] below meth c s₁ [] 0 0 := Stand.of_body Bd
  have e0 : s₁.heap = h0 := by rw [← hh, Bd.state]; rfl
  have N0 := Fr.nil n0
  show own_Goes p e below (own_K (own_Q_from_r Z a b h0 n0) s ({ frames := 0, cells := 0, slots := 0, locals := 0 } : Room).cells ({ frames := 0, cells := 0, slots := 0, locals := 0 } : Room).slots) s₁ (entryFrame m #[(.ref a)] 1)
  rw [own_ef_from_r]
  refine own_by (T' := s₁) (g' := (mkF m 1 #[.val (.ref a)] [(.ref a)])) (fun t_ k_ => XS.aloadN X0.here hx rfl (hb hby own_d_from_r_0) rfl rfl k_) ?_
  obtain ⟨T1, X1, e1, st1⟩ := getF X0 hx hZ hown (host := "") (Or.inl (hw _ (List.mem_of_getElem? (i := 8) rfl))) Via.refl e0 F (g := (mkF m 1 #[.val (.ref a)] [(.ref a)])) rfl rfl (hb hby own_d_from_r_1)
  refine own_by (T' := T1) (g' := (mkF m 4 #[.val (.ref a)] [(.ref b)])) st1 ?_
  refine own_retR X1 hx Bd.returns hlk rfl rfl (hb hby own_d_from_r_4) (by decide) (by decide) ?_
  rw [e1]
  exact ⟨rfl, N0, rfl⟩
theorem own_d_to_r_0 : decode prog_124_method_9_code 0 = .ok (.aload_n 0, 1) := by decide +kernel
theorem own_d_to_r_1 : decode prog_124_method_9_code 1 = .ok (.getfield 39, 3) := by decide +kernel
theorem own_d_to_r_4 : decode prog_124_method_9_code 4 = .ok (.areturn, 1) := by decide +kernel
theorem own_ef_to_r (m : MethodId) (a : Addr) : entryFrame m #[(.ref a)] 1 = mkF m 0 #[.val (.ref a)] [] := by first | (simp [entryFrame, mkF, argsToLocals, Value.category]; done) | rfl
def own_Q_to_r (Z : State) (a : Addr) (b : Addr) (h0 : Heap) (n0 : Nat) (v : Option Value) (h : Heap) (L : List Loc) : Prop := v = some (.ref b) ∧ Fr n0 L ∧ h = h0
set_option maxRecDepth 65536 in
set_option maxHeartbeats 40000000 in
theorem own_rm_to_r (l : Launch) (Z : State) (a0 : Array Value) (hw : ∀ d ∈ tables_1, d.before a0 Z = true) (ws : List Jvm.Cond) (a : Addr) (b : Addr) (h0 : Heap) (n0 : Nat) (Z0 : n0 ≤ h0.size) (F : Fld Z h0 a "com/example/stratacheck/stratacheck/spec/Tie" "to" "Lcom/example/stratacheck/stratacheck/model/Level;" (.ref b)) :
    MetFree l (⟨"com/example/stratacheck/stratacheck/spec/Tie", "to", "()Lcom/example/stratacheck/stratacheck/model/Level;"⟩ : MethodName) (head1 (Jvm.Cond.code (⟨"com/example/stratacheck/stratacheck/spec/Tie", "to", "()Lcom/example/stratacheck/stratacheck/model/Level;"⟩ : MethodName) prog_124_method_9_code 1 (some (.object "com/example/stratacheck/stratacheck/model/Level")) :: ws) ({ frames := 0, cells := 0, slots := 0, locals := 0 } : Room)) (fun a_ U_ => a_ = #[(.ref a)] ∧ Z.Warmed39 U_.vm ∧ U_.heap = h0) (fun _ _ _ _ _ => True) (fun _ U_ o_ U'_ => ∃ v_ L_, o_ = .returned v_ ∧ own_Q_to_r Z a b h0 n0 v_ U'_.heap L_ ∧ FrameEnd U_ o_ U'_ L_ ({ frames := 0, cells := 0, slots := 0, locals := 0 } : Room).cells ({ frames := 0, cells := 0, slots := 0, locals := 0 } : Room).slots) := by
  refine MetFree.of_bodySF (plainFor_of_name own_pn_com_example_stratacheck_stratacheck_spec_Tie) hisR ?_
  intro p e s m args below meth c s₁ Bd hml0 hP hK
  obtain ⟨rfl, hZ, hh⟩ := hP
  have hx := Bd.exec
  have hby := Bd.bytes
  have hlk : meth.locks = false := BodyLoose.notSynchronized Bd
  have hml : c.maxLocals = 1 := hml0
  have hown : s.vm.findClass "com/example/stratacheck/stratacheck/spec/Tie" = some m.cls := findClass_of_methodNamed Bd.named
  have hnm := (name_of_methodNamed Bd.named Bd.method).1
  have X0 : Stand p l e ({ frames := 0, cells := 0, slots := 0, locals := 0 } : Room) s m #[(.ref a)] below meth c s₁ [] 0 0 := Stand.of_body Bd
  have e0 : s₁.heap = h0 := by rw [← hh, Bd.state]; rfl
  have N0 := Fr.nil n0
  show own_Goes p e below (own_K (own_Q_to_r Z a b h0 n0) s ({ frames := 0, cells := 0, slots := 0, locals := 0 } : Room).cells ({ frames := 0, cells := 0, slots := 0, locals := 0 } : Room).slots) s₁ (entryFrame m #[(.ref a)] 1)
  rw [own_ef_to_r]
  refine own_by (T' := s₁) (g' := (mkF m 1 #[.val (.ref a)] [(.ref a)])) (fun t_ k_ => XS.aloadN X0.here hx rfl (hb hby own_d_to_r_0) rfl rfl k_) ?_
  obtain ⟨T1, X1, e1, st1⟩ := getF X0 hx hZ hown (host := "") (Or.inl (hw _ (List.mem_of_getElem? (i := 22) rfl))) Via.refl e0 F (g := (mkF m 1 #[.val (.ref a)] [(.ref a)])) rfl rfl (hb hby own_d_to_r_1)
  refine own_by (T' := T1) (g' := (mkF m 4 #[.val (.ref a)] [(.ref b)])) st1 ?_
  refine own_retR X1 hx Bd.returns hlk rfl rfl (hb hby own_d_to_r_4) (by decide) (by decide) ?_
  rw [e1]
  exact ⟨rfl, N0, rfl⟩
theorem own_pd0 : parseMethodDescriptor "()Z" = some ⟨[], some .boolean⟩ := by decide +kernel
theorem own_pd1 : parseMethodDescriptor "()Lcom/example/stratacheck/stratacheck/model/Level;" = some ⟨[], some (.object "com/example/stratacheck/stratacheck/model/Level")⟩ := by decide +kernel
theorem own_pn_com_example_stratacheck_stratacheck_spec_TieTiesPinLaw : plainName "com/example/stratacheck/stratacheck/spec/TieTiesPinLaw" = true := by first | (simp [plainName, overriddenIn]; done) | decide +kernel
theorem own_ef_law (m : MethodId) (q : Int32) : entryFrame m #[(.int q)] maxLocals = mkF m 0 #[.val (.int q), .unset, .unset, .unset, .unset, .unset, .unset] [] := by first | (simp [entryFrame, mkF, argsToLocals, Value.category, maxLocals]; done) | rfl
def own_Q_law (Z : State) (q : Int32) (a_WRITE_THROUGH : Addr) (a_READ_BACK : Addr) (a_WRITE_BACK : Addr) (a_READ_THROUGH : Addr) (a_WEAK : Addr) (a_STRONG : Addr) (h0 : Heap) (n0 : Nat) (v : Option Value) (h : Heap) (L : List Loc) : Prop := v = some (.int 1) ∧ Fr n0 L
set_option maxRecDepth 65536 in
set_option maxHeartbeats 40000000 in
theorem own_rm_law (l : Launch) (Z : State) (a0 : Array Value) (hw : ∀ d ∈ tables_1, d.before a0 Z = true) (ws : List Jvm.Cond) (q : Int32) (a_WRITE_THROUGH : Addr) (a_READ_BACK : Addr) (a_WRITE_BACK : Addr) (a_READ_THROUGH : Addr) (a_WEAK : Addr) (a_STRONG : Addr) (h0 : Heap) (n0 : Nat) (Z0 : n0 ≤ h0.size) (S_WRITE_THROUGH : Sta Z h0 "com/example/stratacheck/stratacheck/spec/Tie" "WRITE_THROUGH" "Lcom/example/stratacheck/stratacheck/spec/Tie;" (.ref a_WRITE_THROUGH)) (S_READ_BACK : Sta Z h0 "com/example/stratacheck/stratacheck/spec/Tie" "READ_BACK" "Lcom/example/stratacheck/stratacheck/spec/Tie;" (.ref a_READ_BACK)) (S_WRITE_BACK : Sta Z h0 "com/example/stratacheck/stratacheck/spec/Tie" "WRITE_BACK" "Lcom/example/stratacheck/stratacheck/spec/Tie;" (.ref a_WRITE_BACK)) (S_READ_THROUGH : Sta Z h0 "com/example/stratacheck/stratacheck/spec/Tie" "READ_THROUGH" "Lcom/example/stratacheck/stratacheck/spec/Tie;" (.ref a_READ_THROUGH)) (E_WRITE_THROUGH : Exa Z h0 a_WRITE_THROUGH "com/example/stratacheck/stratacheck/spec/Tie") (E_READ_BACK : Exa Z h0 a_READ_BACK "com/example/stratacheck/stratacheck/spec/Tie") (E_WRITE_BACK : Exa Z h0 a_WRITE_BACK "com/example/stratacheck/stratacheck/spec/Tie") (E_READ_THROUGH : Exa Z h0 a_READ_THROUGH "com/example/stratacheck/stratacheck/spec/Tie") (F_WRITE_THROUGH_from : Fld Z h0 a_WRITE_THROUGH "com/example/stratacheck/stratacheck/spec/Tie" "from" "Lcom/example/stratacheck/stratacheck/model/Level;" (.ref a_WEAK)) (F_WRITE_THROUGH_to : Fld Z h0 a_WRITE_THROUGH "com/example/stratacheck/stratacheck/spec/Tie" "to" "Lcom/example/stratacheck/stratacheck/model/Level;" (.ref a_STRONG)) (F_READ_BACK_from : Fld Z h0 a_READ_BACK "com/example/stratacheck/stratacheck/spec/Tie" "from" "Lcom/example/stratacheck/stratacheck/model/Level;" (.ref a_STRONG)) (F_READ_BACK_to : Fld Z h0 a_READ_BACK "com/example/stratacheck/stratacheck/spec/Tie" "to" "Lcom/example/stratacheck/stratacheck/model/Level;" (.ref a_WEAK)) (F_WRITE_BACK_from : Fld Z h0 a_WRITE_BACK "com/example/stratacheck/stratacheck/spec/Tie" "from" "Lcom/example/stratacheck/stratacheck/model/Level;" .null) (F_WRITE_BACK_to : Fld Z h0 a_WRITE_BACK "com/example/stratacheck/stratacheck/spec/Tie" "to" "Lcom/example/stratacheck/stratacheck/model/Level;" .null) (F_READ_THROUGH_from : Fld Z h0 a_READ_THROUGH "com/example/stratacheck/stratacheck/spec/Tie" "from" "Lcom/example/stratacheck/stratacheck/model/Level;" .null) (F_READ_THROUGH_to : Fld Z h0 a_READ_THROUGH "com/example/stratacheck/stratacheck/spec/Tie" "to" "Lcom/example/stratacheck/stratacheck/model/Level;" .null) (ne_WS : a_WEAK ≠ a_STRONG) :
    MetFree l x (head1 (Jvm.Cond.code x code maxLocals ret :: ws) room_1) (fun a_ U_ => a_ = #[(.int q)] ∧ Z.Warmed39 U_.vm ∧ U_.heap = h0) (fun _ _ _ _ _ => True) (fun _ U_ o_ U'_ => ∃ v_ L_, o_ = .returned v_ ∧ own_Q_law Z q a_WRITE_THROUGH a_READ_BACK a_WRITE_BACK a_READ_THROUGH a_WEAK a_STRONG h0 n0 v_ U'_.heap L_ ∧ FrameEnd U_ o_ U'_ L_ room_1.cells room_1.slots) := by
  refine MetFree.of_bodySF (plainFor_of_name own_pn_com_example_stratacheck_stratacheck_spec_TieTiesPinLaw) hisR ?_
  intro p e s m args below meth c s₁ Bd hml0 hP hK
  obtain ⟨rfl, hZ, hh⟩ := hP
  have hx := Bd.exec
  have hby := Bd.bytes
  have hlk : meth.locks = false := BodyLoose.notSynchronized Bd
  have hml : c.maxLocals = 7 := hml0
  have hown : s.vm.findClass "com/example/stratacheck/stratacheck/spec/TieTiesPinLaw" = some m.cls := findClass_of_methodNamed Bd.named
  have hnm := (name_of_methodNamed Bd.named Bd.method).1
  have X0 : Stand p l e room_1 s m #[(.int q)] below meth c s₁ [] 0 0 := Stand.of_body Bd
  have e0 : s₁.heap = h0 := by rw [← hh, Bd.state]; rfl
  have N0 := Fr.nil n0
  show own_Goes p e below (own_K (own_Q_law Z q a_WRITE_THROUGH a_READ_BACK a_WRITE_BACK a_READ_THROUGH a_WEAK a_STRONG h0 n0) s room_1.cells room_1.slots) s₁ (entryFrame m #[(.int q)] maxLocals)
  rw [own_ef_law]
  refine own_by (T' := s₁) (g' := (mkF m 1 #[.val (.int q), .unset, .unset, .unset, .unset, .unset, .unset] [(.int q)])) (fun t_ k_ => XS.iloadN X0.here hx rfl (hb hby at_0) rfl k_) ?_
  refine own_by (T' := s₁) (g' := (mkF m 2 #[.val (.int q), .unset, .unset, .unset, .unset, .unset, .unset] [(.int (3 : Int32)), (.int q)])) (fun t_ k_ => XS.iconst X0.here hx rfl (hb hby at_1) k_) ?_
  refine own_by (T' := s₁) (g' := (mkF m 3 #[.val (.int q), .unset, .unset, .unset, .unset, .unset, .unset] [(.int (q &&& (3 : Int32)))])) (fun t_ k_ => XS.iand X0.here hx rfl (hb hby at_2) rfl k_) ?_
  refine own_by (T' := s₁) (g' := (mkF m 4 #[.val (.int q), .val (.int (q &&& (3 : Int32))), .unset, .unset, .unset, .unset, .unset] [])) (fun t_ k_ => XS.istoreN X0.here hx rfl (hb hby at_3) rfl (l' := #[.val (.int q), .val (.int (q &&& (3 : Int32))), .unset, .unset, .unset, .unset, .unset]) rfl k_) ?_
  rcases own_kk q with hk | hk | hk | hk
  · skip
    rw [hk]
    refine own_by (T' := s₁) (g' := (mkF m 5 #[.val (.int q), .val (.int (0 : Int32)), .unset, .unset, .unset, .unset, .unset] [(.int (0 : Int32))])) (fun t_ k_ => XS.iloadN X0.here hx rfl (hb hby at_4) rfl k_) ?_
    refine own_by (T' := s₁) (g' := (mkF m 8 #[.val (.int q), .val (.int (0 : Int32)), .unset, .unset, .unset, .unset, .unset] [])) (fun t_ k_ => XS.ifNo X0.here hx rfl (hb hby at_5) rfl ((if0 _ _).trans (teq ((by decide) : (0 : Int32) = (0 : Int32))).2) k_) ?_
    obtain ⟨T1, X1, e1, st1⟩ := getS2 X0 hx hZ hown (host := "") (Or.inl (hw _ (List.mem_of_getElem? (i := 0) rfl))) Via.refl e0 S_WRITE_THROUGH (g := (mkF m 8 #[.val (.int q), .val (.int (0 : Int32)), .unset, .unset, .unset, .unset, .unset] [])) rfl (hb hby at_8)
    refine own_by (T' := T1) (g' := (mkF m 11 #[.val (.int q), .val (.int (0 : Int32)), .unset, .unset, .unset, .unset, .unset] [(.ref a_WRITE_THROUGH)])) st1 ?_
    refine own_by (T' := T1) (g' := (mkF m 12 #[.val (.int q), .val (.int (0 : Int32)), .val (.ref a_WRITE_THROUGH), .unset, .unset, .unset, .unset] [])) (fun t_ k_ => XS.astoreN X1.here hx rfl (hb hby at_11) rfl rfl (l' := #[.val (.int q), .val (.int (0 : Int32)), .val (.ref a_WRITE_THROUGH), .unset, .unset, .unset, .unset]) rfl k_) ?_
    refine own_by (T' := T1) (g' := (mkF m 43 #[.val (.int q), .val (.int (0 : Int32)), .val (.ref a_WRITE_THROUGH), .unset, .unset, .unset, .unset] [])) (fun t_ k_ => XS.goto X1.here hx rfl (pc0 := 12) (pc' := 43) rfl (hb hby at_12) (by decide) (by decide) k_) ?_
    refine own_by (T' := T1) (g' := (mkF m 44 #[.val (.int q), .val (.int (0 : Int32)), .val (.ref a_WRITE_THROUGH), .unset, .unset, .unset, .unset] [(.int (0 : Int32))])) (fun t_ k_ => XS.iloadN X1.here hx rfl (hb hby at_43) rfl k_) ?_
    refine own_by (T' := T1) (g' := (mkF m 45 #[.val (.int q), .val (.int (0 : Int32)), .val (.ref a_WRITE_THROUGH), .unset, .unset, .unset, .unset] [(.int (2 : Int32)), (.int (0 : Int32))])) (fun t_ k_ => XS.iconst X1.here hx rfl (hb hby at_44) k_) ?_
    refine own_by (T' := T1) (g' := (mkF m 48 #[.val (.int q), .val (.int (0 : Int32)), .val (.ref a_WRITE_THROUGH), .unset, .unset, .unset, .unset] [])) (fun t_ k_ => XS.icmpNo X1.here hx rfl (hb hby at_45) rfl (tlt ((by decide) : (0 : Int32) < (2 : Int32))).2.1 k_) ?_
    refine own_by (T' := T1) (g' := (mkF m 49 #[.val (.int q), .val (.int (0 : Int32)), .val (.ref a_WRITE_THROUGH), .unset, .unset, .unset, .unset] [(.int (1 : Int32))])) (fun t_ k_ => XS.iconst X1.here hx rfl (hb hby at_48) k_) ?_
    refine own_by (T' := T1) (g' := (mkF m 53 #[.val (.int q), .val (.int (0 : Int32)), .val (.ref a_WRITE_THROUGH), .unset, .unset, .unset, .unset] [(.int (1 : Int32))])) (fun t_ k_ => XS.goto X1.here hx rfl (pc0 := 49) (pc' := 53) rfl (hb hby at_49) (by decide) (by decide) k_) ?_
    refine own_by (T' := T1) (g' := (mkF m 54 #[.val (.int q), .val (.int (0 : Int32)), .val (.ref a_WRITE_THROUGH), .val (.int (1 : Int32)), .unset, .unset, .unset] [])) (fun t_ k_ => XS.istoreN X1.here hx rfl (hb hby at_53) rfl (l' := #[.val (.int q), .val (.int (0 : Int32)), .val (.ref a_WRITE_THROUGH), .val (.int (1 : Int32)), .unset, .unset, .unset]) rfl k_) ?_
    refine own_by (T' := T1) (g' := (mkF m 55 #[.val (.int q), .val (.int (0 : Int32)), .val (.ref a_WRITE_THROUGH), .val (.int (1 : Int32)), .unset, .unset, .unset] [(.ref a_WRITE_THROUGH)])) (fun t_ k_ => XS.aloadN X1.here hx rfl (hb hby at_54) rfl rfl k_) ?_
    obtain ⟨_, T2, L2, X2, hQ2, st2⟩ := own_callV X1 hx hZ (y := (⟨"com/example/stratacheck/stratacheck/spec/Tie", "ties", "()Z"⟩ : MethodName)) hown (hw _ (List.mem_of_getElem? (i := 3) rfl)) (hw _ (List.mem_of_getElem? (i := 4) rfl)) (hw _ (List.mem_of_getElem? (i := 6) rfl)) (hw _ (List.mem_of_getElem? (i := 5) rfl)) (hw _ (List.mem_of_getElem? (i := 1) rfl)) (hw _ (List.mem_of_getElem? (i := 7) rfl)) (by decide) (argsL := []) (rest := []) E_WRITE_THROUGH (own_rm_ties_r l Z a0 hw [] a_WRITE_THROUGH a_WEAK h0 n0 Z0 F_WRITE_THROUGH_from) e1 (W := 0) (by decide) (by decide) (by decide) (by decide) (g := (mkF m 55 #[.val (.int q), .val (.int (0 : Int32)), .val (.ref a_WRITE_THROUGH), .val (.int (1 : Int32)), .unset, .unset, .unset] [(.ref a_WRITE_THROUGH)])) rfl (by rw [hml]; rfl) (lenOf own_pd0 rfl) rfl (by show 2 * 0 + _ ≤ _; exact Nat.le_of_eq rfl) (hb hby at_55)
    obtain ⟨rfl, Nq2, e2⟩ := hQ2
    have N2 := Fr.app N0 Nq2
    refine st2 _ ?_
    show own_Goes p e below _ T2 (mkF m 58 #[.val (.int q), .val (.int (0 : Int32)), .val (.ref a_WRITE_THROUGH), .val (.int (1 : Int32)), .unset, .unset, .unset] [(.int (1 : Int32))])
    refine own_by (T' := T2) (g' := (mkF m 60 #[.val (.int q), .val (.int (0 : Int32)), .val (.ref a_WRITE_THROUGH), .val (.int (1 : Int32)), .val (.int (1 : Int32)), .unset, .unset] [])) (fun t_ k_ => XS.istore X2.here hx rfl (hb hby at_58) rfl (l' := #[.val (.int q), .val (.int (0 : Int32)), .val (.ref a_WRITE_THROUGH), .val (.int (1 : Int32)), .val (.int (1 : Int32)), .unset, .unset]) rfl k_) ?_
    refine own_by (T' := T2) (g' := (mkF m 62 #[.val (.int q), .val (.int (0 : Int32)), .val (.ref a_WRITE_THROUGH), .val (.int (1 : Int32)), .val (.int (1 : Int32)), .unset, .unset] [(.int (1 : Int32))])) (fun t_ k_ => XS.iload X2.here hx rfl (hb hby at_60) rfl k_) ?_
    refine own_by (T' := T2) (g' := (mkF m 63 #[.val (.int q), .val (.int (0 : Int32)), .val (.ref a_WRITE_THROUGH), .val (.int (1 : Int32)), .val (.int (1 : Int32)), .unset, .unset] [(.int (1 : Int32)), (.int (1 : Int32))])) (fun t_ k_ => XS.iloadN X2.here hx rfl (hb hby at_62) rfl k_) ?_
    refine own_by (T' := T2) (g' := (mkF m 68 #[.val (.int q), .val (.int (0 : Int32)), .val (.ref a_WRITE_THROUGH), .val (.int (1 : Int32)), .val (.int (1 : Int32)), .unset, .unset] [])) (fun t_ k_ => XS.icmpYes X2.here hx rfl (pc0 := 63) (pc' := 68) rfl (hb hby at_63) rfl (teq ((by decide) : (1 : Int32) = (1 : Int32))).1 (by decide) (by decide) k_) ?_
    refine own_by (T' := T2) (g' := (mkF m 69 #[.val (.int q), .val (.int (0 : Int32)), .val (.ref a_WRITE_THROUGH), .val (.int (1 : Int32)), .val (.int (1 : Int32)), .unset, .unset] [(.ref a_WRITE_THROUGH)])) (fun t_ k_ => XS.aloadN X2.here hx rfl (hb hby at_68) rfl rfl k_) ?_
    obtain ⟨_, T3, L3, X3, hQ3, st3⟩ := own_callV X2 hx hZ (y := (⟨"com/example/stratacheck/stratacheck/spec/Tie", "from", "()Lcom/example/stratacheck/stratacheck/model/Level;"⟩ : MethodName)) hown (hw _ (List.mem_of_getElem? (i := 12) rfl)) (hw _ (List.mem_of_getElem? (i := 13) rfl)) (hw _ (List.mem_of_getElem? (i := 15) rfl)) (hw _ (List.mem_of_getElem? (i := 14) rfl)) (hw _ (List.mem_of_getElem? (i := 1) rfl)) (hw _ (List.mem_of_getElem? (i := 16) rfl)) (by decide) (argsL := []) (rest := []) E_WRITE_THROUGH (own_rm_from_r l Z a0 hw [] a_WRITE_THROUGH a_WEAK h0 n0 Z0 F_WRITE_THROUGH_from) e2 (W := 0) (by decide) (by decide) (by decide) (by decide) (g := (mkF m 69 #[.val (.int q), .val (.int (0 : Int32)), .val (.ref a_WRITE_THROUGH), .val (.int (1 : Int32)), .val (.int (1 : Int32)), .unset, .unset] [(.ref a_WRITE_THROUGH)])) rfl (by rw [hml]; rfl) (lenOf own_pd1 rfl) rfl (by show 2 * 0 + _ ≤ _; exact Nat.le_of_eq rfl) (hb hby at_69)
    obtain ⟨rfl, Nq3, e3⟩ := hQ3
    have N3 := Fr.app N2 Nq3
    refine st3 _ ?_
    show own_Goes p e below _ T3 (mkF m 72 #[.val (.int q), .val (.int (0 : Int32)), .val (.ref a_WRITE_THROUGH), .val (.int (1 : Int32)), .val (.int (1 : Int32)), .unset, .unset] [(.ref a_WEAK)])
    refine own_by (T' := T3) (g' := (mkF m 74 #[.val (.int q), .val (.int (0 : Int32)), .val (.ref a_WRITE_THROUGH), .val (.int (1 : Int32)), .val (.int (1 : Int32)), .val (.ref a_WEAK), .unset] [])) (fun t_ k_ => XS.astore X3.here hx rfl (hb hby at_72) rfl rfl (l' := #[.val (.int q), .val (.int (0 : Int32)), .val (.ref a_WRITE_THROUGH), .val (.int (1 : Int32)), .val (.int (1 : Int32)), .val (.ref a_WEAK), .unset]) rfl k_) ?_
    refine own_by (T' := T3) (g' := (mkF m 75 #[.val (.int q), .val (.int (0 : Int32)), .val (.ref a_WRITE_THROUGH), .val (.int (1 : Int32)), .val (.int (1 : Int32)), .val (.ref a_WEAK), .unset] [(.ref a_WRITE_THROUGH)])) (fun t_ k_ => XS.aloadN X3.here hx rfl (hb hby at_74) rfl rfl k_) ?_
    obtain ⟨_, T4, L4, X4, hQ4, st4⟩ := own_callV X3 hx hZ (y := (⟨"com/example/stratacheck/stratacheck/spec/Tie", "to", "()Lcom/example/stratacheck/stratacheck/model/Level;"⟩ : MethodName)) hown (hw _ (List.mem_of_getElem? (i := 17) rfl)) (hw _ (List.mem_of_getElem? (i := 18) rfl)) (hw _ (List.mem_of_getElem? (i := 20) rfl)) (hw _ (List.mem_of_getElem? (i := 19) rfl)) (hw _ (List.mem_of_getElem? (i := 1) rfl)) (hw _ (List.mem_of_getElem? (i := 21) rfl)) (by decide) (argsL := []) (rest := []) E_WRITE_THROUGH (own_rm_to_r l Z a0 hw [] a_WRITE_THROUGH a_STRONG h0 n0 Z0 F_WRITE_THROUGH_to) e3 (W := 0) (by decide) (by decide) (by decide) (by decide) (g := (mkF m 75 #[.val (.int q), .val (.int (0 : Int32)), .val (.ref a_WRITE_THROUGH), .val (.int (1 : Int32)), .val (.int (1 : Int32)), .val (.ref a_WEAK), .unset] [(.ref a_WRITE_THROUGH)])) rfl (by rw [hml]; rfl) (lenOf own_pd1 rfl) rfl (by show 2 * 0 + _ ≤ _; exact Nat.le_of_eq rfl) (hb hby at_75)
    obtain ⟨rfl, Nq4, e4⟩ := hQ4
    have N4 := Fr.app N3 Nq4
    refine st4 _ ?_
    show own_Goes p e below _ T4 (mkF m 78 #[.val (.int q), .val (.int (0 : Int32)), .val (.ref a_WRITE_THROUGH), .val (.int (1 : Int32)), .val (.int (1 : Int32)), .val (.ref a_WEAK), .unset] [(.ref a_STRONG)])
    refine own_by (T' := T4) (g' := (mkF m 80 #[.val (.int q), .val (.int (0 : Int32)), .val (.ref a_WRITE_THROUGH), .val (.int (1 : Int32)), .val (.int (1 : Int32)), .val (.ref a_WEAK), .val (.ref a_STRONG)] [])) (fun t_ k_ => XS.astore X4.here hx rfl (hb hby at_78) rfl rfl (l' := #[.val (.int q), .val (.int (0 : Int32)), .val (.ref a_WRITE_THROUGH), .val (.int (1 : Int32)), .val (.int (1 : Int32)), .val (.ref a_WEAK), .val (.ref a_STRONG)]) rfl k_) ?_
    refine own_by (T' := T4) (g' := (mkF m 82 #[.val (.int q), .val (.int (0 : Int32)), .val (.ref a_WRITE_THROUGH), .val (.int (1 : Int32)), .val (.int (1 : Int32)), .val (.ref a_WEAK), .val (.ref a_STRONG)] [(.int (1 : Int32))])) (fun t_ k_ => XS.iload X4.here hx rfl (hb hby at_80) rfl k_) ?_
    refine own_by (T' := T4) (g' := (mkF m 85 #[.val (.int q), .val (.int (0 : Int32)), .val (.ref a_WRITE_THROUGH), .val (.int (1 : Int32)), .val (.int (1 : Int32)), .val (.ref a_WEAK), .val (.ref a_STRONG)] [])) (fun t_ k_ => XS.ifNo X4.here hx rfl (hb hby at_82) rfl ((if0 _ _).trans (feq ((by decide) : ¬ ((1 : Int32) = (0 : Int32)))).1) k_) ?_
    refine own_by (T' := T4) (g' := (mkF m 87 #[.val (.int q), .val (.int (0 : Int32)), .val (.ref a_WRITE_THROUGH), .val (.int (1 : Int32)), .val (.int (1 : Int32)), .val (.ref a_WEAK), .val (.ref a_STRONG)] [(.ref a_WEAK)])) (fun t_ k_ => XS.aload X4.here hx rfl (hb hby at_85) rfl rfl k_) ?_
    refine own_by (T' := T4) (g' := (mkF m 90 #[.val (.int q), .val (.int (0 : Int32)), .val (.ref a_WRITE_THROUGH), .val (.int (1 : Int32)), .val (.int (1 : Int32)), .val (.ref a_WEAK), .val (.ref a_STRONG)] [])) (fun t_ k_ => XS.ifnullNo X4.here hx rfl (hb hby at_87) rfl k_) ?_
    refine own_by (T' := T4) (g' := (mkF m 92 #[.val (.int q), .val (.int (0 : Int32)), .val (.ref a_WRITE_THROUGH), .val (.int (1 : Int32)), .val (.int (1 : Int32)), .val (.ref a_WEAK), .val (.ref a_STRONG)] [(.ref a_STRONG)])) (fun t_ k_ => XS.aload X4.here hx rfl (hb hby at_90) rfl rfl k_) ?_
    refine own_by (T' := T4) (g' := (mkF m 95 #[.val (.int q), .val (.int (0 : Int32)), .val (.ref a_WRITE_THROUGH), .val (.int (1 : Int32)), .val (.int (1 : Int32)), .val (.ref a_WEAK), .val (.ref a_STRONG)] [])) (fun t_ k_ => XS.ifnullNo X4.here hx rfl (hb hby at_92) rfl k_) ?_
    refine own_by (T' := T4) (g' := (mkF m 97 #[.val (.int q), .val (.int (0 : Int32)), .val (.ref a_WRITE_THROUGH), .val (.int (1 : Int32)), .val (.int (1 : Int32)), .val (.ref a_WEAK), .val (.ref a_STRONG)] [(.ref a_WEAK)])) (fun t_ k_ => XS.aload X4.here hx rfl (hb hby at_95) rfl rfl k_) ?_
    refine own_by (T' := T4) (g' := (mkF m 99 #[.val (.int q), .val (.int (0 : Int32)), .val (.ref a_WRITE_THROUGH), .val (.int (1 : Int32)), .val (.int (1 : Int32)), .val (.ref a_WEAK), .val (.ref a_STRONG)] [(.ref a_STRONG), (.ref a_WEAK)])) (fun t_ k_ => XS.aload X4.here hx rfl (hb hby at_97) rfl rfl k_) ?_
    refine own_by (T' := T4) (g' := (mkF m 102 #[.val (.int q), .val (.int (0 : Int32)), .val (.ref a_WRITE_THROUGH), .val (.int (1 : Int32)), .val (.int (1 : Int32)), .val (.ref a_WEAK), .val (.ref a_STRONG)] [])) (fun t_ k_ => Jvm.RoadKit.acmp (g := (mkF m 99 #[.val (.int q), .val (.int (0 : Int32)), .val (.ref a_WRITE_THROUGH), .val (.int (1 : Int32)), .val (.int (1 : Int32)), .val (.ref a_WEAK), .val (.ref a_STRONG)] [(.ref a_STRONG), (.ref a_WEAK)])) X4 hx rfl rfl rfl (pc0 := 99) (pc' := 102) (same := false) rfl (hb hby at_99) rfl (decide_eq_false (fun q_ => ne_WS (Value.ref.inj q_))) (by decide) (by decide) k_) ?_
    refine own_by (T' := T4) (g' := (mkF m 103 #[.val (.int q), .val (.int (0 : Int32)), .val (.ref a_WRITE_THROUGH), .val (.int (1 : Int32)), .val (.int (1 : Int32)), .val (.ref a_WEAK), .val (.ref a_STRONG)] [(.int (1 : Int32))])) (fun t_ k_ => XS.iconst X4.here hx rfl (hb hby at_102) k_) ?_
    refine own_by (T' := T4) (g' := (mkF m 107 #[.val (.int q), .val (.int (0 : Int32)), .val (.ref a_WRITE_THROUGH), .val (.int (1 : Int32)), .val (.int (1 : Int32)), .val (.ref a_WEAK), .val (.ref a_STRONG)] [(.int (1 : Int32))])) (fun t_ k_ => XS.goto X4.here hx rfl (pc0 := 103) (pc' := 107) rfl (hb hby at_103) (by decide) (by decide) k_) ?_
    refine own_retN X4 hx (t := .boolean) Bd.returns hlk (by simp) (hb hby at_107) (by decide) (by decide) (v := (1 : Int32)) rfl ?_
    rw [e4]
    exact ⟨rfl, N4⟩
  · skip
    rw [hk]
    refine own_by (T' := s₁) (g' := (mkF m 5 #[.val (.int q), .val (.int (1 : Int32)), .unset, .unset, .unset, .unset, .unset] [(.int (1 : Int32))])) (fun t_ k_ => XS.iloadN X0.here hx rfl (hb hby at_4) rfl k_) ?_
    refine own_by (T' := s₁) (g' := (mkF m 15 #[.val (.int q), .val (.int (1 : Int32)), .unset, .unset, .unset, .unset, .unset] [])) (fun t_ k_ => XS.ifYes X0.here hx rfl (pc0 := 5) (pc' := 15) rfl (hb hby at_5) rfl ((if0 _ _).trans (feq ((by decide) : ¬ ((1 : Int32) = (0 : Int32)))).2) (by decide) (by decide) k_) ?_
    refine own_by (T' := s₁) (g' := (mkF m 16 #[.val (.int q), .val (.int (1 : Int32)), .unset, .unset, .unset, .unset, .unset] [(.int (1 : Int32))])) (fun t_ k_ => XS.iloadN X0.here hx rfl (hb hby at_15) rfl k_) ?_
    refine own_by (T' := s₁) (g' := (mkF m 17 #[.val (.int q), .val (.int (1 : Int32)), .unset, .unset, .unset, .unset, .unset] [(.int (1 : Int32)), (.int (1 : Int32))])) (fun t_ k_ => XS.iconst X0.here hx rfl (hb hby at_16) k_) ?_
    refine own_by (T' := s₁) (g' := (mkF m 20 #[.val (.int q), .val (.int (1 : Int32)), .unset, .unset, .unset, .unset, .unset] [])) (fun t_ k_ => XS.icmpNo X0.here hx rfl (hb hby at_17) rfl (teq ((by decide) : (1 : Int32) = (1 : Int32))).2 k_) ?_
    obtain ⟨T5, X5, e5, st5⟩ := getS2 X0 hx hZ hown (host := "") (Or.inl (hw _ (List.mem_of_getElem? (i := 29) rfl))) Via.refl e0 S_READ_BACK (g := (mkF m 20 #[.val (.int q), .val (.int (1 : Int32)), .unset, .unset, .unset, .unset, .unset] [])) rfl (hb hby at_20)
    refine own_by (T' := T5) (g' := (mkF m 23 #[.val (.int q), .val (.int (1 : Int32)), .unset, .unset, .unset, .unset, .unset] [(.ref a_READ_BACK)])) st5 ?_
    refine own_by (T' := T5) (g' := (mkF m 24 #[.val (.int q), .val (.int (1 : Int32)), .val (.ref a_READ_BACK), .unset, .unset, .unset, .unset] [])) (fun t_ k_ => XS.astoreN X5.here hx rfl (hb hby at_23) rfl rfl (l' := #[.val (.int q), .val (.int (1 : Int32)), .val (.ref a_READ_BACK), .unset, .unset, .unset, .unset]) rfl k_) ?_
    refine own_by (T' := T5) (g' := (mkF m 43 #[.val (.int q), .val (.int (1 : Int32)), .val (.ref a_READ_BACK), .unset, .unset, .unset, .unset] [])) (fun t_ k_ => XS.goto X5.here hx rfl (pc0 := 24) (pc' := 43) rfl (hb hby at_24) (by decide) (by decide) k_) ?_
    refine own_by (T' := T5) (g' := (mkF m 44 #[.val (.int q), .val (.int (1 : Int32)), .val (.ref a_READ_BACK), .unset, .unset, .unset, .unset] [(.int (1 : Int32))])) (fun t_ k_ => XS.iloadN X5.here hx rfl (hb hby at_43) rfl k_) ?_
    refine own_by (T' := T5) (g' := (mkF m 45 #[.val (.int q), .val (.int (1 : Int32)), .val (.ref a_READ_BACK), .unset, .unset, .unset, .unset] [(.int (2 : Int32)), (.int (1 : Int32))])) (fun t_ k_ => XS.iconst X5.here hx rfl (hb hby at_44) k_) ?_
    refine own_by (T' := T5) (g' := (mkF m 48 #[.val (.int q), .val (.int (1 : Int32)), .val (.ref a_READ_BACK), .unset, .unset, .unset, .unset] [])) (fun t_ k_ => XS.icmpNo X5.here hx rfl (hb hby at_45) rfl (tlt ((by decide) : (1 : Int32) < (2 : Int32))).2.1 k_) ?_
    refine own_by (T' := T5) (g' := (mkF m 49 #[.val (.int q), .val (.int (1 : Int32)), .val (.ref a_READ_BACK), .unset, .unset, .unset, .unset] [(.int (1 : Int32))])) (fun t_ k_ => XS.iconst X5.here hx rfl (hb hby at_48) k_) ?_
    refine own_by (T' := T5) (g' := (mkF m 53 #[.val (.int q), .val (.int (1 : Int32)), .val (.ref a_READ_BACK), .unset, .unset, .unset, .unset] [(.int (1 : Int32))])) (fun t_ k_ => XS.goto X5.here hx rfl (pc0 := 49) (pc' := 53) rfl (hb hby at_49) (by decide) (by decide) k_) ?_
    refine own_by (T' := T5) (g' := (mkF m 54 #[.val (.int q), .val (.int (1 : Int32)), .val (.ref a_READ_BACK), .val (.int (1 : Int32)), .unset, .unset, .unset] [])) (fun t_ k_ => XS.istoreN X5.here hx rfl (hb hby at_53) rfl (l' := #[.val (.int q), .val (.int (1 : Int32)), .val (.ref a_READ_BACK), .val (.int (1 : Int32)), .unset, .unset, .unset]) rfl k_) ?_
    refine own_by (T' := T5) (g' := (mkF m 55 #[.val (.int q), .val (.int (1 : Int32)), .val (.ref a_READ_BACK), .val (.int (1 : Int32)), .unset, .unset, .unset] [(.ref a_READ_BACK)])) (fun t_ k_ => XS.aloadN X5.here hx rfl (hb hby at_54) rfl rfl k_) ?_
    obtain ⟨_, T6, L6, X6, hQ6, st6⟩ := own_callV X5 hx hZ (y := (⟨"com/example/stratacheck/stratacheck/spec/Tie", "ties", "()Z"⟩ : MethodName)) hown (hw _ (List.mem_of_getElem? (i := 3) rfl)) (hw _ (List.mem_of_getElem? (i := 4) rfl)) (hw _ (List.mem_of_getElem? (i := 6) rfl)) (hw _ (List.mem_of_getElem? (i := 5) rfl)) (hw _ (List.mem_of_getElem? (i := 1) rfl)) (hw _ (List.mem_of_getElem? (i := 7) rfl)) (by decide) (argsL := []) (rest := []) E_READ_BACK (own_rm_ties_r l Z a0 hw [] a_READ_BACK a_STRONG h0 n0 Z0 F_READ_BACK_from) e5 (W := 0) (by decide) (by decide) (by decide) (by decide) (g := (mkF m 55 #[.val (.int q), .val (.int (1 : Int32)), .val (.ref a_READ_BACK), .val (.int (1 : Int32)), .unset, .unset, .unset] [(.ref a_READ_BACK)])) rfl (by rw [hml]; rfl) (lenOf own_pd0 rfl) rfl (by show 2 * 0 + _ ≤ _; exact Nat.le_of_eq rfl) (hb hby at_55)
    obtain ⟨rfl, Nq6, e6⟩ := hQ6
    have N6 := Fr.app N0 Nq6
    refine st6 _ ?_
    show own_Goes p e below _ T6 (mkF m 58 #[.val (.int q), .val (.int (1 : Int32)), .val (.ref a_READ_BACK), .val (.int (1 : Int32)), .unset, .unset, .unset] [(.int (1 : Int32))])
    refine own_by (T' := T6) (g' := (mkF m 60 #[.val (.int q), .val (.int (1 : Int32)), .val (.ref a_READ_BACK), .val (.int (1 : Int32)), .val (.int (1 : Int32)), .unset, .unset] [])) (fun t_ k_ => XS.istore X6.here hx rfl (hb hby at_58) rfl (l' := #[.val (.int q), .val (.int (1 : Int32)), .val (.ref a_READ_BACK), .val (.int (1 : Int32)), .val (.int (1 : Int32)), .unset, .unset]) rfl k_) ?_
    refine own_by (T' := T6) (g' := (mkF m 62 #[.val (.int q), .val (.int (1 : Int32)), .val (.ref a_READ_BACK), .val (.int (1 : Int32)), .val (.int (1 : Int32)), .unset, .unset] [(.int (1 : Int32))])) (fun t_ k_ => XS.iload X6.here hx rfl (hb hby at_60) rfl k_) ?_
    refine own_by (T' := T6) (g' := (mkF m 63 #[.val (.int q), .val (.int (1 : Int32)), .val (.ref a_READ_BACK), .val (.int (1 : Int32)), .val (.int (1 : Int32)), .unset, .unset] [(.int (1 : Int32)), (.int (1 : Int32))])) (fun t_ k_ => XS.iloadN X6.here hx rfl (hb hby at_62) rfl k_) ?_
    refine own_by (T' := T6) (g' := (mkF m 68 #[.val (.int q), .val (.int (1 : Int32)), .val (.ref a_READ_BACK), .val (.int (1 : Int32)), .val (.int (1 : Int32)), .unset, .unset] [])) (fun t_ k_ => XS.icmpYes X6.here hx rfl (pc0 := 63) (pc' := 68) rfl (hb hby at_63) rfl (teq ((by decide) : (1 : Int32) = (1 : Int32))).1 (by decide) (by decide) k_) ?_
    refine own_by (T' := T6) (g' := (mkF m 69 #[.val (.int q), .val (.int (1 : Int32)), .val (.ref a_READ_BACK), .val (.int (1 : Int32)), .val (.int (1 : Int32)), .unset, .unset] [(.ref a_READ_BACK)])) (fun t_ k_ => XS.aloadN X6.here hx rfl (hb hby at_68) rfl rfl k_) ?_
    obtain ⟨_, T7, L7, X7, hQ7, st7⟩ := own_callV X6 hx hZ (y := (⟨"com/example/stratacheck/stratacheck/spec/Tie", "from", "()Lcom/example/stratacheck/stratacheck/model/Level;"⟩ : MethodName)) hown (hw _ (List.mem_of_getElem? (i := 12) rfl)) (hw _ (List.mem_of_getElem? (i := 13) rfl)) (hw _ (List.mem_of_getElem? (i := 15) rfl)) (hw _ (List.mem_of_getElem? (i := 14) rfl)) (hw _ (List.mem_of_getElem? (i := 1) rfl)) (hw _ (List.mem_of_getElem? (i := 16) rfl)) (by decide) (argsL := []) (rest := []) E_READ_BACK (own_rm_from_r l Z a0 hw [] a_READ_BACK a_STRONG h0 n0 Z0 F_READ_BACK_from) e6 (W := 0) (by decide) (by decide) (by decide) (by decide) (g := (mkF m 69 #[.val (.int q), .val (.int (1 : Int32)), .val (.ref a_READ_BACK), .val (.int (1 : Int32)), .val (.int (1 : Int32)), .unset, .unset] [(.ref a_READ_BACK)])) rfl (by rw [hml]; rfl) (lenOf own_pd1 rfl) rfl (by show 2 * 0 + _ ≤ _; exact Nat.le_of_eq rfl) (hb hby at_69)
    obtain ⟨rfl, Nq7, e7⟩ := hQ7
    have N7 := Fr.app N6 Nq7
    refine st7 _ ?_
    show own_Goes p e below _ T7 (mkF m 72 #[.val (.int q), .val (.int (1 : Int32)), .val (.ref a_READ_BACK), .val (.int (1 : Int32)), .val (.int (1 : Int32)), .unset, .unset] [(.ref a_STRONG)])
    refine own_by (T' := T7) (g' := (mkF m 74 #[.val (.int q), .val (.int (1 : Int32)), .val (.ref a_READ_BACK), .val (.int (1 : Int32)), .val (.int (1 : Int32)), .val (.ref a_STRONG), .unset] [])) (fun t_ k_ => XS.astore X7.here hx rfl (hb hby at_72) rfl rfl (l' := #[.val (.int q), .val (.int (1 : Int32)), .val (.ref a_READ_BACK), .val (.int (1 : Int32)), .val (.int (1 : Int32)), .val (.ref a_STRONG), .unset]) rfl k_) ?_
    refine own_by (T' := T7) (g' := (mkF m 75 #[.val (.int q), .val (.int (1 : Int32)), .val (.ref a_READ_BACK), .val (.int (1 : Int32)), .val (.int (1 : Int32)), .val (.ref a_STRONG), .unset] [(.ref a_READ_BACK)])) (fun t_ k_ => XS.aloadN X7.here hx rfl (hb hby at_74) rfl rfl k_) ?_
    obtain ⟨_, T8, L8, X8, hQ8, st8⟩ := own_callV X7 hx hZ (y := (⟨"com/example/stratacheck/stratacheck/spec/Tie", "to", "()Lcom/example/stratacheck/stratacheck/model/Level;"⟩ : MethodName)) hown (hw _ (List.mem_of_getElem? (i := 17) rfl)) (hw _ (List.mem_of_getElem? (i := 18) rfl)) (hw _ (List.mem_of_getElem? (i := 20) rfl)) (hw _ (List.mem_of_getElem? (i := 19) rfl)) (hw _ (List.mem_of_getElem? (i := 1) rfl)) (hw _ (List.mem_of_getElem? (i := 21) rfl)) (by decide) (argsL := []) (rest := []) E_READ_BACK (own_rm_to_r l Z a0 hw [] a_READ_BACK a_WEAK h0 n0 Z0 F_READ_BACK_to) e7 (W := 0) (by decide) (by decide) (by decide) (by decide) (g := (mkF m 75 #[.val (.int q), .val (.int (1 : Int32)), .val (.ref a_READ_BACK), .val (.int (1 : Int32)), .val (.int (1 : Int32)), .val (.ref a_STRONG), .unset] [(.ref a_READ_BACK)])) rfl (by rw [hml]; rfl) (lenOf own_pd1 rfl) rfl (by show 2 * 0 + _ ≤ _; exact Nat.le_of_eq rfl) (hb hby at_75)
    obtain ⟨rfl, Nq8, e8⟩ := hQ8
    have N8 := Fr.app N7 Nq8
    refine st8 _ ?_
    show own_Goes p e below _ T8 (mkF m 78 #[.val (.int q), .val (.int (1 : Int32)), .val (.ref a_READ_BACK), .val (.int (1 : Int32)), .val (.int (1 : Int32)), .val (.ref a_STRONG), .unset] [(.ref a_WEAK)])
    refine own_by (T' := T8) (g' := (mkF m 80 #[.val (.int q), .val (.int (1 : Int32)), .val (.ref a_READ_BACK), .val (.int (1 : Int32)), .val (.int (1 : Int32)), .val (.ref a_STRONG), .val (.ref a_WEAK)] [])) (fun t_ k_ => XS.astore X8.here hx rfl (hb hby at_78) rfl rfl (l' := #[.val (.int q), .val (.int (1 : Int32)), .val (.ref a_READ_BACK), .val (.int (1 : Int32)), .val (.int (1 : Int32)), .val (.ref a_STRONG), .val (.ref a_WEAK)]) rfl k_) ?_
    refine own_by (T' := T8) (g' := (mkF m 82 #[.val (.int q), .val (.int (1 : Int32)), .val (.ref a_READ_BACK), .val (.int (1 : Int32)), .val (.int (1 : Int32)), .val (.ref a_STRONG), .val (.ref a_WEAK)] [(.int (1 : Int32))])) (fun t_ k_ => XS.iload X8.here hx rfl (hb hby at_80) rfl k_) ?_
    refine own_by (T' := T8) (g' := (mkF m 85 #[.val (.int q), .val (.int (1 : Int32)), .val (.ref a_READ_BACK), .val (.int (1 : Int32)), .val (.int (1 : Int32)), .val (.ref a_STRONG), .val (.ref a_WEAK)] [])) (fun t_ k_ => XS.ifNo X8.here hx rfl (hb hby at_82) rfl ((if0 _ _).trans (feq ((by decide) : ¬ ((1 : Int32) = (0 : Int32)))).1) k_) ?_
    refine own_by (T' := T8) (g' := (mkF m 87 #[.val (.int q), .val (.int (1 : Int32)), .val (.ref a_READ_BACK), .val (.int (1 : Int32)), .val (.int (1 : Int32)), .val (.ref a_STRONG), .val (.ref a_WEAK)] [(.ref a_STRONG)])) (fun t_ k_ => XS.aload X8.here hx rfl (hb hby at_85) rfl rfl k_) ?_
    refine own_by (T' := T8) (g' := (mkF m 90 #[.val (.int q), .val (.int (1 : Int32)), .val (.ref a_READ_BACK), .val (.int (1 : Int32)), .val (.int (1 : Int32)), .val (.ref a_STRONG), .val (.ref a_WEAK)] [])) (fun t_ k_ => XS.ifnullNo X8.here hx rfl (hb hby at_87) rfl k_) ?_
    refine own_by (T' := T8) (g' := (mkF m 92 #[.val (.int q), .val (.int (1 : Int32)), .val (.ref a_READ_BACK), .val (.int (1 : Int32)), .val (.int (1 : Int32)), .val (.ref a_STRONG), .val (.ref a_WEAK)] [(.ref a_WEAK)])) (fun t_ k_ => XS.aload X8.here hx rfl (hb hby at_90) rfl rfl k_) ?_
    refine own_by (T' := T8) (g' := (mkF m 95 #[.val (.int q), .val (.int (1 : Int32)), .val (.ref a_READ_BACK), .val (.int (1 : Int32)), .val (.int (1 : Int32)), .val (.ref a_STRONG), .val (.ref a_WEAK)] [])) (fun t_ k_ => XS.ifnullNo X8.here hx rfl (hb hby at_92) rfl k_) ?_
    refine own_by (T' := T8) (g' := (mkF m 97 #[.val (.int q), .val (.int (1 : Int32)), .val (.ref a_READ_BACK), .val (.int (1 : Int32)), .val (.int (1 : Int32)), .val (.ref a_STRONG), .val (.ref a_WEAK)] [(.ref a_STRONG)])) (fun t_ k_ => XS.aload X8.here hx rfl (hb hby at_95) rfl rfl k_) ?_
    refine own_by (T' := T8) (g' := (mkF m 99 #[.val (.int q), .val (.int (1 : Int32)), .val (.ref a_READ_BACK), .val (.int (1 : Int32)), .val (.int (1 : Int32)), .val (.ref a_STRONG), .val (.ref a_WEAK)] [(.ref a_WEAK), (.ref a_STRONG)])) (fun t_ k_ => XS.aload X8.here hx rfl (hb hby at_97) rfl rfl k_) ?_
    refine own_by (T' := T8) (g' := (mkF m 102 #[.val (.int q), .val (.int (1 : Int32)), .val (.ref a_READ_BACK), .val (.int (1 : Int32)), .val (.int (1 : Int32)), .val (.ref a_STRONG), .val (.ref a_WEAK)] [])) (fun t_ k_ => Jvm.RoadKit.acmp (g := (mkF m 99 #[.val (.int q), .val (.int (1 : Int32)), .val (.ref a_READ_BACK), .val (.int (1 : Int32)), .val (.int (1 : Int32)), .val (.ref a_STRONG), .val (.ref a_WEAK)] [(.ref a_WEAK), (.ref a_STRONG)])) X8 hx rfl rfl rfl (pc0 := 99) (pc' := 102) (same := false) rfl (hb hby at_99) rfl (decide_eq_false (fun q_ => (Ne.symm ne_WS) (Value.ref.inj q_))) (by decide) (by decide) k_) ?_
    refine own_by (T' := T8) (g' := (mkF m 103 #[.val (.int q), .val (.int (1 : Int32)), .val (.ref a_READ_BACK), .val (.int (1 : Int32)), .val (.int (1 : Int32)), .val (.ref a_STRONG), .val (.ref a_WEAK)] [(.int (1 : Int32))])) (fun t_ k_ => XS.iconst X8.here hx rfl (hb hby at_102) k_) ?_
    refine own_by (T' := T8) (g' := (mkF m 107 #[.val (.int q), .val (.int (1 : Int32)), .val (.ref a_READ_BACK), .val (.int (1 : Int32)), .val (.int (1 : Int32)), .val (.ref a_STRONG), .val (.ref a_WEAK)] [(.int (1 : Int32))])) (fun t_ k_ => XS.goto X8.here hx rfl (pc0 := 103) (pc' := 107) rfl (hb hby at_103) (by decide) (by decide) k_) ?_
    refine own_retN X8 hx (t := .boolean) Bd.returns hlk (by simp) (hb hby at_107) (by decide) (by decide) (v := (1 : Int32)) rfl ?_
    rw [e8]
    exact ⟨rfl, N8⟩
  · skip
    rw [hk]
    refine own_by (T' := s₁) (g' := (mkF m 5 #[.val (.int q), .val (.int (2 : Int32)), .unset, .unset, .unset, .unset, .unset] [(.int (2 : Int32))])) (fun t_ k_ => XS.iloadN X0.here hx rfl (hb hby at_4) rfl k_) ?_
    refine own_by (T' := s₁) (g' := (mkF m 15 #[.val (.int q), .val (.int (2 : Int32)), .unset, .unset, .unset, .unset, .unset] [])) (fun t_ k_ => XS.ifYes X0.here hx rfl (pc0 := 5) (pc' := 15) rfl (hb hby at_5) rfl ((if0 _ _).trans (feq ((by decide) : ¬ ((2 : Int32) = (0 : Int32)))).2) (by decide) (by decide) k_) ?_
    refine own_by (T' := s₁) (g' := (mkF m 16 #[.val (.int q), .val (.int (2 : Int32)), .unset, .unset, .unset, .unset, .unset] [(.int (2 : Int32))])) (fun t_ k_ => XS.iloadN X0.here hx rfl (hb hby at_15) rfl k_) ?_
    refine own_by (T' := s₁) (g' := (mkF m 17 #[.val (.int q), .val (.int (2 : Int32)), .unset, .unset, .unset, .unset, .unset] [(.int (1 : Int32)), (.int (2 : Int32))])) (fun t_ k_ => XS.iconst X0.here hx rfl (hb hby at_16) k_) ?_
    refine own_by (T' := s₁) (g' := (mkF m 27 #[.val (.int q), .val (.int (2 : Int32)), .unset, .unset, .unset, .unset, .unset] [])) (fun t_ k_ => XS.icmpYes X0.here hx rfl (pc0 := 17) (pc' := 27) rfl (hb hby at_17) rfl (feq ((by decide) : ¬ ((2 : Int32) = (1 : Int32)))).2 (by decide) (by decide) k_) ?_
    refine own_by (T' := s₁) (g' := (mkF m 28 #[.val (.int q), .val (.int (2 : Int32)), .unset, .unset, .unset, .unset, .unset] [(.int (2 : Int32))])) (fun t_ k_ => XS.iloadN X0.here hx rfl (hb hby at_27) rfl k_) ?_
    refine own_by (T' := s₁) (g' := (mkF m 29 #[.val (.int q), .val (.int (2 : Int32)), .unset, .unset, .unset, .unset, .unset] [(.int (2 : Int32)), (.int (2 : Int32))])) (fun t_ k_ => XS.iconst X0.here hx rfl (hb hby at_28) k_) ?_
    refine own_by (T' := s₁) (g' := (mkF m 32 #[.val (.int q), .val (.int (2 : Int32)), .unset, .unset, .unset, .unset, .unset] [])) (fun t_ k_ => XS.icmpNo X0.here hx rfl (hb hby at_29) rfl (teq ((by decide) : (2 : Int32) = (2 : Int32))).2 k_) ?_
    obtain ⟨T9, X9, e9, st9⟩ := getS2 X0 hx hZ hown (host := "") (Or.inl (hw _ (List.mem_of_getElem? (i := 27) rfl))) Via.refl e0 S_WRITE_BACK (g := (mkF m 32 #[.val (.int q), .val (.int (2 : Int32)), .unset, .unset, .unset, .unset, .unset] [])) rfl (hb hby at_32)
    refine own_by (T' := T9) (g' := (mkF m 35 #[.val (.int q), .val (.int (2 : Int32)), .unset, .unset, .unset, .unset, .unset] [(.ref a_WRITE_BACK)])) st9 ?_
    refine own_by (T' := T9) (g' := (mkF m 36 #[.val (.int q), .val (.int (2 : Int32)), .val (.ref a_WRITE_BACK), .unset, .unset, .unset, .unset] [])) (fun t_ k_ => XS.astoreN X9.here hx rfl (hb hby at_35) rfl rfl (l' := #[.val (.int q), .val (.int (2 : Int32)), .val (.ref a_WRITE_BACK), .unset, .unset, .unset, .unset]) rfl k_) ?_
    refine own_by (T' := T9) (g' := (mkF m 43 #[.val (.int q), .val (.int (2 : Int32)), .val (.ref a_WRITE_BACK), .unset, .unset, .unset, .unset] [])) (fun t_ k_ => XS.goto X9.here hx rfl (pc0 := 36) (pc' := 43) rfl (hb hby at_36) (by decide) (by decide) k_) ?_
    refine own_by (T' := T9) (g' := (mkF m 44 #[.val (.int q), .val (.int (2 : Int32)), .val (.ref a_WRITE_BACK), .unset, .unset, .unset, .unset] [(.int (2 : Int32))])) (fun t_ k_ => XS.iloadN X9.here hx rfl (hb hby at_43) rfl k_) ?_
    refine own_by (T' := T9) (g' := (mkF m 45 #[.val (.int q), .val (.int (2 : Int32)), .val (.ref a_WRITE_BACK), .unset, .unset, .unset, .unset] [(.int (2 : Int32)), (.int (2 : Int32))])) (fun t_ k_ => XS.iconst X9.here hx rfl (hb hby at_44) k_) ?_
    refine own_by (T' := T9) (g' := (mkF m 52 #[.val (.int q), .val (.int (2 : Int32)), .val (.ref a_WRITE_BACK), .unset, .unset, .unset, .unset] [])) (fun t_ k_ => XS.icmpYes X9.here hx rfl (pc0 := 45) (pc' := 52) rfl (hb hby at_45) rfl (flt ((by decide) : ¬ ((2 : Int32) < (2 : Int32)))).2.1 (by decide) (by decide) k_) ?_
    refine own_by (T' := T9) (g' := (mkF m 53 #[.val (.int q), .val (.int (2 : Int32)), .val (.ref a_WRITE_BACK), .unset, .unset, .unset, .unset] [(.int (0 : Int32))])) (fun t_ k_ => XS.iconst X9.here hx rfl (hb hby at_52) k_) ?_
    refine own_by (T' := T9) (g' := (mkF m 54 #[.val (.int q), .val (.int (2 : Int32)), .val (.ref a_WRITE_BACK), .val (.int (0 : Int32)), .unset, .unset, .unset] [])) (fun t_ k_ => XS.istoreN X9.here hx rfl (hb hby at_53) rfl (l' := #[.val (.int q), .val (.int (2 : Int32)), .val (.ref a_WRITE_BACK), .val (.int (0 : Int32)), .unset, .unset, .unset]) rfl k_) ?_
    refine own_by (T' := T9) (g' := (mkF m 55 #[.val (.int q), .val (.int (2 : Int32)), .val (.ref a_WRITE_BACK), .val (.int (0 : Int32)), .unset, .unset, .unset] [(.ref a_WRITE_BACK)])) (fun t_ k_ => XS.aloadN X9.here hx rfl (hb hby at_54) rfl rfl k_) ?_
    obtain ⟨_, T10, L10, X10, hQ10, st10⟩ := own_callV X9 hx hZ (y := (⟨"com/example/stratacheck/stratacheck/spec/Tie", "ties", "()Z"⟩ : MethodName)) hown (hw _ (List.mem_of_getElem? (i := 3) rfl)) (hw _ (List.mem_of_getElem? (i := 4) rfl)) (hw _ (List.mem_of_getElem? (i := 6) rfl)) (hw _ (List.mem_of_getElem? (i := 5) rfl)) (hw _ (List.mem_of_getElem? (i := 1) rfl)) (hw _ (List.mem_of_getElem? (i := 7) rfl)) (by decide) (argsL := []) (rest := []) E_WRITE_BACK (own_rm_ties_n l Z a0 hw [] a_WRITE_BACK  h0 n0 Z0 F_WRITE_BACK_from) e9 (W := 0) (by decide) (by decide) (by decide) (by decide) (g := (mkF m 55 #[.val (.int q), .val (.int (2 : Int32)), .val (.ref a_WRITE_BACK), .val (.int (0 : Int32)), .unset, .unset, .unset] [(.ref a_WRITE_BACK)])) rfl (by rw [hml]; rfl) (lenOf own_pd0 rfl) rfl (by show 2 * 0 + _ ≤ _; exact Nat.le_of_eq rfl) (hb hby at_55)
    obtain ⟨rfl, Nq10, e10⟩ := hQ10
    have N10 := Fr.app N0 Nq10
    refine st10 _ ?_
    show own_Goes p e below _ T10 (mkF m 58 #[.val (.int q), .val (.int (2 : Int32)), .val (.ref a_WRITE_BACK), .val (.int (0 : Int32)), .unset, .unset, .unset] [(.int (0 : Int32))])
    refine own_by (T' := T10) (g' := (mkF m 60 #[.val (.int q), .val (.int (2 : Int32)), .val (.ref a_WRITE_BACK), .val (.int (0 : Int32)), .val (.int (0 : Int32)), .unset, .unset] [])) (fun t_ k_ => XS.istore X10.here hx rfl (hb hby at_58) rfl (l' := #[.val (.int q), .val (.int (2 : Int32)), .val (.ref a_WRITE_BACK), .val (.int (0 : Int32)), .val (.int (0 : Int32)), .unset, .unset]) rfl k_) ?_
    refine own_by (T' := T10) (g' := (mkF m 62 #[.val (.int q), .val (.int (2 : Int32)), .val (.ref a_WRITE_BACK), .val (.int (0 : Int32)), .val (.int (0 : Int32)), .unset, .unset] [(.int (0 : Int32))])) (fun t_ k_ => XS.iload X10.here hx rfl (hb hby at_60) rfl k_) ?_
    refine own_by (T' := T10) (g' := (mkF m 63 #[.val (.int q), .val (.int (2 : Int32)), .val (.ref a_WRITE_BACK), .val (.int (0 : Int32)), .val (.int (0 : Int32)), .unset, .unset] [(.int (0 : Int32)), (.int (0 : Int32))])) (fun t_ k_ => XS.iloadN X10.here hx rfl (hb hby at_62) rfl k_) ?_
    refine own_by (T' := T10) (g' := (mkF m 68 #[.val (.int q), .val (.int (2 : Int32)), .val (.ref a_WRITE_BACK), .val (.int (0 : Int32)), .val (.int (0 : Int32)), .unset, .unset] [])) (fun t_ k_ => XS.icmpYes X10.here hx rfl (pc0 := 63) (pc' := 68) rfl (hb hby at_63) rfl (teq ((by decide) : (0 : Int32) = (0 : Int32))).1 (by decide) (by decide) k_) ?_
    refine own_by (T' := T10) (g' := (mkF m 69 #[.val (.int q), .val (.int (2 : Int32)), .val (.ref a_WRITE_BACK), .val (.int (0 : Int32)), .val (.int (0 : Int32)), .unset, .unset] [(.ref a_WRITE_BACK)])) (fun t_ k_ => XS.aloadN X10.here hx rfl (hb hby at_68) rfl rfl k_) ?_
    obtain ⟨_, T11, L11, X11, hQ11, st11⟩ := own_callV X10 hx hZ (y := (⟨"com/example/stratacheck/stratacheck/spec/Tie", "from", "()Lcom/example/stratacheck/stratacheck/model/Level;"⟩ : MethodName)) hown (hw _ (List.mem_of_getElem? (i := 12) rfl)) (hw _ (List.mem_of_getElem? (i := 13) rfl)) (hw _ (List.mem_of_getElem? (i := 15) rfl)) (hw _ (List.mem_of_getElem? (i := 14) rfl)) (hw _ (List.mem_of_getElem? (i := 1) rfl)) (hw _ (List.mem_of_getElem? (i := 16) rfl)) (by decide) (argsL := []) (rest := []) E_WRITE_BACK (own_rm_from_n l Z a0 hw [] a_WRITE_BACK  h0 n0 Z0 F_WRITE_BACK_from) e10 (W := 0) (by decide) (by decide) (by decide) (by decide) (g := (mkF m 69 #[.val (.int q), .val (.int (2 : Int32)), .val (.ref a_WRITE_BACK), .val (.int (0 : Int32)), .val (.int (0 : Int32)), .unset, .unset] [(.ref a_WRITE_BACK)])) rfl (by rw [hml]; rfl) (lenOf own_pd1 rfl) rfl (by show 2 * 0 + _ ≤ _; exact Nat.le_of_eq rfl) (hb hby at_69)
    obtain ⟨rfl, Nq11, e11⟩ := hQ11
    have N11 := Fr.app N10 Nq11
    refine st11 _ ?_
    show own_Goes p e below _ T11 (mkF m 72 #[.val (.int q), .val (.int (2 : Int32)), .val (.ref a_WRITE_BACK), .val (.int (0 : Int32)), .val (.int (0 : Int32)), .unset, .unset] [.null])
    refine own_by (T' := T11) (g' := (mkF m 74 #[.val (.int q), .val (.int (2 : Int32)), .val (.ref a_WRITE_BACK), .val (.int (0 : Int32)), .val (.int (0 : Int32)), .val .null, .unset] [])) (fun t_ k_ => XS.astore X11.here hx rfl (hb hby at_72) rfl rfl (l' := #[.val (.int q), .val (.int (2 : Int32)), .val (.ref a_WRITE_BACK), .val (.int (0 : Int32)), .val (.int (0 : Int32)), .val .null, .unset]) rfl k_) ?_
    refine own_by (T' := T11) (g' := (mkF m 75 #[.val (.int q), .val (.int (2 : Int32)), .val (.ref a_WRITE_BACK), .val (.int (0 : Int32)), .val (.int (0 : Int32)), .val .null, .unset] [(.ref a_WRITE_BACK)])) (fun t_ k_ => XS.aloadN X11.here hx rfl (hb hby at_74) rfl rfl k_) ?_
    obtain ⟨_, T12, L12, X12, hQ12, st12⟩ := own_callV X11 hx hZ (y := (⟨"com/example/stratacheck/stratacheck/spec/Tie", "to", "()Lcom/example/stratacheck/stratacheck/model/Level;"⟩ : MethodName)) hown (hw _ (List.mem_of_getElem? (i := 17) rfl)) (hw _ (List.mem_of_getElem? (i := 18) rfl)) (hw _ (List.mem_of_getElem? (i := 20) rfl)) (hw _ (List.mem_of_getElem? (i := 19) rfl)) (hw _ (List.mem_of_getElem? (i := 1) rfl)) (hw _ (List.mem_of_getElem? (i := 21) rfl)) (by decide) (argsL := []) (rest := []) E_WRITE_BACK (own_rm_to_n l Z a0 hw [] a_WRITE_BACK  h0 n0 Z0 F_WRITE_BACK_to) e11 (W := 0) (by decide) (by decide) (by decide) (by decide) (g := (mkF m 75 #[.val (.int q), .val (.int (2 : Int32)), .val (.ref a_WRITE_BACK), .val (.int (0 : Int32)), .val (.int (0 : Int32)), .val .null, .unset] [(.ref a_WRITE_BACK)])) rfl (by rw [hml]; rfl) (lenOf own_pd1 rfl) rfl (by show 2 * 0 + _ ≤ _; exact Nat.le_of_eq rfl) (hb hby at_75)
    obtain ⟨rfl, Nq12, e12⟩ := hQ12
    have N12 := Fr.app N11 Nq12
    refine st12 _ ?_
    show own_Goes p e below _ T12 (mkF m 78 #[.val (.int q), .val (.int (2 : Int32)), .val (.ref a_WRITE_BACK), .val (.int (0 : Int32)), .val (.int (0 : Int32)), .val .null, .unset] [.null])
    refine own_by (T' := T12) (g' := (mkF m 80 #[.val (.int q), .val (.int (2 : Int32)), .val (.ref a_WRITE_BACK), .val (.int (0 : Int32)), .val (.int (0 : Int32)), .val .null, .val .null] [])) (fun t_ k_ => XS.astore X12.here hx rfl (hb hby at_78) rfl rfl (l' := #[.val (.int q), .val (.int (2 : Int32)), .val (.ref a_WRITE_BACK), .val (.int (0 : Int32)), .val (.int (0 : Int32)), .val .null, .val .null]) rfl k_) ?_
    refine own_by (T' := T12) (g' := (mkF m 82 #[.val (.int q), .val (.int (2 : Int32)), .val (.ref a_WRITE_BACK), .val (.int (0 : Int32)), .val (.int (0 : Int32)), .val .null, .val .null] [(.int (0 : Int32))])) (fun t_ k_ => XS.iload X12.here hx rfl (hb hby at_80) rfl k_) ?_
    refine own_by (T' := T12) (g' := (mkF m 108 #[.val (.int q), .val (.int (2 : Int32)), .val (.ref a_WRITE_BACK), .val (.int (0 : Int32)), .val (.int (0 : Int32)), .val .null, .val .null] [])) (fun t_ k_ => XS.ifYes X12.here hx rfl (pc0 := 82) (pc' := 108) rfl (hb hby at_82) rfl ((if0 _ _).trans (teq ((by decide) : (0 : Int32) = (0 : Int32))).1) (by decide) (by decide) k_) ?_
    refine own_by (T' := T12) (g' := (mkF m 110 #[.val (.int q), .val (.int (2 : Int32)), .val (.ref a_WRITE_BACK), .val (.int (0 : Int32)), .val (.int (0 : Int32)), .val .null, .val .null] [.null])) (fun t_ k_ => XS.aload X12.here hx rfl (hb hby at_108) rfl rfl k_) ?_
    refine own_by (T' := T12) (g' := (mkF m 113 #[.val (.int q), .val (.int (2 : Int32)), .val (.ref a_WRITE_BACK), .val (.int (0 : Int32)), .val (.int (0 : Int32)), .val .null, .val .null] [])) (fun t_ k_ => XS.ifnonnullNo X12.here hx rfl (hb hby at_110) rfl k_) ?_
    refine own_by (T' := T12) (g' := (mkF m 115 #[.val (.int q), .val (.int (2 : Int32)), .val (.ref a_WRITE_BACK), .val (.int (0 : Int32)), .val (.int (0 : Int32)), .val .null, .val .null] [.null])) (fun t_ k_ => XS.aload X12.here hx rfl (hb hby at_113) rfl rfl k_) ?_
    refine own_by (T' := T12) (g' := (mkF m 118 #[.val (.int q), .val (.int (2 : Int32)), .val (.ref a_WRITE_BACK), .val (.int (0 : Int32)), .val (.int (0 : Int32)), .val .null, .val .null] [])) (fun t_ k_ => XS.ifnonnullNo X12.here hx rfl (hb hby at_115) rfl k_) ?_
    refine own_by (T' := T12) (g' := (mkF m 119 #[.val (.int q), .val (.int (2 : Int32)), .val (.ref a_WRITE_BACK), .val (.int (0 : Int32)), .val (.int (0 : Int32)), .val .null, .val .null] [(.int (1 : Int32))])) (fun t_ k_ => XS.iconst X12.here hx rfl (hb hby at_118) k_) ?_
    refine own_by (T' := T12) (g' := (mkF m 123 #[.val (.int q), .val (.int (2 : Int32)), .val (.ref a_WRITE_BACK), .val (.int (0 : Int32)), .val (.int (0 : Int32)), .val .null, .val .null] [(.int (1 : Int32))])) (fun t_ k_ => XS.goto X12.here hx rfl (pc0 := 119) (pc' := 123) rfl (hb hby at_119) (by decide) (by decide) k_) ?_
    refine own_retN X12 hx (t := .boolean) Bd.returns hlk (by simp) (hb hby at_123) (by decide) (by decide) (v := (1 : Int32)) rfl ?_
    rw [e12]
    exact ⟨rfl, N12⟩
  · skip
    rw [hk]
    refine own_by (T' := s₁) (g' := (mkF m 5 #[.val (.int q), .val (.int (3 : Int32)), .unset, .unset, .unset, .unset, .unset] [(.int (3 : Int32))])) (fun t_ k_ => XS.iloadN X0.here hx rfl (hb hby at_4) rfl k_) ?_
    refine own_by (T' := s₁) (g' := (mkF m 15 #[.val (.int q), .val (.int (3 : Int32)), .unset, .unset, .unset, .unset, .unset] [])) (fun t_ k_ => XS.ifYes X0.here hx rfl (pc0 := 5) (pc' := 15) rfl (hb hby at_5) rfl ((if0 _ _).trans (feq ((by decide) : ¬ ((3 : Int32) = (0 : Int32)))).2) (by decide) (by decide) k_) ?_
    refine own_by (T' := s₁) (g' := (mkF m 16 #[.val (.int q), .val (.int (3 : Int32)), .unset, .unset, .unset, .unset, .unset] [(.int (3 : Int32))])) (fun t_ k_ => XS.iloadN X0.here hx rfl (hb hby at_15) rfl k_) ?_
    refine own_by (T' := s₁) (g' := (mkF m 17 #[.val (.int q), .val (.int (3 : Int32)), .unset, .unset, .unset, .unset, .unset] [(.int (1 : Int32)), (.int (3 : Int32))])) (fun t_ k_ => XS.iconst X0.here hx rfl (hb hby at_16) k_) ?_
    refine own_by (T' := s₁) (g' := (mkF m 27 #[.val (.int q), .val (.int (3 : Int32)), .unset, .unset, .unset, .unset, .unset] [])) (fun t_ k_ => XS.icmpYes X0.here hx rfl (pc0 := 17) (pc' := 27) rfl (hb hby at_17) rfl (feq ((by decide) : ¬ ((3 : Int32) = (1 : Int32)))).2 (by decide) (by decide) k_) ?_
    refine own_by (T' := s₁) (g' := (mkF m 28 #[.val (.int q), .val (.int (3 : Int32)), .unset, .unset, .unset, .unset, .unset] [(.int (3 : Int32))])) (fun t_ k_ => XS.iloadN X0.here hx rfl (hb hby at_27) rfl k_) ?_
    refine own_by (T' := s₁) (g' := (mkF m 29 #[.val (.int q), .val (.int (3 : Int32)), .unset, .unset, .unset, .unset, .unset] [(.int (2 : Int32)), (.int (3 : Int32))])) (fun t_ k_ => XS.iconst X0.here hx rfl (hb hby at_28) k_) ?_
    refine own_by (T' := s₁) (g' := (mkF m 39 #[.val (.int q), .val (.int (3 : Int32)), .unset, .unset, .unset, .unset, .unset] [])) (fun t_ k_ => XS.icmpYes X0.here hx rfl (pc0 := 29) (pc' := 39) rfl (hb hby at_29) rfl (feq ((by decide) : ¬ ((3 : Int32) = (2 : Int32)))).2 (by decide) (by decide) k_) ?_
    obtain ⟨T13, X13, e13, st13⟩ := getS2 X0 hx hZ hown (host := "") (Or.inl (hw _ (List.mem_of_getElem? (i := 25) rfl))) Via.refl e0 S_READ_THROUGH (g := (mkF m 39 #[.val (.int q), .val (.int (3 : Int32)), .unset, .unset, .unset, .unset, .unset] [])) rfl (hb hby at_39)
    refine own_by (T' := T13) (g' := (mkF m 42 #[.val (.int q), .val (.int (3 : Int32)), .unset, .unset, .unset, .unset, .unset] [(.ref a_READ_THROUGH)])) st13 ?_
    refine own_by (T' := T13) (g' := (mkF m 43 #[.val (.int q), .val (.int (3 : Int32)), .val (.ref a_READ_THROUGH), .unset, .unset, .unset, .unset] [])) (fun t_ k_ => XS.astoreN X13.here hx rfl (hb hby at_42) rfl rfl (l' := #[.val (.int q), .val (.int (3 : Int32)), .val (.ref a_READ_THROUGH), .unset, .unset, .unset, .unset]) rfl k_) ?_
    refine own_by (T' := T13) (g' := (mkF m 44 #[.val (.int q), .val (.int (3 : Int32)), .val (.ref a_READ_THROUGH), .unset, .unset, .unset, .unset] [(.int (3 : Int32))])) (fun t_ k_ => XS.iloadN X13.here hx rfl (hb hby at_43) rfl k_) ?_
    refine own_by (T' := T13) (g' := (mkF m 45 #[.val (.int q), .val (.int (3 : Int32)), .val (.ref a_READ_THROUGH), .unset, .unset, .unset, .unset] [(.int (2 : Int32)), (.int (3 : Int32))])) (fun t_ k_ => XS.iconst X13.here hx rfl (hb hby at_44) k_) ?_
    refine own_by (T' := T13) (g' := (mkF m 52 #[.val (.int q), .val (.int (3 : Int32)), .val (.ref a_READ_THROUGH), .unset, .unset, .unset, .unset] [])) (fun t_ k_ => XS.icmpYes X13.here hx rfl (pc0 := 45) (pc' := 52) rfl (hb hby at_45) rfl (flt ((by decide) : ¬ ((3 : Int32) < (2 : Int32)))).2.1 (by decide) (by decide) k_) ?_
    refine own_by (T' := T13) (g' := (mkF m 53 #[.val (.int q), .val (.int (3 : Int32)), .val (.ref a_READ_THROUGH), .unset, .unset, .unset, .unset] [(.int (0 : Int32))])) (fun t_ k_ => XS.iconst X13.here hx rfl (hb hby at_52) k_) ?_
    refine own_by (T' := T13) (g' := (mkF m 54 #[.val (.int q), .val (.int (3 : Int32)), .val (.ref a_READ_THROUGH), .val (.int (0 : Int32)), .unset, .unset, .unset] [])) (fun t_ k_ => XS.istoreN X13.here hx rfl (hb hby at_53) rfl (l' := #[.val (.int q), .val (.int (3 : Int32)), .val (.ref a_READ_THROUGH), .val (.int (0 : Int32)), .unset, .unset, .unset]) rfl k_) ?_
    refine own_by (T' := T13) (g' := (mkF m 55 #[.val (.int q), .val (.int (3 : Int32)), .val (.ref a_READ_THROUGH), .val (.int (0 : Int32)), .unset, .unset, .unset] [(.ref a_READ_THROUGH)])) (fun t_ k_ => XS.aloadN X13.here hx rfl (hb hby at_54) rfl rfl k_) ?_
    obtain ⟨_, T14, L14, X14, hQ14, st14⟩ := own_callV X13 hx hZ (y := (⟨"com/example/stratacheck/stratacheck/spec/Tie", "ties", "()Z"⟩ : MethodName)) hown (hw _ (List.mem_of_getElem? (i := 3) rfl)) (hw _ (List.mem_of_getElem? (i := 4) rfl)) (hw _ (List.mem_of_getElem? (i := 6) rfl)) (hw _ (List.mem_of_getElem? (i := 5) rfl)) (hw _ (List.mem_of_getElem? (i := 1) rfl)) (hw _ (List.mem_of_getElem? (i := 7) rfl)) (by decide) (argsL := []) (rest := []) E_READ_THROUGH (own_rm_ties_n l Z a0 hw [] a_READ_THROUGH  h0 n0 Z0 F_READ_THROUGH_from) e13 (W := 0) (by decide) (by decide) (by decide) (by decide) (g := (mkF m 55 #[.val (.int q), .val (.int (3 : Int32)), .val (.ref a_READ_THROUGH), .val (.int (0 : Int32)), .unset, .unset, .unset] [(.ref a_READ_THROUGH)])) rfl (by rw [hml]; rfl) (lenOf own_pd0 rfl) rfl (by show 2 * 0 + _ ≤ _; exact Nat.le_of_eq rfl) (hb hby at_55)
    obtain ⟨rfl, Nq14, e14⟩ := hQ14
    have N14 := Fr.app N0 Nq14
    refine st14 _ ?_
    show own_Goes p e below _ T14 (mkF m 58 #[.val (.int q), .val (.int (3 : Int32)), .val (.ref a_READ_THROUGH), .val (.int (0 : Int32)), .unset, .unset, .unset] [(.int (0 : Int32))])
    refine own_by (T' := T14) (g' := (mkF m 60 #[.val (.int q), .val (.int (3 : Int32)), .val (.ref a_READ_THROUGH), .val (.int (0 : Int32)), .val (.int (0 : Int32)), .unset, .unset] [])) (fun t_ k_ => XS.istore X14.here hx rfl (hb hby at_58) rfl (l' := #[.val (.int q), .val (.int (3 : Int32)), .val (.ref a_READ_THROUGH), .val (.int (0 : Int32)), .val (.int (0 : Int32)), .unset, .unset]) rfl k_) ?_
    refine own_by (T' := T14) (g' := (mkF m 62 #[.val (.int q), .val (.int (3 : Int32)), .val (.ref a_READ_THROUGH), .val (.int (0 : Int32)), .val (.int (0 : Int32)), .unset, .unset] [(.int (0 : Int32))])) (fun t_ k_ => XS.iload X14.here hx rfl (hb hby at_60) rfl k_) ?_
    refine own_by (T' := T14) (g' := (mkF m 63 #[.val (.int q), .val (.int (3 : Int32)), .val (.ref a_READ_THROUGH), .val (.int (0 : Int32)), .val (.int (0 : Int32)), .unset, .unset] [(.int (0 : Int32)), (.int (0 : Int32))])) (fun t_ k_ => XS.iloadN X14.here hx rfl (hb hby at_62) rfl k_) ?_
    refine own_by (T' := T14) (g' := (mkF m 68 #[.val (.int q), .val (.int (3 : Int32)), .val (.ref a_READ_THROUGH), .val (.int (0 : Int32)), .val (.int (0 : Int32)), .unset, .unset] [])) (fun t_ k_ => XS.icmpYes X14.here hx rfl (pc0 := 63) (pc' := 68) rfl (hb hby at_63) rfl (teq ((by decide) : (0 : Int32) = (0 : Int32))).1 (by decide) (by decide) k_) ?_
    refine own_by (T' := T14) (g' := (mkF m 69 #[.val (.int q), .val (.int (3 : Int32)), .val (.ref a_READ_THROUGH), .val (.int (0 : Int32)), .val (.int (0 : Int32)), .unset, .unset] [(.ref a_READ_THROUGH)])) (fun t_ k_ => XS.aloadN X14.here hx rfl (hb hby at_68) rfl rfl k_) ?_
    obtain ⟨_, T15, L15, X15, hQ15, st15⟩ := own_callV X14 hx hZ (y := (⟨"com/example/stratacheck/stratacheck/spec/Tie", "from", "()Lcom/example/stratacheck/stratacheck/model/Level;"⟩ : MethodName)) hown (hw _ (List.mem_of_getElem? (i := 12) rfl)) (hw _ (List.mem_of_getElem? (i := 13) rfl)) (hw _ (List.mem_of_getElem? (i := 15) rfl)) (hw _ (List.mem_of_getElem? (i := 14) rfl)) (hw _ (List.mem_of_getElem? (i := 1) rfl)) (hw _ (List.mem_of_getElem? (i := 16) rfl)) (by decide) (argsL := []) (rest := []) E_READ_THROUGH (own_rm_from_n l Z a0 hw [] a_READ_THROUGH  h0 n0 Z0 F_READ_THROUGH_from) e14 (W := 0) (by decide) (by decide) (by decide) (by decide) (g := (mkF m 69 #[.val (.int q), .val (.int (3 : Int32)), .val (.ref a_READ_THROUGH), .val (.int (0 : Int32)), .val (.int (0 : Int32)), .unset, .unset] [(.ref a_READ_THROUGH)])) rfl (by rw [hml]; rfl) (lenOf own_pd1 rfl) rfl (by show 2 * 0 + _ ≤ _; exact Nat.le_of_eq rfl) (hb hby at_69)
    obtain ⟨rfl, Nq15, e15⟩ := hQ15
    have N15 := Fr.app N14 Nq15
    refine st15 _ ?_
    show own_Goes p e below _ T15 (mkF m 72 #[.val (.int q), .val (.int (3 : Int32)), .val (.ref a_READ_THROUGH), .val (.int (0 : Int32)), .val (.int (0 : Int32)), .unset, .unset] [.null])
    refine own_by (T' := T15) (g' := (mkF m 74 #[.val (.int q), .val (.int (3 : Int32)), .val (.ref a_READ_THROUGH), .val (.int (0 : Int32)), .val (.int (0 : Int32)), .val .null, .unset] [])) (fun t_ k_ => XS.astore X15.here hx rfl (hb hby at_72) rfl rfl (l' := #[.val (.int q), .val (.int (3 : Int32)), .val (.ref a_READ_THROUGH), .val (.int (0 : Int32)), .val (.int (0 : Int32)), .val .null, .unset]) rfl k_) ?_
    refine own_by (T' := T15) (g' := (mkF m 75 #[.val (.int q), .val (.int (3 : Int32)), .val (.ref a_READ_THROUGH), .val (.int (0 : Int32)), .val (.int (0 : Int32)), .val .null, .unset] [(.ref a_READ_THROUGH)])) (fun t_ k_ => XS.aloadN X15.here hx rfl (hb hby at_74) rfl rfl k_) ?_
    obtain ⟨_, T16, L16, X16, hQ16, st16⟩ := own_callV X15 hx hZ (y := (⟨"com/example/stratacheck/stratacheck/spec/Tie", "to", "()Lcom/example/stratacheck/stratacheck/model/Level;"⟩ : MethodName)) hown (hw _ (List.mem_of_getElem? (i := 17) rfl)) (hw _ (List.mem_of_getElem? (i := 18) rfl)) (hw _ (List.mem_of_getElem? (i := 20) rfl)) (hw _ (List.mem_of_getElem? (i := 19) rfl)) (hw _ (List.mem_of_getElem? (i := 1) rfl)) (hw _ (List.mem_of_getElem? (i := 21) rfl)) (by decide) (argsL := []) (rest := []) E_READ_THROUGH (own_rm_to_n l Z a0 hw [] a_READ_THROUGH  h0 n0 Z0 F_READ_THROUGH_to) e15 (W := 0) (by decide) (by decide) (by decide) (by decide) (g := (mkF m 75 #[.val (.int q), .val (.int (3 : Int32)), .val (.ref a_READ_THROUGH), .val (.int (0 : Int32)), .val (.int (0 : Int32)), .val .null, .unset] [(.ref a_READ_THROUGH)])) rfl (by rw [hml]; rfl) (lenOf own_pd1 rfl) rfl (by show 2 * 0 + _ ≤ _; exact Nat.le_of_eq rfl) (hb hby at_75)
    obtain ⟨rfl, Nq16, e16⟩ := hQ16
    have N16 := Fr.app N15 Nq16
    refine st16 _ ?_
    show own_Goes p e below _ T16 (mkF m 78 #[.val (.int q), .val (.int (3 : Int32)), .val (.ref a_READ_THROUGH), .val (.int (0 : Int32)), .val (.int (0 : Int32)), .val .null, .unset] [.null])
    refine own_by (T' := T16) (g' := (mkF m 80 #[.val (.int q), .val (.int (3 : Int32)), .val (.ref a_READ_THROUGH), .val (.int (0 : Int32)), .val (.int (0 : Int32)), .val .null, .val .null] [])) (fun t_ k_ => XS.astore X16.here hx rfl (hb hby at_78) rfl rfl (l' := #[.val (.int q), .val (.int (3 : Int32)), .val (.ref a_READ_THROUGH), .val (.int (0 : Int32)), .val (.int (0 : Int32)), .val .null, .val .null]) rfl k_) ?_
    refine own_by (T' := T16) (g' := (mkF m 82 #[.val (.int q), .val (.int (3 : Int32)), .val (.ref a_READ_THROUGH), .val (.int (0 : Int32)), .val (.int (0 : Int32)), .val .null, .val .null] [(.int (0 : Int32))])) (fun t_ k_ => XS.iload X16.here hx rfl (hb hby at_80) rfl k_) ?_
    refine own_by (T' := T16) (g' := (mkF m 108 #[.val (.int q), .val (.int (3 : Int32)), .val (.ref a_READ_THROUGH), .val (.int (0 : Int32)), .val (.int (0 : Int32)), .val .null, .val .null] [])) (fun t_ k_ => XS.ifYes X16.here hx rfl (pc0 := 82) (pc' := 108) rfl (hb hby at_82) rfl ((if0 _ _).trans (teq ((by decide) : (0 : Int32) = (0 : Int32))).1) (by decide) (by decide) k_) ?_
    refine own_by (T' := T16) (g' := (mkF m 110 #[.val (.int q), .val (.int (3 : Int32)), .val (.ref a_READ_THROUGH), .val (.int (0 : Int32)), .val (.int (0 : Int32)), .val .null, .val .null] [.null])) (fun t_ k_ => XS.aload X16.here hx rfl (hb hby at_108) rfl rfl k_) ?_
    refine own_by (T' := T16) (g' := (mkF m 113 #[.val (.int q), .val (.int (3 : Int32)), .val (.ref a_READ_THROUGH), .val (.int (0 : Int32)), .val (.int (0 : Int32)), .val .null, .val .null] [])) (fun t_ k_ => XS.ifnonnullNo X16.here hx rfl (hb hby at_110) rfl k_) ?_
    refine own_by (T' := T16) (g' := (mkF m 115 #[.val (.int q), .val (.int (3 : Int32)), .val (.ref a_READ_THROUGH), .val (.int (0 : Int32)), .val (.int (0 : Int32)), .val .null, .val .null] [.null])) (fun t_ k_ => XS.aload X16.here hx rfl (hb hby at_113) rfl rfl k_) ?_
    refine own_by (T' := T16) (g' := (mkF m 118 #[.val (.int q), .val (.int (3 : Int32)), .val (.ref a_READ_THROUGH), .val (.int (0 : Int32)), .val (.int (0 : Int32)), .val .null, .val .null] [])) (fun t_ k_ => XS.ifnonnullNo X16.here hx rfl (hb hby at_115) rfl k_) ?_
    refine own_by (T' := T16) (g' := (mkF m 119 #[.val (.int q), .val (.int (3 : Int32)), .val (.ref a_READ_THROUGH), .val (.int (0 : Int32)), .val (.int (0 : Int32)), .val .null, .val .null] [(.int (1 : Int32))])) (fun t_ k_ => XS.iconst X16.here hx rfl (hb hby at_118) k_) ?_
    refine own_by (T' := T16) (g' := (mkF m 123 #[.val (.int q), .val (.int (3 : Int32)), .val (.ref a_READ_THROUGH), .val (.int (0 : Int32)), .val (.int (0 : Int32)), .val .null, .val .null] [(.int (1 : Int32))])) (fun t_ k_ => XS.goto X16.here hx rfl (pc0 := 119) (pc' := 123) rfl (hb hby at_119) (by decide) (by decide) k_) ?_
    refine own_retN X16 hx (t := .boolean) Bd.returns hlk (by simp) (hb hby at_123) (by decide) (by decide) (v := (1 : Int32)) rfl ?_
    rw [e16]
    exact ⟨rfl, N16⟩
set_option maxRecDepth 65536 in
set_option maxHeartbeats 40000000 in
theorem own_comes {Post : Tables → Env → Array Value → State → Outcome → State → Prop} (hpost : ∀ tb e args s v u, (limb_1_1.after args s (.returned v) u = true ∧ limb_1_2.after args s (.returned v) u = true ∧ True) → FrameEnd s (.returned v) u (Jvm.fieldLocs frame_1_writes args s ++ Jvm.arrayLocs frame_1_arrays args s ++ Jvm.staticLocs frame_1_statics s) 0 0 → Post tb e args s (.returned v) u) :
    ArmFor flags0 classFile x code maxLocals ret World_1 tables_1 room_1 Calls_1 rest_1 Pre_1 Post := by
  intro l hfl _ _ p e ha hc hk s m args below hf hA hF happ hP
  obtain ⟨hcalls, hrest, hpre⟩ := hP
  obtain ⟨-, -, -, hnamed, -, -, -, hat⟩ := (Spec.applies_iff hf).mp happ
  obtain ⟨hg, hn⟩ := and_e (Cond.before_iff.mp (show (Jvm.Cond.and given_1 narrow_1).before args s = true from hpre))
  obtain ⟨g0, gr0⟩ := and_e hg
  obtain ⟨w0, rfl⟩ : ∃ w0 : Value, args = #[w0] := by
    have hs : args.size = 1 := by simpa [Cond.value, given_1] using g0
    obtain ⟨L⟩ := args
    match L, hs with
    | [w0], _ => exact ⟨w0, rfl⟩
  have hw := fun d (hd : d ∈ tables_1) => atoms_spec (ws := Jvm.Cond.code x code maxLocals ret :: tables_1) hat d (List.mem_cons_of_mem _ hd)
  have hfit : Fit s := fun {y c} hc i hi => by
    obtain ⟨ha, rfl⟩ := Array.getElem?_eq_some_iff.mp hc
    have q := List.all_eq_true.mp ((Array.all_eq_true_iff_forall_mem.mp hF) _ (Array.getElem_mem ha)) i (List.mem_range.mpr hi)
    simpa [Array.getElem?_eq_getElem hi] using q
  obtain ⟨i0, ei0⟩ := is_v gr0
  obtain rfl : w0 = (.int i0) := Option.some.inj ei0
  obtain ⟨nc0, nr0⟩ := and_e hn
  obtain ⟨nc1, nr1⟩ := and_e nr0
  obtain ⟨nc2, nr2⟩ := and_e nr1
  obtain ⟨nc3, nr3⟩ := and_e nr2
  obtain ⟨nc4, nr4⟩ := and_e nr3
  obtain ⟨nc5, nr5⟩ := and_e nr4
  obtain ⟨nc6, nr6⟩ := and_e nr5
  obtain ⟨nc7, nr7⟩ := and_e nr6
  obtain ⟨nc8, nr8⟩ := and_e nr7
  obtain ⟨nc9, nr9⟩ := and_e nr8
  obtain ⟨nc10, nr10⟩ := and_e nr9
  obtain ⟨nc11, nr11⟩ := and_e nr10
  obtain ⟨nc12, nr12⟩ := and_e nr11
  obtain ⟨nc13, nr13⟩ := and_e nr12
  obtain ⟨nc14, nr14⟩ := and_e nr13
  have nc15 := nr14
  obtain ⟨a_WRITE_THROUGH, ev_WRITE_THROUGH⟩ := exa_v nc0
  have E_WRITE_THROUGH := Exa.start ev_WRITE_THROUGH nc0
  have S_WRITE_THROUGH := Sta.start ev_WRITE_THROUGH (Or.inr ⟨(hw _ (List.mem_of_getElem? (i := 1) rfl)), (hw _ (List.mem_of_getElem? (i := 2) rfl))⟩)
  obtain ⟨a_WEAK, ev_WEAK⟩ := exa_v nc1
  have E_WEAK := Exa.start ev_WEAK nc1
  have S_WEAK := Sta.start ev_WEAK (Or.inr ⟨(hw _ (List.mem_of_getElem? (i := 10) rfl)), (hw _ (List.mem_of_getElem? (i := 11) rfl))⟩)
  obtain ⟨a_STRONG, ev_STRONG⟩ := exa_v nc3
  have E_STRONG := Exa.start ev_STRONG nc3
  have S_STRONG := Sta.start ev_STRONG (Or.inr ⟨(hw _ (List.mem_of_getElem? (i := 10) rfl)), (hw _ (List.mem_of_getElem? (i := 24) rfl))⟩)
  obtain ⟨a_READ_THROUGH, ev_READ_THROUGH⟩ := exa_v nc7
  have E_READ_THROUGH := Exa.start ev_READ_THROUGH nc7
  have S_READ_THROUGH := Sta.start ev_READ_THROUGH (Or.inr ⟨(hw _ (List.mem_of_getElem? (i := 1) rfl)), (hw _ (List.mem_of_getElem? (i := 26) rfl))⟩)
  obtain ⟨a_WRITE_BACK, ev_WRITE_BACK⟩ := exa_v nc10
  have E_WRITE_BACK := Exa.start ev_WRITE_BACK nc10
  have S_WRITE_BACK := Sta.start ev_WRITE_BACK (Or.inr ⟨(hw _ (List.mem_of_getElem? (i := 1) rfl)), (hw _ (List.mem_of_getElem? (i := 28) rfl))⟩)
  obtain ⟨a_READ_BACK, ev_READ_BACK⟩ := exa_v nc13
  have E_READ_BACK := Exa.start ev_READ_BACK nc13
  have S_READ_BACK := Sta.start ev_READ_BACK (Or.inr ⟨(hw _ (List.mem_of_getElem? (i := 1) rfl)), (hw _ (List.mem_of_getElem? (i := 30) rfl))⟩)
  have F_WRITE_THROUGH_from := own_fR ev_WRITE_THROUGH ev_WEAK nc2
  have F_WRITE_THROUGH_to := own_fR ev_WRITE_THROUGH ev_STRONG nc4
  have F_WEAK_ordinal := own_fI ev_WEAK nc5
  have F_STRONG_ordinal := own_fI ev_STRONG nc6
  have F_READ_THROUGH_from := own_fN ev_READ_THROUGH nc8
  have F_READ_THROUGH_to := own_fN ev_READ_THROUGH nc9
  have F_WRITE_BACK_from := own_fN ev_WRITE_BACK nc11
  have F_WRITE_BACK_to := own_fN ev_WRITE_BACK nc12
  have F_READ_BACK_from := own_fR ev_READ_BACK ev_STRONG nc14
  have F_READ_BACK_to := own_fR ev_READ_BACK ev_WEAK nc15
  obtain ⟨n, o, h1, h2, h3, _, L, rfl, ⟨rfl, N⟩, hq⟩ := own_rm_law l s _ hw tables_1 i0 a_WRITE_THROUGH a_READ_BACK a_WRITE_BACK a_READ_THROUGH a_WEAK a_STRONG s.heap s.heap.size (Nat.le_refl _) S_WRITE_THROUGH S_READ_BACK S_WRITE_BACK S_READ_THROUGH E_WRITE_THROUGH E_READ_BACK E_WRITE_BACK E_READ_THROUGH F_WRITE_THROUGH_from F_WRITE_THROUGH_to F_READ_BACK_from F_READ_BACK_to F_WRITE_BACK_from F_WRITE_BACK_to F_READ_THROUGH_from F_READ_THROUGH_to (Fld.ne F_WEAK_ordinal F_STRONG_ordinal (by first | decide | simp)) p e ha hc hk s m _ below hf ((Spec.applies_iff_loose hf).mp happ).1 ⟨rfl, State.Warmed39.refl s, rfl⟩ trivial
  refine ⟨n, _, h1, h2, h3, hpost _ _ _ _ _ _ ⟨Cond.after_iff.mpr rfl, Cond.after_iff.mpr (eq_i res_at (Term.int_eval (1)) rfl), trivial⟩ ⟨hq.1, hq.2.1, (hq.2.2.sift fun y hy => Or.inr (N y hy)).mono (by decide) (by decide)⟩⟩
theorem main_1_1 : Claimed_1_1 := own_comes fun _ _ _ _ _ _ h hF => ⟨h.1, hF⟩
theorem main_1_2 : Claimed_1_2 := own_comes fun _ _ _ _ _ _ h hF => ⟨h.2.1, hF⟩
end Jvm.Pilot.@@N@@
namespace Jvm.Pilot.@@N@@
open Jvm Jvm.ClassFile Sem Op Lib Jvm.Free Jvm.Stand Jvm.Pilot.@@N@@.Jvm.D
/-! MADE BY PROGRAM (witnessworld.py) out of the Statement's table words and the real class files: 13 classes; the members and pool entries that the words name. The judged class is class 1, her method 1. -/
namespace start1
open Jvm.ClassFile
def u (s : String) : CpInfo := .utf8 (stringToUtf16 s)
/-- a pool by its gaps: so many unusable entries, then the entry; so many at the end -/
def gap : Nat → List CpInfo → List CpInfo
  | 0, r => r
  | n + 1, r => .unusable :: gap n r
def poolList (es : List (Nat × CpInfo)) (last : Nat) : List CpInfo := es.foldr (fun e r => gap e.1 (e.2 :: r)) (gap last [])
def pool (es : List (Nat × CpInfo)) (last : Nat) : Array CpInfo := ⟨poolList es last⟩
def fileOf (pool : Array CpInfo) (this : Nat) (attrs : Array Attribute := #[]) (ms : Array MethodInfo := #[]) (fl : Nat := 33) (sup : Nat := 0) (ifs : Array Nat := #[]) (fds : Array FieldInfo := #[]) : ClassFile where
  minorVersion := 0
  majorVersion := 65
  constantPool := pool
  accessFlags := fl
  thisClass := this
  superClass := sup
  interfaces := ifs
  fields := fds
  methods := ms
  attributes := attrs
def plain (name : String) (sup : Option ClassId) : Class where
  name := name
  kind := .ordinary
  loader := none
  accessFlags := 33
  super := sup
  interfaces := #[]
  cf := none
  fields := #[]
  methods := #[]
  instanceTypes := #[]
  staticTypes := #[]
  resolved := #[]
  callSites := []
  init := .initialized
  statics := none
  mirror := none

def pool0 : Array CpInfo := pool [(5, u "<init>"), (0, u "()V"), (1, .class_ 10), (1, u "java/lang/Object")] 113

def k0m0 : Method := { name := "<init>", desc := "()V", sig := { parameters := [], returnType := none }, accessFlags := 1, code := none }
/-- java/lang/Object -/
def k0 : Class := { plain "java/lang/Object" none with
  accessFlags := 33
  interfaces := #[]
  cf := some (fileOf pool0 8 #[] #[{ accessFlags := 1, nameIndex := 5, descriptorIndex := 6, attributes := #[] }] 33 0 #[] #[])
  fields := #[]
  methods := #[k0m0]
  instanceTypes := #[]
  staticTypes := #[]
  resolved := Array.replicate 124 none
  statics := none }

def pool1 : Array CpInfo := pool [(2, .class_ 4), (1, u "java/lang/Object"), (0, u "<init>"), (0, u "()V"), (0, .fieldref 8 9), (0, .class_ 10), (0, .nameAndType 11 12), (0, u "com/example/stratacheck/stratacheck/spec/Tie"), (0, u "WRITE_THROUGH"), (0, u "Lcom/example/stratacheck/stratacheck/spec/Tie;"), (0, .fieldref 8 14), (0, .nameAndType 15 12), (0, u "READ_BACK"), (0, .fieldref 8 17), (0, .nameAndType 18 12), (0, u "WRITE_BACK"), (0, .fieldref 8 20), (0, .nameAndType 21 12), (0, u "READ_THROUGH"), (0, .methodref 8 23), (0, .nameAndType 24 25), (0, u "ties"), (0, u "()Z"), (0, .methodref 8 27), (0, .nameAndType 28 29), (0, u "from"), (0, u "()Lcom/example/stratacheck/stratacheck/model/Level;"), (0, .methodref 8 31), (0, .nameAndType 32 29), (0, u "to"), (0, .class_ 34), (0, u "com/example/stratacheck/stratacheck/spec/TieTiesPinLaw"), (2, u "law"), (0, u "(I)Z")] 5

def k1m0 : Method := { name := "<init>", desc := "()V", sig := { parameters := [], returnType := none }, accessFlags := 2, code := none }
def k1c1 : Code := { maxStack := 2, maxLocals := 7, code := code, exceptionTable := #[], attributes := #[] }
def k1m1 : Method := { name := "law", desc := "(I)Z", sig := { parameters := [.int], returnType := some .boolean }, accessFlags := 9, code := some k1c1 }
/-- com/example/stratacheck/stratacheck/spec/TieTiesPinLaw -/
def k1 : Class := { plain "com/example/stratacheck/stratacheck/spec/TieTiesPinLaw" (some 0) with
  accessFlags := 49
  interfaces := #[]
  cf := some (fileOf pool1 33 #[] #[{ accessFlags := 2, nameIndex := 5, descriptorIndex := 6, attributes := #[] }, { accessFlags := 9, nameIndex := 37, descriptorIndex := 38, attributes := #[] }] 49 2 #[] #[])
  fields := #[]
  methods := #[k1m0, k1m1]
  instanceTypes := #[]
  staticTypes := #[]
  resolved := Array.replicate 44 none
  statics := none }

def pool2 : Array CpInfo := pool [(1, .class_ 2), (0, u "java/lang/constant/Constable"), (0, .class_ 4), (0, u "java/lang/Object")] 6

/-- java/lang/constant/Constable -/
def k2 : Class := { plain "java/lang/constant/Constable" (some 0) with
  accessFlags := 1537
  interfaces := #[]
  cf := some (fileOf pool2 1 #[] #[] 1537 3 #[] #[])
  fields := #[]
  methods := #[]
  instanceTypes := #[]
  staticTypes := #[]
  resolved := Array.replicate 11 none
  statics := none }

def pool3 : Array CpInfo := pool [(1, .class_ 2), (0, u "java/lang/Comparable"), (0, .class_ 4), (0, u "java/lang/Object")] 7

/-- java/lang/Comparable -/
def k3 : Class := { plain "java/lang/Comparable" (some 0) with
  accessFlags := 1537
  interfaces := #[]
  cf := some (fileOf pool3 1 #[] #[] 1537 3 #[] #[])
  fields := #[]
  methods := #[]
  instanceTypes := #[]
  staticTypes := #[]
  resolved := Array.replicate 12 none
  statics := none }

def pool4 : Array CpInfo := pool [(1, .class_ 2), (0, u "java/io/Serializable"), (0, .class_ 4), (0, u "java/lang/Object")] 2

/-- java/io/Serializable -/
def k4 : Class := { plain "java/io/Serializable" (some 0) with
  accessFlags := 1537
  interfaces := #[]
  cf := some (fileOf pool4 1 #[] #[] 1537 3 #[] #[])
  fields := #[]
  methods := #[]
  instanceTypes := #[]
  staticTypes := #[]
  resolved := Array.replicate 7 none
  statics := none }

def pool5 : Array CpInfo := pool [(2, .class_ 4), (1, u "java/lang/Enum"), (0, u "name"), (0, u "Ljava/lang/String;"), (2, u "ordinal"), (0, u "I"), (1, .class_ 14), (1, u "java/lang/Object"), (4, u "hash"), (86, .class_ 108), (1, u "java/lang/Enum$EnumDesc"), (2, .class_ 112), (0, u "java/lang/constant/Constable"), (0, .class_ 114), (0, u "java/lang/Comparable"), (0, .class_ 116), (0, u "java/io/Serializable")] 87

/-- java/lang/Enum -/
def k5 : Class := { plain "java/lang/Enum" (some 0) with
  accessFlags := 1057
  interfaces := #[2, 3, 4]
  cf := some (fileOf pool5 2 #[.nestMembers #[106]] #[] 1057 12 #[111, 113, 115] #[{ accessFlags := 18, nameIndex := 5, descriptorIndex := 6, attributes := #[] }, { accessFlags := 18, nameIndex := 9, descriptorIndex := 10, attributes := #[] }, { accessFlags := 2, nameIndex := 19, descriptorIndex := 10, attributes := #[] }])
  fields := #[{ name := "name", type := (.object "java/lang/String"), accessFlags := 18, slot := 0, constantValue := 0 }, { name := "ordinal", type := .int, accessFlags := 18, slot := 1, constantValue := 0 }, { name := "hash", type := .int, accessFlags := 2, slot := 2, constantValue := 0 }]
  methods := #[]
  instanceTypes := #[(.object "java/lang/String"), .int, .int]
  staticTypes := #[]
  resolved := Array.replicate 204 none
  statics := none }

def pool6 : Array CpInfo := pool [(1, .class_ 2), (0, u "com/example/stratacheck/stratacheck/spec/Tie"), (2, u "WRITE_THROUGH"), (0, u "Lcom/example/stratacheck/stratacheck/spec/Tie;"), (2, u "READ_BACK"), (2, u "WRITE_BACK"), (2, u "READ_THROUGH"), (2, u "$VALUES"), (0, u "[Lcom/example/stratacheck/stratacheck/spec/Tie;"), (6, .class_ 28), (1, u "java/lang/Enum"), (6, .fieldref 1 36), (0, .nameAndType 37 38), (0, u "from"), (0, u "Lcom/example/stratacheck/stratacheck/model/Level;"), (0, .fieldref 1 40), (0, .nameAndType 41 38), (0, u "to"), (8, u "names"), (0, u "Ljava/util/List;"), (70, u "ties"), (0, u "()Z"), (1, u "()Lcom/example/stratacheck/stratacheck/model/Level;")] 31

def k6c0 : Code := { maxStack := 1, maxLocals := 1, code := prog_124_method_7_code, exceptionTable := #[], attributes := #[] }
def k6m0 : Method := { name := "ties", desc := "()Z", sig := { parameters := [], returnType := some .boolean }, accessFlags := 1, code := some k6c0 }
def k6c1 : Code := { maxStack := 1, maxLocals := 1, code := prog_124_method_8_code, exceptionTable := #[], attributes := #[] }
def k6m1 : Method := { name := "from", desc := "()Lcom/example/stratacheck/stratacheck/model/Level;", sig := { parameters := [], returnType := some (.object "com/example/stratacheck/stratacheck/model/Level") }, accessFlags := 1, code := some k6c1 }
def k6c2 : Code := { maxStack := 1, maxLocals := 1, code := prog_124_method_9_code, exceptionTable := #[], attributes := #[] }
def k6m2 : Method := { name := "to", desc := "()Lcom/example/stratacheck/stratacheck/model/Level;", sig := { parameters := [], returnType := some (.object "com/example/stratacheck/stratacheck/model/Level") }, accessFlags := 1, code := some k6c2 }
/-- com/example/stratacheck/stratacheck/spec/Tie -/
def k6 : Class := { plain "com/example/stratacheck/stratacheck/spec/Tie" (some 5) with
  accessFlags := 16433
  interfaces := #[]
  cf := some (fileOf pool6 1 #[] #[{ accessFlags := 1, nameIndex := 122, descriptorIndex := 123, attributes := #[] }, { accessFlags := 1, nameIndex := 37, descriptorIndex := 125, attributes := #[] }, { accessFlags := 1, nameIndex := 41, descriptorIndex := 125, attributes := #[] }] 16433 26 #[] #[{ accessFlags := 16409, nameIndex := 5, descriptorIndex := 6, attributes := #[] }, { accessFlags := 16409, nameIndex := 9, descriptorIndex := 6, attributes := #[] }, { accessFlags := 16409, nameIndex := 12, descriptorIndex := 6, attributes := #[] }, { accessFlags := 16409, nameIndex := 15, descriptorIndex := 6, attributes := #[] }, { accessFlags := 18, nameIndex := 37, descriptorIndex := 38, attributes := #[] }, { accessFlags := 18, nameIndex := 41, descriptorIndex := 38, attributes := #[] }, { accessFlags := 18, nameIndex := 50, descriptorIndex := 51, attributes := #[] }, { accessFlags := 4122, nameIndex := 18, descriptorIndex := 19, attributes := #[] }])
  fields := #[{ name := "WRITE_THROUGH", type := (.object "com/example/stratacheck/stratacheck/spec/Tie"), accessFlags := 16409, slot := 0, constantValue := 0 }, { name := "READ_BACK", type := (.object "com/example/stratacheck/stratacheck/spec/Tie"), accessFlags := 16409, slot := 1, constantValue := 0 }, { name := "WRITE_BACK", type := (.object "com/example/stratacheck/stratacheck/spec/Tie"), accessFlags := 16409, slot := 2, constantValue := 0 }, { name := "READ_THROUGH", type := (.object "com/example/stratacheck/stratacheck/spec/Tie"), accessFlags := 16409, slot := 3, constantValue := 0 }, { name := "from", type := (.object "com/example/stratacheck/stratacheck/model/Level"), accessFlags := 18, slot := 3, constantValue := 0 }, { name := "to", type := (.object "com/example/stratacheck/stratacheck/model/Level"), accessFlags := 18, slot := 4, constantValue := 0 }, { name := "names", type := (.object "java/util/List"), accessFlags := 18, slot := 5, constantValue := 0 }, { name := "$VALUES", type := (.array (.object "com/example/stratacheck/stratacheck/spec/Tie")), accessFlags := 4122, slot := 4, constantValue := 0 }]
  methods := #[k6m0, k6m1, k6m2]
  instanceTypes := #[(.object "java/lang/String"), .int, .int, (.object "com/example/stratacheck/stratacheck/model/Level"), (.object "com/example/stratacheck/stratacheck/model/Level"), (.object "java/util/List")]
  staticTypes := #[(.object "com/example/stratacheck/stratacheck/spec/Tie"), (.object "com/example/stratacheck/stratacheck/spec/Tie"), (.object "com/example/stratacheck/stratacheck/spec/Tie"), (.object "com/example/stratacheck/stratacheck/spec/Tie"), (.array (.object "com/example/stratacheck/stratacheck/spec/Tie"))]
  resolved := Array.replicate 157 none
  statics := some 0 }

def pool7 : Array CpInfo := pool [(1, .class_ 2), (0, u "com/example/stratacheck/stratacheck/model/Level"), (2, u "WEAK"), (0, u "Lcom/example/stratacheck/stratacheck/model/Level;"), (2, u "STRONG"), (2, u "$VALUES"), (0, u "[Lcom/example/stratacheck/stratacheck/model/Level;"), (6, .class_ 22), (1, u "java/lang/Enum"), (8, u "label"), (0, u "Ljava/lang/String;")] 65

/-- com/example/stratacheck/stratacheck/model/Level -/
def k7 : Class := { plain "com/example/stratacheck/stratacheck/model/Level" (some 5) with
  accessFlags := 16433
  interfaces := #[]
  cf := some (fileOf pool7 1 #[] #[] 16433 20 #[] #[{ accessFlags := 16409, nameIndex := 5, descriptorIndex := 6, attributes := #[] }, { accessFlags := 16409, nameIndex := 9, descriptorIndex := 6, attributes := #[] }, { accessFlags := 18, nameIndex := 31, descriptorIndex := 32, attributes := #[] }, { accessFlags := 4122, nameIndex := 12, descriptorIndex := 13, attributes := #[] }])
  fields := #[{ name := "WEAK", type := (.object "com/example/stratacheck/stratacheck/model/Level"), accessFlags := 16409, slot := 0, constantValue := 0 }, { name := "STRONG", type := (.object "com/example/stratacheck/stratacheck/model/Level"), accessFlags := 16409, slot := 1, constantValue := 0 }, { name := "label", type := (.object "java/lang/String"), accessFlags := 18, slot := 3, constantValue := 0 }, { name := "$VALUES", type := (.array (.object "com/example/stratacheck/stratacheck/model/Level")), accessFlags := 4122, slot := 2, constantValue := 0 }]
  methods := #[]
  instanceTypes := #[(.object "java/lang/String"), .int, .int, (.object "java/lang/String")]
  staticTypes := #[(.object "com/example/stratacheck/stratacheck/model/Level"), (.object "com/example/stratacheck/stratacheck/model/Level"), (.array (.object "com/example/stratacheck/stratacheck/model/Level"))]
  resolved := Array.replicate 98 none
  statics := some 1 }

def pool8 : Array CpInfo := pool [(1, u "java/lang/Cloneable"), (0, .class_ 1), (0, u "java/lang/Object"), (0, .class_ 3)] 3

/-- java/lang/Cloneable -/
def k8 : Class := { plain "java/lang/Cloneable" (some 0) with
  accessFlags := 1537
  interfaces := #[]
  cf := some (fileOf pool8 2 #[] #[] 1537 4 #[] #[])
  fields := #[]
  methods := #[]
  instanceTypes := #[]
  staticTypes := #[]
  resolved := Array.replicate 8 none
  statics := none }

/-- the primitive byte -/
def k9 : Class := { plain "byte" none with kind := .primitive 'B', accessFlags := 0x411 }
/-- [B -/
def k10 : Class := { plain "[B" (some 0) with kind := .array 9 .byte, interfaces := #[8, 4], accessFlags := 1041 }

/-- the primitive int -/
def k11 : Class := { plain "int" none with kind := .primitive 'I', accessFlags := 0x411 }
/-- [I -/
def k12 : Class := { plain "[I" (some 0) with kind := .array 11 .int, interfaces := #[8, 4], accessFlags := 1041 }

def heap : Heap := #[{ cls := 6, slots := #[.ref 2, .ref 7, .ref 6, .ref 5, .null], vm := .statics 6 },
  { cls := 7, slots := #[.ref 3, .ref 4, .null], vm := .statics 7 },
  { cls := 6, slots := #[.null, .int 0, .int 0, .ref 3, .ref 4, .null], vm := .none },
  { cls := 7, slots := #[.null, .int 0, .int 0, .null], vm := .none },
  { cls := 7, slots := #[.null, .int 1, .int 0, .null], vm := .none },
  { cls := 6, slots := #[.null, .int 0, .int 0, .null, .null, .null], vm := .none },
  { cls := 6, slots := #[.null, .int 0, .int 0, .null, .null, .null], vm := .none },
  { cls := 6, slots := #[.null, .int 0, .int 0, .ref 4, .ref 3, .null], vm := .none }]
def classes : Array Class := #[k0, k1, k2, k3, k4, k5, k6, k7, k8, k9, k10, k11, k12]
def interned : List (Array UInt16 × Addr) := []
def slotsUsed : Nat := 40
def theMethod : MethodId := ⟨1, 1⟩
def args0 : Array Value := #[.int 5]
def aboutOver (below : List Frame) : State where
  vm := { classes := classes, interned := interned.toArray }
  heap := heap
  slotsUsed := slotsUsed
  threads := #[{ frames := .invoking theMethod args0 :: below }]
def below0 : List Frame := [.native { method := ⟨0, 0⟩, args := #[] }]
def about1 : State := aboutOver below0
def p0 : Program := .bare "" "" ""
def e0 : Env := launch0.env 0 0 0
theorem w_frames : about1.frames = Frame.invoking theMethod args0 :: below0 := rfl
set_option maxRecDepth 65536 in
theorem w_args : argsFit about1.vm theMethod args0 = true := by decide +kernel
set_option maxRecDepth 65536 in
theorem w_heap : heapFits about1 = true := by decide +kernel
set_option maxRecDepth 65536 in
theorem w_runnable : about1.curStatus? = some .runnable := by decide +kernel
set_option maxRecDepth 65536 in
theorem w_alone : about1.alone = true := by decide +kernel
set_option maxRecDepth 65536 in
theorem w_named : about1.methodNamed? x = some theMethod := by decide +kernel
set_option maxRecDepth 65536 in
theorem w_hears : about1.hears theMethod below0 = true := by decide +kernel
set_option maxRecDepth 65536 in
theorem w_ripe : about1.ripe theMethod args0 below0 = true := by decide +kernel
theorem w_running : about1.status = .running := rfl
set_option maxRecDepth 65536 in
theorem w_room : about1.hasRoom e0.platform room_1 = true :=
  launch0.hasRoom_least _ room_1 (by decide +kernel) (by decide +kernel) (by decide +kernel) (by decide +kernel) (by decide +kernel) (by decide +kernel)
theorem allAtoms_all (ts : List Jvm.Cond) (a : Array Jvm.Value) (st : Jvm.State) : (allAtoms ts).before a st = ts.all (fun c => c.before a st) := by
  induction ts with
  | nil => rfl
  | cons c t ih =>
    show (Jvm.Cond.and c (allAtoms t)).before a st = _
    rw [Jvm.Cond.before_and, ih, List.all_cons]
def words1 : List Jvm.Cond := Jvm.Cond.code x code maxLocals ret :: tables_1
/-- a 'code' word, met by the world's own term for the bytes: nothing is compared byte by byte -/
theorem code_word {y : MethodName} {bytes : ByteArray} {mx : Nat} {rt : Option FieldType} {a : Array Value} {s : State} {m : MethodId} {meth : Method} {c : Code} (h1 : s.methodNamed? y = some m) (h2 : s.vm.method? m = some meth) (h3 : meth.code = some c) (h4 : c.code = bytes)
    (h5 : (c.maxLocals == mx && c.exceptionTable.isEmpty && decide (c.maxStack ≤ mostOperands) && decide (meth.sig.returnType = rt) && !meth.locks && decide (parseMethodDescriptor y.desc = some meth.sig)) = true) : (Jvm.Cond.code y bytes mx rt).before a s = true := by
  simp only [Bool.and_eq_true, beq_iff_eq, Bool.not_eq_true', decide_eq_true_eq] at h5
  obtain ⟨⟨⟨⟨⟨g1, g2⟩, g3⟩, g4⟩, g5⟩, g6⟩ := h5
  simp [Cond.before, Cond.holds, Cond.value, h1, h2, h3, h4, g1, g2, g3, g4, g5, g6]
def isCode : Jvm.Cond → Bool
  | .code _ _ _ _ => true
  | _ => false
theorem all_split {L : List Jvm.Cond} {P : Jvm.Cond → Bool} (h1 : L.all (fun c => isCode c || P c) = true) (h2 : ∀ c ∈ L.filter isCode, P c = true) : L.all P = true := by
  refine List.all_eq_true.mpr fun c hc => ?_
  have h := List.all_eq_true.mp h1 c hc
  rcases Bool.eq_false_or_eq_true (isCode c) with hi | hi
  · exact h2 c (List.mem_filter.mpr ⟨hc, hi⟩)
  · simpa [hi] using h
set_option maxRecDepth 65536 in
theorem w_c0 : (Jvm.Cond.code x code maxLocals ret).before args0 about1 = true := code_word (m := ⟨1, 1⟩) (meth := k1m1) (c := k1c1) (by decide +kernel) rfl rfl rfl (by decide +kernel)
set_option maxRecDepth 65536 in
theorem w_c1 : (Jvm.Cond.code ({ cls := "com/example/stratacheck/stratacheck/spec/Tie", name := "ties", desc := "()Z" } : Jvm.MethodName) prog_124_method_7_code (1 : Nat) (Option.some Jvm.ClassFile.FieldType.boolean)).before args0 about1 = true := code_word (m := ⟨6, 0⟩) (meth := k6m0) (c := k6c0) (by decide +kernel) rfl rfl rfl (by decide +kernel)
set_option maxRecDepth 65536 in
theorem w_c2 : (Jvm.Cond.code ({ cls := "com/example/stratacheck/stratacheck/spec/Tie", name := "from", desc := "()Lcom/example/stratacheck/stratacheck/model/Level;" } : Jvm.MethodName) prog_124_method_8_code (1 : Nat) (Option.some (Jvm.ClassFile.FieldType.object "com/example/stratacheck/stratacheck/model/Level"))).before args0 about1 = true := code_word (m := ⟨6, 1⟩) (meth := k6m1) (c := k6c1) (by decide +kernel) rfl rfl rfl (by decide +kernel)
set_option maxRecDepth 65536 in
theorem w_c3 : (Jvm.Cond.code ({ cls := "com/example/stratacheck/stratacheck/spec/Tie", name := "to", desc := "()Lcom/example/stratacheck/stratacheck/model/Level;" } : Jvm.MethodName) prog_124_method_9_code (1 : Nat) (Option.some (Jvm.ClassFile.FieldType.object "com/example/stratacheck/stratacheck/model/Level"))).before args0 about1 = true := code_word (m := ⟨6, 2⟩) (meth := k6m2) (c := k6c2) (by decide +kernel) rfl rfl rfl (by decide +kernel)
def codes1 : List Jvm.Cond := [Jvm.Cond.code x code maxLocals ret, Jvm.Cond.code ({ cls := "com/example/stratacheck/stratacheck/spec/Tie", name := "ties", desc := "()Z" } : Jvm.MethodName) prog_124_method_7_code (1 : Nat) (Option.some Jvm.ClassFile.FieldType.boolean), Jvm.Cond.code ({ cls := "com/example/stratacheck/stratacheck/spec/Tie", name := "from", desc := "()Lcom/example/stratacheck/stratacheck/model/Level;" } : Jvm.MethodName) prog_124_method_8_code (1 : Nat) (Option.some (Jvm.ClassFile.FieldType.object "com/example/stratacheck/stratacheck/model/Level")), Jvm.Cond.code ({ cls := "com/example/stratacheck/stratacheck/spec/Tie", name := "to", desc := "()Lcom/example/stratacheck/stratacheck/model/Level;" } : Jvm.MethodName) prog_124_method_9_code (1 : Nat) (Option.some (Jvm.ClassFile.FieldType.object "com/example/stratacheck/stratacheck/model/Level"))]
set_option maxRecDepth 65536 in
theorem codes_eq : words1.filter isCode = codes1 := rfl
theorem w_codes : ∀ c ∈ words1.filter isCode, c.before args0 about1 = true := by
  rw [codes_eq]
  intro c hc
  simp only [codes1, List.mem_cons, List.not_mem_nil, or_false] at hc
  rcases hc with rfl | rfl | rfl | rfl
  · exact w_c0
  · exact w_c1
  · exact w_c2
  · exact w_c3
set_option maxRecDepth 65536 in
theorem w_t1 : (words1.take 24).all (fun c => isCode c || c.before args0 about1) = true := by decide +kernel
set_option maxRecDepth 65536 in
theorem w_t2 : (words1.drop 24).all (fun c => isCode c || c.before args0 about1) = true := by decide +kernel
theorem w_tables : (allAtoms (Jvm.Cond.code x code maxLocals ret :: tables_1)).before args0 about1 = true := by
  rw [allAtoms_all]
  show words1.all (fun c => c.before args0 about1) = true
  refine all_split ?_ w_codes
  rw [← List.take_append_drop 24 words1, List.all_append, w_t1, w_t2]
  rfl
set_option maxRecDepth 65536 in
theorem w_case : (Jvm.Cond.and given_1 narrow_1).before args0 about1 = true := by decide +kernel
theorem w_applies : (headSpec (Jvm.Cond.code x code maxLocals ret :: tables_1) room_1).applies x e0.platform about1 = true :=
  (Spec.applies_iff w_frames).mpr ⟨w_running, w_runnable, w_alone, w_named, w_hears, w_ripe, w_room, w_tables⟩
theorem atStart : AtStart classFile x code maxLocals ret World_1 tables_1 room_1 Calls_1 rest_1 Pre_1 launch0 p0 e0 about1 theMethod args0 below0 :=
  ⟨lists_1, trivial, launch0.admits_env _ _ _, launch0.least_env, fairChoices_fair.cas, fairChoices_fair.clock, w_frames, w_args, w_heap, w_applies, trivial, trivial, w_case⟩
end start1
theorem witness_1 : WitnessClaimed_1 := ⟨start1.p0, start1.e0, start1.about1, start1.theMethod, start1.args0, start1.below0, start1.atStart⟩
end Jvm.Pilot.@@N@@
