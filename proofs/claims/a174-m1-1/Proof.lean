import JvmDerived
import JvmDerived.Pilot.@@N@@Statement
import JvmDerived.Pilot.@@N@@Code
set_option linter.unusedVariables false
set_option linter.unusedSimpArgs false
namespace Jvm.Pilot.@@N@@
open Jvm Jvm.ClassFile Sem Op Lib Jvm.Free Jvm.Stand Jvm.LawKit Jvm.RoadKit Bundle Jvm.Pilot.@@N@@.Jvm.D
/-! A walk in the backward style: 'own_Goes K T g': from the frame g over T the run comes to an end of which K holds. -/
def own_Goes (p : Program) (e : Env) (below : List Frame) (K : Outcome → State → Prop) (T : State) (g : JFrame) : Prop :=
  ∃ s₂ o, Steps p.tables e below (T.setTop g) s₂ ∧ s₂.status = .running ∧ Ended s₂ below o ∧ K o s₂
def own_K (Q : Option Value → Heap → List Loc → Prop) (U : State) (C S : Nat) : Outcome → State → Prop :=
  fun o U' => ∃ v L, o = .returned v ∧ Q v U'.heap L ∧ FrameEnd U o U' L C S
section OwnKit
variable {p : Program} {l : Launch} {e : Env} {R : Room} {s : State} {m : MethodId} {args : Array Value} {below : List Frame} {meth : Method} {c : Code} {T T' : State} {locs : List Loc} {cells slots : Nat} {Z : State} {a0 : Array Value} {h : Heap} {K : Outcome → State → Prop} {Q : Option Value → Heap → List Loc → Prop} {C S : Nat}
theorem own_by {g g' : JFrame} (st : ∀ t, Steps p.tables e below (T'.setTop g') t → Steps p.tables e below (T.setTop g) t) (k : own_Goes p e below K T' g') : own_Goes p e below K T g := by
  obtain ⟨s₂, o, h1, r⟩ := k
  exact ⟨s₂, o, st _ h1, r⟩
theorem own_retN (X : Stand p l e R s m args below meth c T locs cells slots) (hx : p.tables.exec = Jvm.exec) {pc : Nat} {Ls : Array Slot} {z : Int32} {t : FieldType} {rest : List Value} (hret : meth.sig.returnType = some t) (hlocks : meth.locks = false) (ht : t = .boolean ∨ t = .byte ∨ t = .char ∨ t = .short)
    (hd : decode c.code pc = .ok (.ireturn, 1)) (hc : cells ≤ C) (hs : slots ≤ S) {v : Int32} (hv : nar t z = v) (q : Q (some (.int v)) T.heap locs) : own_Goes p e below (own_K Q s C S) T (mkF m pc Ls (.int z :: rest)) := by
  subst hv
  obtain ⟨fs, hr, hrun, hended, hW, hsame⟩ := X.leave (v := some (.int (nar t z))) (fun h => by rw [hret] at h; cases h) hlocks
  exact ⟨_, _, retN X hx hret ht hd hr, hrun, hended, _, _, rfl, q, ⟨_, rfl⟩, hW, hsame.mono hc hs⟩
theorem own_retV (X : Stand p l e R s m args below meth c T locs cells slots) (hx : p.tables.exec = Jvm.exec) {pc : Nat} {Ls : Array Slot} {w : Value} {t : FieldType} {i : Instr} {rest : List Value} (hret : meth.sig.returnType = some t) (hlocks : meth.locks = false) (hn : narrow t w = w)
    (hi : (i = .ireturn ∧ (t = .int ∨ t = .boolean ∨ t = .byte ∨ t = .char ∨ t = .short) ∧ ∃ z, w = .int z) ∨ (i = .lreturn ∧ t = .long ∧ ∃ z, w = .long z) ∨ (i = .dreturn ∧ t = .double ∧ ∃ z, w = .double z) ∨ (i = .freturn ∧ t = .float ∧ ∃ z, w = .float z) ∨ (i = .areturn ∧ t.isReference = true ∧ w.isRef = true))
    (hd : decode c.code pc = .ok (i, 1)) (hc : cells ≤ C) (hs : slots ≤ S) (q : Q (some w) T.heap locs) : own_Goes p e below (own_K Q s C S) T (mkF m pc Ls (w :: rest)) := by
  obtain ⟨fs, hr, hrun, hended, hW, hsame⟩ := X.leave (v := some w) (fun h => by rw [hret] at h; cases h) hlocks
  exact ⟨_, _, retOut X hx hret hn hi hd hr, hrun, hended, _, _, rfl, q, ⟨_, rfl⟩, hW, hsame.mono hc hs⟩
theorem own_retI (X : Stand p l e R s m args below meth c T locs cells slots) (hx : p.tables.exec = Jvm.exec) {pc : Nat} {Ls : Array Slot} {z : Int32} {rest : List Value} (hret : meth.sig.returnType = some .int) (hlocks : meth.locks = false)
    (hd : decode c.code pc = .ok (.ireturn, 1)) (hc : cells ≤ C) (hs : slots ≤ S) (q : Q (some (.int z)) T.heap locs) : own_Goes p e below (own_K Q s C S) T (mkF m pc Ls (.int z :: rest)) :=
  own_retV X hx hret hlocks rfl (Or.inl ⟨rfl, Or.inl rfl, z, rfl⟩) hd hc hs q
theorem own_retJ (X : Stand p l e R s m args below meth c T locs cells slots) (hx : p.tables.exec = Jvm.exec) {pc : Nat} {Ls : Array Slot} {z : Int64} {rest : List Value} (hret : meth.sig.returnType = some .long) (hlocks : meth.locks = false)
    (hd : decode c.code pc = .ok (.lreturn, 1)) (hc : cells ≤ C) (hs : slots ≤ S) (q : Q (some (.long z)) T.heap locs) : own_Goes p e below (own_K Q s C S) T (mkF m pc Ls (.long z :: rest)) :=
  own_retV X hx hret hlocks rfl (Or.inr (Or.inl ⟨rfl, rfl, z, rfl⟩)) hd hc hs q
theorem own_retR (X : Stand p l e R s m args below meth c T locs cells slots) (hx : p.tables.exec = Jvm.exec) {pc : Nat} {Ls : Array Slot} {w : Value} {t : FieldType} {rest : List Value} (hret : meth.sig.returnType = some t) (hlocks : meth.locks = false) (ht : t.isReference = true) (hw : w.isRef = true)
    (hd : decode c.code pc = .ok (.areturn, 1)) (hc : cells ≤ C) (hs : slots ≤ S) (q : Q (some w) T.heap locs) : own_Goes p e below (own_K Q s C S) T (mkF m pc Ls (w :: rest)) :=
  own_retV X hx hret hlocks (by cases t <;> first | (cases ht; done) | (cases w <;> rfl)) (Or.inr (Or.inr (Or.inr (Or.inr ⟨rfl, ht, hw⟩)))) hd hc hs q
theorem own_ret0 (X : Stand p l e R s m args below meth c T locs cells slots) (hx : p.tables.exec = Jvm.exec) {pc : Nat} {Ls : Array Slot} (hret : meth.sig.returnType = none) (hlocks : meth.locks = false)
    (hd : decode c.code pc = .ok (.return_, 1)) (hc : cells ≤ C) (hs : slots ≤ S) (q : Q none T.heap locs) : own_Goes p e below (own_K Q s C S) T (mkF m pc Ls []) := by
  obtain ⟨fs, hr, hrun, hended, hW, hsame⟩ := X.leave (v := none) (fun _ => rfl) hlocks
  exact ⟨_, _, X.returnOut hx hret hd hr, hrun, hended, _, _, rfl, q, ⟨_, rfl⟩, hW, hsame.mono hc hs⟩
theorem own_lrem {g : JFrame} {target : State} (X : Stand p l e R s m args below meth c T locs cells slots) (hx : p.tables.exec = Jvm.exec) (hg : g.method = m) {x y : Int64} {rest : List Value} (hd : decode c.code g.pc = .ok (.lrem, 1)) (hs : g.stack = .long y :: .long x :: rest) (hy : y ≠ 0)
    (hr : Steps p.tables e below (T.setTop { g with pc := g.pc + 1, stack := .long (x % y) :: rest }) target) : Steps p.tables e below (T.setTop g) target := by
  have q : x - x / y * y = x % y := lrem_mod x y
  exact XS.lrem X.here hx hg hd hs hy (by rw [q]; exact hr)
/-- what a callee's theorem says -/
abbrev own_Met (l : Launch) (Z : State) (y : MethodName) (bytes : ByteArray) (maxL : Nat) (ret : Option FieldType) (rm : Room) (as' : Array Value) (h : Heap) (Q : Option Value → Heap → List Loc → Prop) : Prop :=
  MetFree l y (head1 [Cond.code y bytes maxL ret] rm) (fun a U => a = as' ∧ Z.Warmed39 U.vm ∧ U.heap = h) (fun _ _ _ _ _ => True) (fun _ U o U' => ∃ v L, o = .returned v ∧ Q v U'.heap L ∧ FrameEnd U o U' L rm.cells rm.slots)
theorem own_callS (X : Stand p l e R s m args below meth c T locs cells slots) (hx : p.tables.exec = Jvm.exec) (hZ : Z.Warmed39 s.vm) {own : String} {index : Nat} {y : MethodName} {bytes : ByteArray} {maxL : Nat} {ret : Option FieldType}
    (hown : s.vm.findClass own = some m.cls) (w1 : (Cond.methodLink own index y).before a0 Z = true) (w2 : (Cond.static y).before a0 Z = true) (w3 : (Cond.initialized y.cls).before a0 Z = true) (w4 : (Cond.code y bytes maxL ret).before a0 Z = true) (hy : y.cls ≠ "java/lang/invoke/MethodHandle" ∧ y.cls ≠ "java/lang/invoke/VarHandle")
    {rm : Room} {argsL rest : List Value} (hM : own_Met l Z y bytes maxL ret rm argsL.toArray h Q) (eT : T.heap = h) {W : Nat} (hf : rm.frames + 1 ≤ R.frames) (hl : W + (maxL + 11) + rm.locals ≤ R.locals) (hc : cells + rm.cells ≤ R.cells) (hs : slots + rm.slots ≤ R.slots)
    {g : JFrame} (hg : g.method = m) (hsize : g.locals.size = c.maxLocals) (hlen : ∀ sig, parseMethodDescriptor y.desc = some sig → argsL.length = sig.parameters.length)
    (hstack : g.stack = argsL.reverse ++ rest) (hW : 2 * g.monitorRoom + (rest.map fun v => v.category).sum ≤ W) (hdg : decode c.code g.pc = .ok (.invokestatic index, 3)) :
    ∃ (v : Option Value) (T' : State) (L : List Loc), Stand p l e R s m args below meth c T' (locs ++ L) (cells + rm.cells) (slots + rm.slots) ∧ Q v T'.heap L ∧ ∀ K, own_Goes p e below K T' { g with pc := g.pc + 3, stack := v.toList ++ rest } → own_Goes p e below K T g := by
  obtain ⟨v, vm₁, ⟨T', L', k', n'⟩, -, X', ⟨L, hQ, l1, l2, l3⟩, st⟩ := Jvm.LawKit.callS X hx hown (mvT hZ w1) (mvT hZ w2) (mvT hZ w3) (mvT hZ w4) hy (backOf (W := W) hM hZ w4 w3 hf hl) hg hsize hlen hstack hW hdg (fun _ _ => ⟨rfl, eT, hc, hs⟩)
  dsimp only [Pt.U, Pt.locs, Pt.cells, Pt.slots] at X' l1 l2 l3 st hQ
  subst l1 l2 l3
  exact ⟨v, T', L, X', hQ, fun K k => own_by st k⟩
theorem own_callI (X : Stand p l e R s m args below meth c T locs cells slots) (hx : p.tables.exec = Jvm.exec) (hZ : Z.Warmed39 s.vm) {own : String} {index : Nat} {y : MethodName} {bytes : ByteArray} {maxL : Nat} (hy1 : y.name = "<init>")
    (hown : s.vm.findClass own = some m.cls) (w1 : (Cond.methodLink own index y).before a0 Z = true) (w2 : (Cond.instanceMethod y).before a0 Z = true) (w3 : (Cond.initialized y.cls).before a0 Z = true) (w4 : (Cond.code y bytes maxL none).before a0 Z = true) (hy : y.cls ≠ "java/lang/invoke/MethodHandle" ∧ y.cls ≠ "java/lang/invoke/VarHandle")
    {rm : Room} {a : Addr} {argsL rest : List Value} (hM : own_Met l Z y bytes maxL none rm (.ref a :: argsL).toArray h Q) (eT : T.heap = h) {W : Nat} (hf : rm.frames + 1 ≤ R.frames) (hl : W + (maxL + 11) + rm.locals ≤ R.locals) (hc : cells + rm.cells ≤ R.cells) (hs : slots + rm.slots ≤ R.slots)
    {g : JFrame} (hg : g.method = m) (hsize : g.locals.size = c.maxLocals) (hlen : ∀ sig, parseMethodDescriptor y.desc = some sig → argsL.length = sig.parameters.length)
    (hstack : g.stack = argsL.reverse ++ .ref a :: rest) (hW : 2 * g.monitorRoom + (rest.map fun v => v.category).sum ≤ W) (hdg : decode c.code g.pc = .ok (.invokespecial index, 3)) :
    ∃ (v : Option Value) (T' : State) (L : List Loc), Stand p l e R s m args below meth c T' (locs ++ L) (cells + rm.cells) (slots + rm.slots) ∧ Q v T'.heap L ∧ ∀ K, own_Goes p e below K T' { g with pc := g.pc + 3, stack := v.toList ++ rest } → own_Goes p e below K T g := by
  obtain ⟨v, vm₁, ⟨T', L', k', n'⟩, -, X', ⟨L, hQ, l1, l2, l3⟩, st⟩ := X.specialBack hx hy1 hown (mvT hZ w1) (mvT hZ w2) (mvT hZ w4) hy (backOf (W := W) hM hZ w4 w3 hf hl) hg hsize (Steps.refl _) hlen hstack hW hdg (fun _ _ => ⟨rfl, eT, hc, hs⟩)
  dsimp only [Pt.U, Pt.locs, Pt.cells, Pt.slots] at X' l1 l2 l3 st hQ
  subst l1 l2 l3
  exact ⟨v, T', L, X', hQ, fun K k => own_by (fun t k => st.trans k) k⟩
theorem own_callV (X : Stand p l e R s m args below meth c T locs cells slots) (hx : p.tables.exec = Jvm.exec) (hZ : Z.Warmed39 s.vm) {own C : String} {index : Nat} {y : MethodName} {bytes : ByteArray} {maxL : Nat} {ret : Option FieldType}
    (hown : s.vm.findClass own = some m.cls) (w1 : (Cond.methodLink own index y).before a0 Z = true) (w5 : (Cond.declares y).before a0 Z = true) (w6 : (Cond.selects C y y).before a0 Z = true) (w2 : (Cond.instanceMethod y).before a0 Z = true) (w3 : (Cond.initialized y.cls).before a0 Z = true) (w4 : (Cond.code y bytes maxL ret).before a0 Z = true) (hy : y.cls ≠ "java/lang/invoke/MethodHandle" ∧ y.cls ≠ "java/lang/invoke/VarHandle")
    {rm : Room} {a : Addr} {argsL rest : List Value} (E : Exa Z h a C) (hM : own_Met l Z y bytes maxL ret rm (.ref a :: argsL).toArray h Q) (eT : T.heap = h) {W : Nat} (hf : rm.frames + 1 ≤ R.frames) (hl : W + (maxL + 11) + rm.locals ≤ R.locals) (hc : cells + rm.cells ≤ R.cells) (hs : slots + rm.slots ≤ R.slots)
    {g : JFrame} (hg : g.method = m) (hsize : g.locals.size = c.maxLocals) (hlen : ∀ sig, parseMethodDescriptor y.desc = some sig → argsL.length = sig.parameters.length)
    (hstack : g.stack = argsL.reverse ++ .ref a :: rest) (hW : 2 * g.monitorRoom + (rest.map fun v => v.category).sum ≤ W) (hdg : decode c.code g.pc = .ok (.invokevirtual index, 3)) :
    ∃ (v : Option Value) (T' : State) (L : List Loc), Stand p l e R s m args below meth c T' (locs ++ L) (cells + rm.cells) (slots + rm.slots) ∧ Q v T'.heap L ∧ ∀ K, own_Goes p e below K T' { g with pc := g.pc + 3, stack := v.toList ++ rest } → own_Goes p e below K T g := by
  obtain ⟨cB, kB, q1, q2, q3⟩ := isOf hZ eT E
  obtain ⟨v, vm₁, ⟨T', L', k', n'⟩, -, X', ⟨L, hQ, l1, l2, l3⟩, st⟩ := X.virtualBack hx hown (mvT hZ w1) (mvT hZ w5) (notFace_of_selects (args := #[]) (mvT hZ w6)) (mvT hZ w6) (mvT hZ w2) hy (backOf (W := W) hM hZ w4 w3 hf hl) q1 q3 hg hsize (Steps.refl _) hlen hstack hW hdg (fun _ _ => ⟨rfl, eT, hc, hs⟩)
  dsimp only [Pt.U, Pt.locs, Pt.cells, Pt.slots] at X' l1 l2 l3 st hQ
  subst l1 l2 l3
  exact ⟨v, T', L, X', hQ, fun K k => own_by (fun t k => st.trans k) k⟩
theorem own_callPv (X : Stand p l e R s m args below meth c T locs cells slots) (hx : p.tables.exec = Jvm.exec) (hZ : Z.Warmed39 s.vm) {own C : String} {index : Nat} {y : MethodName} {bytes : ByteArray} {maxL : Nat} {ret : Option FieldType}
    (hown : s.vm.findClass own = some m.cls) (w1 : (Cond.methodLink own index y).before a0 Z = true) (w6 : (Cond.selects y.cls y y).before a0 Z = true) (w2 : (Cond.instanceMethod y).before a0 Z = true) (w7 : (Cond.privateMethod y).before a0 Z = true) (w3 : (Cond.initialized y.cls).before a0 Z = true) (w4 : (Cond.code y bytes maxL ret).before a0 Z = true) (hy : y.cls ≠ "java/lang/invoke/MethodHandle" ∧ y.cls ≠ "java/lang/invoke/VarHandle")
    {rm : Room} {a : Addr} {argsL rest : List Value} (E : Exa Z h a C) (hM : own_Met l Z y bytes maxL ret rm (.ref a :: argsL).toArray h Q) (eT : T.heap = h) {W : Nat} (hf : rm.frames + 1 ≤ R.frames) (hl : W + (maxL + 11) + rm.locals ≤ R.locals) (hc : cells + rm.cells ≤ R.cells) (hs : slots + rm.slots ≤ R.slots)
    {g : JFrame} (hg : g.method = m) (hsize : g.locals.size = c.maxLocals) (hlen : ∀ sig, parseMethodDescriptor y.desc = some sig → argsL.length = sig.parameters.length)
    (hstack : g.stack = argsL.reverse ++ .ref a :: rest) (hW : 2 * g.monitorRoom + (rest.map fun v => v.category).sum ≤ W) (hdg : decode c.code g.pc = .ok (.invokevirtual index, 3)) :
    ∃ (v : Option Value) (T' : State) (L : List Loc), Stand p l e R s m args below meth c T' (locs ++ L) (cells + rm.cells) (slots + rm.slots) ∧ Q v T'.heap L ∧ ∀ K, own_Goes p e below K T' { g with pc := g.pc + 3, stack := v.toList ++ rest } → own_Goes p e below K T g := by
  obtain ⟨cq, q1, q2⟩ := E.cell
  obtain ⟨v, vm₁, ⟨T', L', k', n'⟩, -, X', ⟨L, hQ, l1, l2, l3⟩, st⟩ := X.privateBack hx hown (mvT hZ w1) (mvT hZ w2) (mvT hZ w6) (Cond.privateMethod_at (mvP hZ w7 (args := #[]))) (mvT hZ w4) hy (backOf (W := W) hM hZ w4 w3 hf hl) hg hsize (Steps.refl _) (by rw [eT]; exact q1) q2 hlen hstack hW hdg (fun _ _ => ⟨rfl, eT, hc, hs⟩)
  dsimp only [Pt.U, Pt.locs, Pt.cells, Pt.slots] at X' l1 l2 l3 st hQ
  subst l1 l2 l3
  exact ⟨v, T', L, X', hQ, fun K k => own_by (fun t k => st.trans k) k⟩
theorem own_Sta_keep {h' : Heap} {ws : List Addr} {O n d : String} {v : Value} (F : Sta Z h O n d v) (K : Keep h h' ws) (q : ∀ a ∈ ws, ∀ cell : Cell, h[a]? = some cell → cell.vm.isStatics = false) : Sta Z h' O n d v := by
  obtain ⟨cf, i, k, f, st, cell, h1, h2, h3, h4, h5, h6, h7⟩ := F
  refine ⟨cf, i, k, f, st, cell, h1, h2, h3, h4, K.2.1 st cell h5 (fun y => ?_), h6, h7⟩
  rw [q st y cell h5] at h6; cases h6
theorem own_selp {y : MethodName} {k : Nat} (w7 : (Cond.privateMethod y).before a0 Z = true) (w2 : (Cond.instanceMethod y).before a0 Z = true) (wi : (Cond.instantiable y.cls k).before a0 Z = true) (hy : y.cls ≠ "java/lang/invoke/MethodHandle" ∧ y.cls ≠ "java/lang/invoke/VarHandle") : (Cond.selects y.cls y y).before a0 Z = true := by
  obtain ⟨c, k, i1, i2, i3, i4, -⟩ := Cond.instantiable_spec wi
  rw [Bool.or_eq_false_iff] at i4
  exact Jvm.Stand.selects_self_of_private i1 i2 i4.1 (Cond.privateMethod_at w7) w2 hy
end OwnKit
/-! Doubles that are whole numbers over a power of two. -/
section OwnFl
open Jvm.FP.Core
/-- the datum times 2^k is the whole number i -/
def own_Sc (k : Nat) (i : Int) : Datum → Prop
  | .fin s c q => Whole i (.fin s c (q + k))
  | _ => False
theorem own_sc_round {k : Nat} (hk : k ≤ 900) {i : Int} (hi : i.natAbs ≤ 2 ^ 53) {d : Datum} (h : own_Sc k i d) : own_Sc k i (round b64 d) := by
  cases d with
  | nan => exact h.elim
  | inf => exact h.elim
  | fin s c q =>
    have h1 : Whole i (.fin s c (q + k)) := h
    by_cases h0 : i = 0
    · have hc := (whole_zero h1).mpr h0
      subst hc; subst h0
      show own_Sc k 0 (roundRatio b64 s 0 1 q)
      show signed s (0 * _) = 0 * _
      rw [Nat.zero_mul, Int.zero_mul]; exact signed_zero s
    · obtain ⟨c', q', hfit, hv⟩ := natFit good_b64 wide_b64 s (n := i.natAbs) hi
      have hq : -53 < q' := by
        refine Int.lt_of_not_ge fun hge => ?_
        have a1 := hfit.1
        rw [show (q' - 0).toNat = 0 by omega, Nat.pow_zero, Nat.mul_one, Nat.mul_one] at hv
        have a2 : 2 ^ 53 ≤ 2 ^ (0 - q').toNat := Nat.pow_le_pow_right (by decide) (by omega)
        have a3 : 1 * 2 ^ (0 - q').toNat ≤ i.natAbs * 2 ^ (0 - q').toNat := Nat.mul_le_mul_right _ (by omega)
        have a4 : (b64.p) = 53 := rfl
        rw [a4] at a1; omega
      have e1 : b64.qmin = -1074 := by decide
      have e2 : b64.qmax = 971 := by decide
      have hfit2 : FP.Core.fits b64 (.fin s c' (q' - k)) := by
        obtain ⟨f1, f2, f3, f4⟩ := hfit
        refine ⟨f1, by omega, by omega, ?_⟩
        rcases f4 with f4 | f4
        · omega
        · exact Or.inr f4
      have hn := whole_natAbs h1
      have hv2 : c * 2 ^ (q - (q' - k)).toNat = c' * 1 * 2 ^ ((q' - k) - q).toNat := by
        rw [show (0 - q').toNat = (-q').toNat by omega, show (q' - 0).toNat = q'.toNat by omega, Nat.mul_one] at hv
        rw [Nat.mul_one]
        have x2 : c * 2 ^ (q + (k : Int)).toNat * 2 ^ (-q').toNat = c' * 2 ^ q'.toNat * 2 ^ (-(q + (k : Int))).toNat := by
          rw [hn, Nat.mul_assoc, Nat.mul_comm (2 ^ (-(q + (k : Int))).toNat), ← Nat.mul_assoc, hv]
        by_cases g : q' ≤ q + k
        · rw [show ((q' - k) - q).toNat = 0 by omega, Nat.pow_zero, Nat.mul_one]
          have y1 : c * 2 ^ (q - (q' - (k:Int))).toNat * 2 ^ (q'.toNat + (-(q + (k:Int))).toNat) = c' * 2 ^ (q'.toNat + (-(q + (k:Int))).toNat) := by
            rw [Nat.mul_assoc, ← Nat.pow_add, show (q - (q' - (k:Int))).toNat + (q'.toNat + (-(q + (k:Int))).toNat) = (q + (k:Int)).toNat + (-q').toNat by omega, Nat.pow_add, ← Nat.mul_assoc, x2, Nat.pow_add, Nat.mul_assoc]
          exact Nat.eq_of_mul_eq_mul_right (Nat.two_pow_pos _) y1
        · rw [show (q - (q' - (k:Int))).toNat = 0 by omega, Nat.pow_zero, Nat.mul_one]
          have y1 : c * 2 ^ ((q + (k:Int)).toNat + (-q').toNat) = c' * 2 ^ ((q' - k) - q).toNat * 2 ^ ((q + (k:Int)).toNat + (-q').toNat) := by
            rw [Nat.mul_assoc c', ← Nat.pow_add, show ((q' - (k:Int)) - q).toNat + ((q + (k:Int)).toNat + (-q').toNat) = q'.toNat + (-(q + (k:Int))).toNat by omega, Nat.pow_add, ← Nat.mul_assoc, x2, Nat.pow_add, Nat.mul_assoc]
          exact Nat.eq_of_mul_eq_mul_right (Nat.two_pow_pos _) y1
      show own_Sc k i (roundRatio b64 s c 1 q)
      rw [roundRatio_exact good_b64 (by decide) hfit2 hv2]
      show signed s (c' * 2 ^ (q' - k + k).toNat) = i * ((2 ^ (-(q' - k + k)).toNat : Nat) : Int)
      rw [show (0 - q').toNat = (-q').toNat by omega, show (q' - 0).toNat = q'.toNat by omega, Nat.mul_one] at hv
      rw [show q' - (k : Int) + k = q' by omega, ← hv, signed_mul, whole_sign h1 h0]
      congr 1
      unfold signed
      by_cases h : i < 0 <;> simp [h] <;> omega
theorem own_sc_mul {k : Nat} (hk : k ≤ 900) {i j : Int} {a b : UInt64} (ha : DInt i a) (hb : own_Sc k j (val64 b)) (h : (i * j).natAbs ≤ 2 ^ 53) : own_Sc k (i * j) (val64 (FP.dmul a b)) := by
  rw [val64_dmul]
  refine own_sc_round hk h ?_
  unfold DInt at ha
  generalize val64 a = x at ha
  generalize val64 b = y at hb
  cases x with
  | nan => exact ha.elim
  | inf => exact ha.elim
  | fin s c q =>
  cases y with
  | nan => exact hb.elim
  | inf => exact hb.elim
  | fin t d r =>
    have hb' : Whole j (.fin t d (r + k)) := hb
    have w := whole_product ha hb'
    show Whole (i * j) (.fin (s != t) (c * d) (q + r + k))
    rw [Int.add_assoc]; exact w
theorem own_sc_cmp {k : Nat} {i j : Int} {a b : UInt64} (ha : DInt i a) (hb : own_Sc k j (val64 b)) : FP.dcmp a b = some (compare (i * (2 ^ k : Nat)) j) := by
  show order (val64 a) (val64 b) = _
  unfold DInt at ha
  generalize val64 a = x at ha
  generalize val64 b = y at hb
  cases x with
  | nan => exact ha.elim
  | inf => exact ha.elim
  | fin s c q =>
  cases y with
  | nan => exact hb.elim
  | inf => exact hb.elim
  | fin t d r =>
    have hb' : Whole j (.fin t d (r + k)) := hb
    have hk : Whole ((2 ^ k : Nat) : Int) (.fin false 1 k) := by
      show signed false (1 * 2 ^ (k : Int).toNat) = _ * ((2 ^ (-(k : Int)).toNat : Nat) : Int)
      rw [show (-(k : Int)).toNat = 0 by omega, show ((k : Int)).toNat = k by omega]
      simp [signed]
    have w := whole_product ha hk
    have w2 : Whole (i * ((2 ^ k : Nat) : Int)) (.fin s c (q + k)) := by
      have w3 : Whole (i * ((2 ^ k : Nat) : Int)) (.fin (s != false) (c * 1) (q + k)) := w
      simpa using w3
    have o := order_whole w2 hb'
    rw [← o]
    simp only [order, inUnits]
    rw [show q + (k : Int) - min (q + k) (r + k) = q - min q r by omega, show r + (k : Int) - min (q + k) (r + k) = r - min q r by omega]
theorem own_sc_ok {k : Nat} {i : Int} {a : UInt64} (h : own_Sc k i (val64 a)) : Jvm.Free.Fl.NoNaN64 a := by
  refine (Jvm.Free.Fl.dcmp_some (a := a) (b := a) (o := .eq) (dcmp_self ?_)).1
  intro q; rw [q] at h; exact h
theorem own_di_ok {i : Int} {a : UInt64} (h : DInt i a) : Jvm.Free.Fl.NoNaN64 a := (Jvm.Free.Fl.dcmp_some (dcmp_int h h)).1
theorem own_nn {i : Int} {a : UInt64} (h : DInt i a) : val64 a ≠ .nan := fun q => by unfold DInt at h; rw [q] at h; exact h
end OwnFl
/-! Quotients of ints as doubles: 'own_RR n d' is the datum n / d, rounded. -/
section OwnDiv
open Jvm.FP.Core
def own_RR (n d : Nat) : Datum := roundRatio b64 false n d 0
theorem own_rr_fits {n d : Nat} (hd : 0 < d) : FP.Core.fits b64 (own_RR n d) := roundRatio_fits good_b64 false n hd 0
theorem own_i2d {a : Int32} (h : 0 ≤ a.toInt) : ∃ c q, val64 (FP.i2d a) = .fin false c q ∧ a.toInt.toNat * 2 ^ (-q).toNat = c * 2 ^ q.toNat := by
  have hb := int32_abs a
  obtain ⟨c, q, hfit, hv⟩ := natFit good_b64 wide_b64 false (n := a.toInt.natAbs) (Nat.le_trans hb (by decide))
  have e : val64 (FP.i2d a) = .fin false c q := by
    rw [show val64 (FP.i2d a) = _ from val64_i2d a]
    show roundRatio b64 (decide (a.toInt < 0)) a.toInt.natAbs 1 0 = _
    rw [show decide (a.toInt < 0) = false from decide_eq_false (by omega)]
    exact roundRatio_exact good_b64 (by decide) hfit hv
  refine ⟨c, q, e, ?_⟩
  rw [show (0 - q).toNat = (-q).toNat by omega, show (q - 0).toNat = q.toNat by omega, Nat.mul_one, show a.toInt.natAbs = a.toInt.toNat by omega] at hv
  exact hv
theorem own_quot {a b : Int32} (ha : 0 ≤ a.toInt) (hb : 0 < b.toInt) : val64 (FP.ddiv (FP.i2d a) (FP.i2d b)) = own_RR a.toInt.toNat b.toInt.toNat := by
  obtain ⟨c, q, e1, v1⟩ := own_i2d ha
  obtain ⟨d, r, e2, v2⟩ := own_i2d (a := b) (by omega)
  rw [show val64 (FP.ddiv (FP.i2d a) (FP.i2d b)) = _ from val64_ddiv _ _, e1, e2]
  have hn : b.toInt.toNat ≠ 0 := by omega
  generalize a.toInt.toNat = n at v1 ⊢
  generalize b.toInt.toNat = k at v2 hn ⊢
  have hd : d ≠ 0 := by
    rintro rfl
    rw [Nat.zero_mul] at v2
    have := Nat.mul_eq_zero.mp v2
    have := Nat.two_pow_pos (-r).toNat
    omega
  show (if d = 0 then _ else roundRatio b64 (false != false) c d (q - r)) = _
  rw [if_neg hd]
  refine roundRatio_congr (by omega) (by omega) ?_
  refine Nat.eq_of_mul_eq_mul_right (Nat.two_pow_pos (q.toNat + (-r).toNat)) ?_
  calc c * k * 2 ^ (q - r - 0).toNat * 2 ^ (q.toNat + (-r).toNat) = (c * 2 ^ q.toNat) * (k * 2 ^ (-r).toNat) * 2 ^ (q - r - 0).toNat := by rw [Nat.pow_add]; ac_rfl
    _ = (n * 2 ^ (-q).toNat) * (d * 2 ^ r.toNat) * 2 ^ (q - r - 0).toNat := by rw [← v1, ← v2]
    _ = n * d * 2 ^ ((-q).toNat + r.toNat + (q - r - 0).toNat) := by rw [Nat.pow_add, Nat.pow_add]; ac_rfl
    _ = n * d * 2 ^ (0 - (q - r)).toNat * 2 ^ (q.toNat + (-r).toNat) := by
      rw [show (-q).toNat + r.toNat + (q - r - 0).toNat = (0 - (q - r)).toNat + (q.toNat + (-r).toNat) by omega, Nat.pow_add _ (0 - (q - r)).toNat]; ac_rfl
theorem own_rr_same {n d m : Nat} (hd : 0 < d) (hm : 0 < m) : own_RR (n * m) (d * m) = own_RR n d := by
  refine roundRatio_congr (Nat.mul_pos hd hm) hd ?_
  show n * m * d * 1 = n * (d * m) * 1
  rw [Nat.mul_one, Nat.mul_one]; ac_rfl
def own_W : Nat := 2 ^ 1034
theorem own_W_pos : 0 < own_W := Nat.two_pow_pos 1034
/-- a point k / 2^40 of the format, its measure -/
theorem own_pt (k : Nat) (hk : k ≤ 2 ^ 53) : ∃ V, FP.Core.fits b64 V ∧ V ≠ .nan ∧ zmag b64 V = k * own_W := by
  have w : own_Sc 40 k (.fin false k (-40)) := by
    show signed false (k * 2 ^ (-40 + (40 : Nat) : Int).toNat) = (k : Int) * ((2 ^ (-(-40 + (40 : Nat) : Int)).toNat : Nat) : Int)
    rw [show (-40 + (40 : Nat) : Int).toNat = 0 from rfl, show (-(-40 + (40 : Nat) : Int)).toNat = 0 from rfl]
    simp [signed]
  have r := own_sc_round (by decide) (i := k) (by omega) w
  have f := round_fits good_b64 (.fin false k (-40))
  generalize round b64 (.fin false k (-40)) = V at r f
  cases V with
  | nan => exact r.elim
  | inf => exact r.elim
  | fin s c q =>
    refine ⟨_, f, by simp, ?_⟩
    have h := whole_natAbs (show Whole (k : Int) (.fin s c (q + (40 : Nat))) from r)
    have hq : -1074 ≤ q := f.2.1
    show c * 2 ^ (q - -1074).toNat = k * own_W
    unfold own_W
    rw [Int.natAbs_natCast] at h
    by_cases g : 0 ≤ q + 40
    · rw [show (-(q + ((40 : Nat) : Int))).toNat = 0 by omega, Nat.pow_zero, Nat.mul_one] at h
      rw [← h, show (q - -1074).toNat = (q + ((40 : Nat) : Int)).toNat + 1034 by omega, Nat.pow_add, Nat.mul_assoc]
    · rw [show (q + ((40 : Nat) : Int)).toNat = 0 by omega, Nat.pow_zero, Nat.mul_one] at h
      rw [h, Nat.mul_assoc, ← Nat.pow_add, show (-(q + ((40 : Nat) : Int))).toNat + (q - -1074).toNat = 1034 by omega]
theorem own_split (y : Nat) : y * 2 ^ 1074 = y * 2 ^ 40 * own_W := by unfold own_W; rw [Nat.mul_assoc, ← Nat.pow_add]
theorem own_below {n d k : Nat} (hd : 0 < d) (hk : k ≤ 2 ^ 53) (h : n * 2 ^ 40 ≤ k * d) : zmag b64 (own_RR n d) ≤ k * own_W := by
  obtain ⟨V, f, nn, z⟩ := own_pt k hk
  rw [← z]
  refine zmag_roundRatio_le good_b64 hd f nn (e0 := -1074) (by decide) (by decide) ?_
  rw [z, show (b64.qmin - -1074).toNat = 0 by decide, Nat.pow_zero, Nat.mul_one]
  show n * 2 ^ (0 - -1074 : Int).toNat ≤ _
  rw [show (0 - -1074 : Int).toNat = 1074 from rfl, own_split, Nat.mul_right_comm k own_W d]
  exact Nat.mul_le_mul_right _ h
theorem own_above {n d k : Nat} (hd : 0 < d) (hk : k ≤ 2 ^ 53) (h : k * d ≤ n * 2 ^ 40) : k * own_W ≤ zmag b64 (own_RR n d) := by
  obtain ⟨V, f, nn, z⟩ := own_pt k hk
  rw [← z]
  refine zmag_roundRatio_ge good_b64 hd f (e0 := -1074) (by decide) (by decide) ?_
  rw [z, show (b64.qmin - -1074).toNat = 0 by decide, Nat.pow_zero, Nat.mul_one]
  show _ ≤ n * 2 ^ (0 - -1074 : Int).toNat
  rw [show (0 - -1074 : Int).toNat = 1074 from rfl, own_split, Nat.mul_right_comm k own_W d]
  exact Nat.mul_le_mul_right _ h
theorem own_arith {n d p q M : Nat} (hd : 0 < d) (hs : 2 * (d * q) ≤ M) (h : n * q < p * d) : n * M ≤ (n * M / d + 1) * d ∧ (n * M / d + 1 + 1) * q ≤ p * M := by
  constructor
  · have := Nat.div_add_mod (n * M) d
    have := Nat.mod_lt (n * M) hd
    rw [Nat.add_mul, Nat.mul_comm (n * M / d) d]; omega
  · refine Nat.le_of_mul_le_mul_right (c := d) ?_ hd
    have e1 : n * M / d * d ≤ n * M := Nat.div_mul_le_self _ _
    have e2 : n * M / d * d * q ≤ n * M * q := Nat.mul_le_mul_right _ e1
    have e3 : (n * q + 1) * M ≤ p * d * M := Nat.mul_le_mul_right _ h
    have e4 : (n * M / d + 1 + 1) * q * d = n * M / d * d * q + 2 * (d * q) := by
      rw [Nat.add_assoc, Nat.add_mul, Nat.add_mul]; congr 1 <;> ac_rfl
    have e5 : n * M * q = n * q * M := by ac_rfl
    have e6 : p * M * d = p * d * M := by ac_rfl
    rw [e4, e6]; rw [e5] at e2; rw [Nat.add_mul] at e3
    omega
/-- two quotients with a gap of at least 2 / 2^40 stay apart when they are rounded -/
theorem own_gap {n d p q : Nat} (hd : 0 < d) (hq : 0 < q) (hpq : p ≤ q) (hs : d * q ≤ 2 ^ 39) (h : n * q < p * d) : zmag b64 (own_RR n d) < zmag b64 (own_RR p q) := by
  obtain ⟨c1, c2⟩ := own_arith (M := 2 ^ 40) hd (by omega) h
  have c3 : n * 2 ^ 40 / d + 1 + 1 ≤ 2 ^ 40 := by
    refine Nat.le_of_mul_le_mul_right (c := q) (Nat.le_trans c2 ?_) hq
    rw [Nat.mul_comm (2 ^ 40) q]; exact Nat.mul_le_mul_right _ hpq
  generalize n * 2 ^ 40 / d + 1 = k at c1 c2 c3
  have a1 := own_below hd (by omega) c1
  have a2 := own_above hq (by omega) c2
  refine Nat.lt_of_le_of_lt a1 (Nat.lt_of_lt_of_le ?_ a2)
  exact Nat.mul_lt_mul_of_pos_right (Nat.lt_succ_self k) own_W_pos
theorem own_cmpn {a b c d : Nat} (h1 : a < b ↔ c < d) (h2 : a = b ↔ c = d) : compare (a : Int) (b : Int) = compare (c : Int) (d : Int) := by
  simp only [compare, compareOfLessAndEq]
  by_cases p : a < b
  · have p' := h1.mp p
    rw [if_pos (show (a : Int) < b by omega), if_pos (show (c : Int) < d by omega)]
  · have p' : ¬ c < d := fun z => p (h1.mpr z)
    rw [if_neg (show ¬ (a : Int) < b by omega), if_neg (show ¬ (c : Int) < d by omega)]
    by_cases g : a = b
    · have g' := h2.mp g
      rw [if_pos (show (a : Int) = b by omega), if_pos (show (c : Int) = d by omega)]
    · have g' : ¬ c = d := fun z => g (h2.mpr z)
      rw [if_neg (show ¬ (a : Int) = b by omega), if_neg (show ¬ (c : Int) = d by omega)]
theorem own_ord {n d p q : Nat} (hd : 0 < d) (hq : 0 < q) (hnd : n ≤ d) (hpq : p ≤ q) (hs : d * q ≤ 2 ^ 39) : order (own_RR n d) (own_RR p q) = some (compare ((n * q : Nat) : Int) ((p * d : Nat) : Int)) := by
  have z : ∀ n d, zval b64 (own_RR n d) = (zmag b64 (own_RR n d) : Int) := fun n d => by
    show signed (sgn (roundRatio b64 false n d 0)) _ = _
    rw [sgn_roundRatio]; rfl
  rw [order_zval good_b64 (own_rr_fits hd) (own_rr_fits hq) (roundRatio_ne_nan b64 false n d 0) (roundRatio_ne_nan b64 false p q 0), z, z]
  congr 1
  have l1 : n * q < p * d → zmag b64 (own_RR n d) < zmag b64 (own_RR p q) := own_gap hd hq hpq hs
  have l2 : p * d < n * q → zmag b64 (own_RR p q) < zmag b64 (own_RR n d) := own_gap hq hd hnd (by rw [Nat.mul_comm]; exact hs)
  have l3 : n * q = p * d → zmag b64 (own_RR n d) = zmag b64 (own_RR p q) := fun g => congrArg (zmag b64) (roundRatio_congr hd hq (by show n * q * 1 = p * d * 1; rw [g]))
  refine own_cmpn ⟨fun x => ?_, l1⟩ ⟨fun x => ?_, l3⟩
  · refine Nat.lt_of_not_le fun y => ?_
    rcases Nat.lt_or_eq_of_le y with y | y
    · have := l2 y; omega
    · have := l3 y.symm; omega
  · rcases Nat.lt_trichotomy (n * q) (p * d) with y | y | y
    · have := l1 y; omega
    · exact y
    · have := l2 y; omega
theorem own_rr0 : val64 FP.dconst0 = own_RR 0 1 := by decide +kernel
theorem own_rr1 : val64 FP.dconst1 = own_RR 1 1 := by decide +kernel
/-- by a power of two: exact, and exact again when it is multiplied back -/
theorem own_back {a b : Int32} {t : Nat} (ht : t ≤ 30) (ha : 0 ≤ a.toInt) (hb : b.toInt = (2 ^ t : Nat)) : FP.dcmp (FP.dmul (FP.ddiv (FP.i2d a) (FP.i2d b)) (FP.i2d b)) (FP.i2d a) = some .eq := by
  have hp := Nat.two_pow_pos t
  have v := own_quot ha (b := b) (by omega)
  have ia := i2d_int a
  have ib := i2d_int b
  have na := int32_abs a
  have w : own_Sc t a.toInt (.fin false a.toInt.toNat (-t)) := by
    show signed false (a.toInt.toNat * 2 ^ (-(t : Int) + t).toNat) = a.toInt * ((2 ^ (-(-(t : Int) + t)).toNat : Nat) : Int)
    rw [show (-(t : Int) + t).toNat = 0 by omega, show (-(-(t : Int) + t)).toNat = 0 by omega]
    rw [Nat.pow_zero, Nat.mul_one]; show ((a.toInt.toNat : Nat) : Int) = a.toInt * 1; omega
  have r := own_sc_round (by omega) (i := a.toInt) (Nat.le_trans na (by decide)) w
  have e : own_RR a.toInt.toNat b.toInt.toNat = round b64 (.fin false a.toInt.toNat (-t)) := by
    refine roundRatio_congr (by omega) (by decide) ?_
    rw [hb, show ((2 ^ t : Nat) : Int).toNat = 2 ^ t from Int.toNat_natCast _, show (0 - -(t : Int)).toNat = t by omega, show (-(t : Int) - 0).toNat = 0 by omega]
    rw [Nat.pow_zero, Nat.mul_one, Nat.mul_one]
  have x : Whole a.toInt (exactProduct (val64 (FP.ddiv (FP.i2d a) (FP.i2d b))) (val64 (FP.i2d b))) := by
    rw [v, e]
    unfold DInt at ib
    rw [hb] at ib
    generalize round b64 (.fin false a.toInt.toNat (-t)) = X at r
    rw [show val64 (FP.Core.i2d b) = val64 (FP.i2d b) from rfl] at ib
    generalize val64 (FP.i2d b) = Y at ib
    cases X with
    | nan => exact r.elim
    | inf => exact r.elim
    | fin s c q =>
    cases Y with
    | nan => exact ib.elim
    | inf => exact ib.elim
    | fin s' c' q' =>
      have p := whole_product (show Whole a.toInt (.fin s c (q + t)) from r) ib
      have p' : signed (s != s') (c * c' * 2 ^ (q + t + q').toNat) = a.toInt * ((2 ^ t : Nat) : Int) * ((2 ^ (-(q + t + q')).toNat : Nat) : Int) := p
      show signed (s != s') (c * c' * 2 ^ (q + q').toNat) = a.toInt * ((2 ^ (-(q + q')).toNat : Nat) : Int)
      have nz : ((2 ^ ((q + t + q').toNat + (-(q + q')).toNat) : Nat) : Int) ≠ 0 := by have := Nat.two_pow_pos ((q + t + q').toNat + (-(q + q')).toNat); omega
      have nz2 : ((2 ^ (t + (-(q + t + q')).toNat) : Nat) : Int) ≠ 0 := by have := Nat.two_pow_pos (t + (-(q + t + q')).toNat); omega
      refine Int.eq_of_mul_eq_mul_right nz2 ?_
      rw [← signed_mul, Nat.mul_assoc, ← Nat.pow_add, show (q + q').toNat + (t + (-(q + t + q')).toNat) = (q + t + q').toNat + (-(q + q')).toNat by omega, Nat.pow_add, ← Nat.mul_assoc, signed_mul, p']
      rw [Nat.pow_add, Int.natCast_mul]; ac_rfl
  have y : DInt a.toInt (FP.dmul (FP.ddiv (FP.i2d a) (FP.i2d b)) (FP.i2d b)) := by
    unfold DInt
    rw [show val64 (FP.dmul (FP.ddiv (FP.i2d a) (FP.i2d b)) (FP.i2d b)) = _ from val64_dmul _ _]
    exact whole_round good_b64 wide_b64 (Nat.le_trans na (by decide)) x
  rw [show FP.dcmp (FP.dmul (FP.ddiv (FP.i2d a) (FP.i2d b)) (FP.i2d b)) (FP.i2d a) = _ from dcmp_int y ia]
  rw [compare_self_int]
end OwnDiv
section OwnSim
open Jvm.FP.Core
theorem own_sm2 (x y : Int) (h0 : 0 ≤ x) (h1 : 0 ≤ y) (A B : Int) (ha : x ≤ A) (hb : y ≤ B) : 0 ≤ x * y ∧ x * y ≤ A * B :=
  ⟨Int.mul_nonneg h0 h1, Int.le_trans (Int.mul_le_mul_of_nonneg_right ha h1) (Int.mul_le_mul_of_nonneg_left hb (Int.le_trans h0 ha))⟩
/-- what 'value' answers -/
def own_v (a b c : Int32) : UInt64 := if (0 : Int32) < b then FP.ddiv (FP.i2d c) (FP.i2d b) else if a = (0 : Int32) then FP.dconst1 else FP.dconst0
theorem own_lt0 {b : Int32} : (0 : Int32) < b ↔ 0 < b.toInt := by rw [Int32.lt_iff_toInt_lt]; exact Iff.rfl
theorem own_vpos {a b c : Int32} (h : 0 < b.toInt) : own_v a b c = FP.ddiv (FP.i2d c) (FP.i2d b) := by unfold own_v; rw [if_pos (own_lt0.mpr h)]
theorem own_v1 {a b c : Int32} (h : b = (0 : Int32)) (ha : a = (0 : Int32)) : own_v a b c = FP.dconst1 := by subst h; subst ha; rfl
theorem own_v0 {a b c : Int32} (h : b = (0 : Int32)) (ha : ¬ a = (0 : Int32)) : own_v a b c = FP.dconst0 := by subst h; unfold own_v; rw [if_neg (by decide), if_neg ha]
theorem own_vok {a b : Int32} (ha : 0 ≤ a.toInt) (hb : 0 < b.toInt) : Jvm.Free.Fl.NoNaN64 (FP.ddiv (FP.i2d a) (FP.i2d b)) := by
  refine (Jvm.Free.Fl.dcmp_some (o := .eq) (dcmp_self (a := FP.ddiv (FP.i2d a) (FP.i2d b)) ?_)).1
  rw [own_quot ha hb]; exact roundRatio_ne_nan b64 false _ _ 0
theorem own_dc {a b c d : Int32} (ha : 0 ≤ a.toInt ∧ a.toInt ≤ b.toInt) (hb : 0 < b.toInt) (hc : 0 ≤ c.toInt ∧ c.toInt ≤ d.toInt) (hd : 0 < d.toInt) (hs : b.toInt * d.toInt ≤ 549755813888) :
    FP.dcmp (FP.ddiv (FP.i2d a) (FP.i2d b)) (FP.ddiv (FP.i2d c) (FP.i2d d)) = some (compare (a.toInt * d.toInt) (c.toInt * b.toInt)) := by
  show order (val64 (FP.ddiv (FP.i2d a) (FP.i2d b))) (val64 (FP.ddiv (FP.i2d c) (FP.i2d d))) = _
  rw [own_quot ha.1 hb, own_quot hc.1 hd]
  generalize a.toInt = A at *
  generalize b.toInt = B at *
  generalize c.toInt = X at *
  generalize d.toInt = D at *
  obtain ⟨A, rfl⟩ := Int.eq_ofNat_of_zero_le ha.1
  obtain ⟨B, rfl⟩ := Int.eq_ofNat_of_zero_le (Int.le_of_lt hb)
  obtain ⟨X, rfl⟩ := Int.eq_ofNat_of_zero_le hc.1
  obtain ⟨D, rfl⟩ := Int.eq_ofNat_of_zero_le (Int.le_of_lt hd)
  simp only [Int.toNat_natCast]
  rw [← Int.natCast_mul] at hs
  rw [own_ord (by omega) (by omega) (by omega) (by omega) (by omega), Int.natCast_mul, Int.natCast_mul]
theorem own_k0 : FP.dconst0 = FP.ddiv (FP.i2d 0) (FP.i2d 1) := by decide +kernel
theorem own_k1 : FP.dconst1 = FP.ddiv (FP.i2d 1) (FP.i2d 1) := by decide +kernel
theorem own_cl {a b : Int} : cmpValue (some (compare a b)) .l = (0 : Int32) ↔ a = b := by
  simp only [compare, compareOfLessAndEq]
  by_cases p : a < b
  · rw [if_pos p]; exact ⟨fun h => absurd h (by decide), fun h => absurd p (by omega)⟩
  · rw [if_neg p]
    by_cases q : a = b
    · rw [if_pos q]; exact ⟨fun _ => q, fun _ => rfl⟩
    · rw [if_neg q]; exact ⟨fun h => absurd h (by decide), fun h => absurd h q⟩
theorem own_cgt {a b : Int} {o : CmpOp} : (0 : Int32) < cmpValue (some (compare a b)) o ↔ b < a := by
  simp only [compare, compareOfLessAndEq]
  by_cases p : a < b
  · rw [if_pos p]; exact ⟨fun h => absurd h (by cases o <;> decide), fun h => absurd p (by omega)⟩
  · rw [if_neg p]
    by_cases q : a = b
    · rw [if_pos q]; exact ⟨fun h => absurd h (by cases o <;> decide), fun h => absurd h (by omega)⟩
    · rw [if_neg q]; exact ⟨fun _ => by omega, fun _ => by cases o <;> decide⟩
theorem own_clt {a b : Int} {o : CmpOp} : cmpValue (some (compare a b)) o < (0 : Int32) ↔ a < b := by
  simp only [compare, compareOfLessAndEq]
  by_cases p : a < b
  · rw [if_pos p]; exact ⟨fun _ => p, fun _ => by cases o <;> decide⟩
  · rw [if_neg p]
    by_cases q : a = b
    · rw [if_pos q]; exact ⟨fun h => absurd h (by cases o <;> decide), fun h => absurd h p⟩
    · rw [if_neg q]; exact ⟨fun h => absurd h (by cases o <;> decide), fun h => absurd h p⟩
theorem own_eq0 {x y : Int32} : x = y ↔ x.toInt = y.toInt := Int32.toInt_inj.symm
section
variable {b c : Int32} {vv : UInt64} (hv : vv = FP.ddiv (FP.i2d c) (FP.i2d b)) (hb : 0 < b.toInt) (hc : 0 ≤ c.toInt ∧ c.toInt ≤ b.toInt)
theorem own_r32 (x : Int32) : x.toInt ≤ 2147483647 := by have := rng32 x; omega
theorem own_d0 (hv : vv = FP.ddiv (FP.i2d c) (FP.i2d b)) (hb : 0 < b.toInt) (hc : 0 ≤ c.toInt ∧ c.toInt ≤ b.toInt) : FP.dcmp vv FP.dconst0 = some (compare c.toInt 0) := by
  have r := own_r32 b
  rw [hv, own_k0, own_dc hc hb (c := 0) (d := 1) (by decide) (by decide) (by show b.toInt * 1 ≤ _; omega)]
  show some (compare (c.toInt * 1) (0 * b.toInt)) = _
  rw [Int.mul_one, Int.zero_mul]
theorem own_0d (hv : vv = FP.ddiv (FP.i2d c) (FP.i2d b)) (hb : 0 < b.toInt) (hc : 0 ≤ c.toInt ∧ c.toInt ≤ b.toInt) : FP.dcmp FP.dconst0 vv = some (compare 0 c.toInt) := by
  have r := own_r32 b
  rw [hv, own_k0, own_dc (a := 0) (b := 1) (by decide) (by decide) hc hb (by show 1 * b.toInt ≤ _; omega)]
  show some (compare (0 * b.toInt) (c.toInt * 1)) = _
  rw [Int.mul_one, Int.zero_mul]
theorem own_d1 (hv : vv = FP.ddiv (FP.i2d c) (FP.i2d b)) (hb : 0 < b.toInt) (hc : 0 ≤ c.toInt ∧ c.toInt ≤ b.toInt) : FP.dcmp vv FP.dconst1 = some (compare c.toInt b.toInt) := by
  have r := own_r32 b
  rw [hv, own_k1, own_dc hc hb (c := 1) (d := 1) (by decide) (by decide) (by show b.toInt * 1 ≤ _; omega)]
  show some (compare (c.toInt * 1) (1 * b.toInt)) = _
  rw [Int.mul_one, Int.one_mul]
theorem own_h107 (hv : vv = FP.ddiv (FP.i2d c) (FP.i2d b)) (hb : 0 < b.toInt) (hc : 0 ≤ c.toInt ∧ c.toInt ≤ b.toInt) : ¬ (0 : Int32) < cmpValue (FP.dcmp FP.dconst0 vv) .g := by
  rw [own_0d hv hb hc, own_cgt]; omega
theorem own_h114 (hv : vv = FP.ddiv (FP.i2d c) (FP.i2d b)) (hb : 0 < b.toInt) (hc : 0 ≤ c.toInt ∧ c.toInt ≤ b.toInt) : ¬ (0 : Int32) < cmpValue (FP.dcmp vv FP.dconst1) .g := by
  rw [own_d1 hv hb hc, own_cgt]; omega
theorem own_h123 (hv : vv = FP.ddiv (FP.i2d c) (FP.i2d b)) (hb : 0 < b.toInt) (hc : 0 ≤ c.toInt ∧ c.toInt ≤ b.toInt) : cmpValue (FP.dcmp vv FP.dconst0) .l = (0 : Int32) ↔ c = (0 : Int32) := by
  rw [own_d0 hv hb hc, own_cl, own_eq0]; exact Iff.rfl
theorem own_h150 (hv : vv = FP.ddiv (FP.i2d c) (FP.i2d b)) (hb : 0 < b.toInt) (hc : 0 ≤ c.toInt ∧ c.toInt ≤ b.toInt) : cmpValue (FP.dcmp vv FP.dconst1) .l = (0 : Int32) ↔ c = b := by
  rw [own_d1 hv hb hc, own_cl, own_eq0]
end
/-- a positive int that has no bit in common with its predecessor is a power of two -/
theorem own_pow {b : Int32} (hb : 0 < b.toInt) (h : (b &&& (b - (1 : Int32))) = (0 : Int32)) : ∃ t, t ≤ 30 ∧ b.toInt = (2 ^ t : Nat) := by
  have r := own_r32 b
  have hn : b.toInt = (b.toBitVec.toNat : Int) := by
    have : b.toInt = b.toBitVec.toInt := rfl
    rw [this, BitVec.toInt_eq_toNat_cond]; rw [this, BitVec.toInt_eq_toNat_cond] at hb r
    have := b.toBitVec.isLt
    split at hb <;> rename_i g
    · rw [if_pos g]
    · omega
  have h2 : b.toBitVec &&& (b.toBitVec - 1#32) = 0#32 := by
    have := congrArg Int32.toBitVec h
    simpa using this
  have h3 := congrArg BitVec.toNat h2
  rw [BitVec.toNat_and, BitVec.toNat_sub] at h3
  generalize b.toBitVec.toNat = m at *
  have h4 : (2 ^ 32 - (1#32).toNat + m) % 2 ^ 32 = m - 1 := by
    rw [show (1#32).toNat = 1 from rfl]; omega
  rw [h4] at h3
  have m0 : m ≠ 0 := by omega
  have l1 := Nat.log2_self_le m0
  have l2 : m < 2 ^ (m.log2 + 1) := Nat.lt_log2_self
  refine ⟨m.log2, ?_, ?_⟩
  · have l3 : m.log2 < 31 := (Nat.pow_lt_pow_iff_right (by decide : 1 < 2)).mp (Nat.lt_of_le_of_lt l1 (by omega))
    omega
  · rw [hn]
    congr 1
    refine Nat.le_antisymm (Nat.le_of_not_lt fun g => ?_) l1
    have b1 : m.testBit m.log2 = true := Nat.testBit_of_two_pow_le_and_two_pow_add_one_gt l1 l2
    have b2 : (m - 1).testBit m.log2 = true := Nat.testBit_of_two_pow_le_and_two_pow_add_one_gt (by omega) (by omega)
    have b3 := Nat.testBit_and m (m - 1) m.log2
    rw [h3, b1, b2] at b3
    simp at b3
theorem own_h195 {b c : Int32} {vv : UInt64} (hv : vv = FP.ddiv (FP.i2d c) (FP.i2d b)) (hb : 0 < b.toInt) (hc : 0 ≤ c.toInt ∧ c.toInt ≤ b.toInt) (h : (b &&& (b - (1 : Int32))) = (0 : Int32)) : FP.dcmp (FP.dmul vv (FP.i2d b)) (FP.i2d c) = some .eq := by
  obtain ⟨t, ht, e⟩ := own_pow hb h
  rw [hv]; exact own_back ht hc.1 e
theorem own_m31 (q : Int32) : 0 ≤ (q &&& (2147483647 : Int32)).toInt := by
  rw [c_mask q 2147483647 31 (by decide) (by decide)]; exact Int.emod_nonneg _ (by decide)
theorem own_one64 (b : Int32) : (b.toInt64 + (1 : Int64)).toInt = b.toInt + 1 := by
  have := rng32 b
  rw [Int64.toInt_add, Int32.toInt_toInt64, show (1 : Int64).toInt = 1 from rfl]; exact Int.bmod_eq_of_le (by omega) (by omega)
theorem own_nz64 (b : Int32) (h : 0 ≤ b.toInt) : (b.toInt64 + (1 : Int64)) ≠ 0 := fun e => by
  have := own_one64 b; rw [e] at this; have z : (0 : Int64).toInt = 0 := rfl; omega
theorem own_hc1 (c b : Int32) (h : 0 ≤ b.toInt) : 0 ≤ ((c.toInt64 &&& (2147483647 : Int64)) % (b.toInt64 + (1 : Int64))).toInt32.toInt ∧ ((c.toInt64 &&& (2147483647 : Int64)) % (b.toInt64 + (1 : Int64))).toInt32.toInt ≤ b.toInt := by
  have r := rng32 b
  have e := c_maskL c.toInt64 2147483647 31 (by decide) (by decide)
  have n0 : 0 ≤ (c.toInt64 &&& (2147483647 : Int64)).toInt := by rw [e]; exact Int.emod_nonneg _ (by decide)
  have d := own_one64 b
  have x : ((c.toInt64 &&& (2147483647 : Int64)) % (b.toInt64 + (1 : Int64))).toInt = (c.toInt64 &&& (2147483647 : Int64)).toInt % (b.toInt + 1) := by
    rw [Int64.toInt_mod, d, Int.tmod_eq_emod_of_nonneg n0]
  have l1 := Int.emod_nonneg (c.toInt64 &&& (2147483647 : Int64)).toInt (show b.toInt + 1 ≠ 0 by omega)
  have l2 := Int.emod_lt_of_pos (c.toInt64 &&& (2147483647 : Int64)).toInt (show 0 < b.toInt + 1 by omega)
  rw [← x] at l1 l2
  generalize (c.toInt64 &&& (2147483647 : Int64)) % (b.toInt64 + (1 : Int64)) = z at l1 l2
  have : z.toInt32.toInt = z.toInt := by rw [Int64.toInt_toInt32]; exact Int.bmod_eq_of_le (by omega) (by omega)
  rw [this]; omega
theorem own_hc0 {b : Int32} (h : 0 ≤ b.toInt) : 0 ≤ (0 : Int32).toInt ∧ (0 : Int32).toInt ≤ b.toInt := ⟨by decide, h⟩
theorem own_bpos {b : Int32} (h : 0 ≤ b.toInt) (n : ¬ b = (0 : Int32)) : 0 < b.toInt := by
  rw [own_eq0, show (0 : Int32).toInt = 0 from rfl] at n; omega
theorem own_q16 (k : Int32) : 1 ≤ ((k &&& (15 : Int32)) + (1 : Int32)).toInt ∧ ((k &&& (15 : Int32)) + (1 : Int32)).toInt ≤ 16 := by
  have e := c_mask k 15 4 (by decide) (by decide)
  have l1 := Int.emod_nonneg k.toInt (show ((2 ^ 4 : Nat) : Int) ≠ 0 by decide)
  have l2 := Int.emod_lt_of_pos k.toInt (show (0 : Int) < ((2 ^ 4 : Nat) : Int) by decide)
  have a := c_iadd (k &&& (15 : Int32)) 1
  have r := rng32 ((k &&& (15 : Int32)) + 1)
  rw [show (1 : Int32).toInt = 1 from rfl, e] at a
  omega
theorem own_q1 {q : Int32} (h : 1 ≤ q.toInt ∧ q.toInt ≤ 16) : (q + (1 : Int32)).toInt = q.toInt + 1 := by
  have a := c_iadd q 1
  have r := rng32 (q + 1)
  rw [show (1 : Int32).toInt = 1 from rfl] at a
  omega
theorem own_qnz {q : Int32} (h : 1 ≤ q.toInt ∧ q.toInt ≤ 16) : (q + (1 : Int32)) ≠ 0 := fun e => by
  have := own_q1 h; rw [e] at this; have z : (0 : Int32).toInt = 0 := rfl; omega
theorem own_pq (x : Int32) {q : Int32} (h : 1 ≤ q.toInt ∧ q.toInt ≤ 16) : 0 ≤ ((x &&& (31 : Int32)) % (q + (1 : Int32))).toInt ∧ ((x &&& (31 : Int32)) % (q + (1 : Int32))).toInt ≤ q.toInt := by
  have e := c_mask x 31 5 (by decide) (by decide)
  have n0 : 0 ≤ (x &&& (31 : Int32)).toInt := by rw [e]; exact Int.emod_nonneg _ (by decide)
  have d := own_q1 h
  rw [Int32.toInt_mod, d, Int.tmod_eq_emod_of_nonneg n0]
  have l1 := Int.emod_nonneg (x &&& (31 : Int32)).toInt (show q.toInt + 1 ≠ 0 by omega)
  have l2 := Int.emod_lt_of_pos (x &&& (31 : Int32)).toInt (show 0 < q.toInt + 1 by omega)
  omega
theorem own_l64 {x y : Int32} : (x.toInt64 * y.toInt64).toInt = x.toInt * y.toInt := by
  have rx := rng32 x
  have ry := rng32 y
  have n : (x.toInt * y.toInt).natAbs ≤ 2147483648 * 2147483648 := by rw [Int.natAbs_mul]; exact Nat.mul_le_mul (by omega) (by omega)
  rw [Int64.toInt_mul, Int32.toInt_toInt64, Int32.toInt_toInt64]
  generalize x.toInt * y.toInt = z at n ⊢
  exact Int.bmod_eq_of_le (by omega) (by omega)
theorem own_dr {b c p q : Int32} {vv rv : UInt64} (hv : vv = FP.ddiv (FP.i2d c) (FP.i2d b)) (hb : 0 < b.toInt) (hc : 0 ≤ c.toInt ∧ c.toInt ≤ b.toInt) (hr : rv = FP.ddiv (FP.i2d p) (FP.i2d q)) (hq : 1 ≤ q.toInt ∧ q.toInt ≤ 16) (hp : 0 ≤ p.toInt ∧ p.toInt ≤ q.toInt) :
    FP.dcmp vv rv = some (compare (c.toInt64 * q.toInt64).toInt (p.toInt64 * b.toInt64).toInt) := by
  have r := own_r32 b
  rw [hv, hr, own_dc hc hb hp (by omega) (Int.le_trans (own_sm2 b.toInt q.toInt (by omega) (by omega) 2147483647 16 (by omega) (by omega)).2 (by decide)), own_l64, own_l64]
theorem own_h269 {b c p q : Int32} {vv rv : UInt64} (hv : vv = FP.ddiv (FP.i2d c) (FP.i2d b)) (hb : 0 < b.toInt) (hc : 0 ≤ c.toInt ∧ c.toInt ≤ b.toInt) (hr : rv = FP.ddiv (FP.i2d p) (FP.i2d q)) (hq : 1 ≤ q.toInt ∧ q.toInt ≤ 16) (hp : 0 ≤ p.toInt ∧ p.toInt ≤ q.toInt) (h : (c.toInt64 * q.toInt64) < (p.toInt64 * b.toInt64)) : cmpValue (FP.dcmp vv rv) .g < (0 : Int32) := by
  rw [own_dr hv hb hc hr hq hp, own_clt]; exact Int64.lt_iff_toInt_lt.mp h
theorem own_h287 {b c p q : Int32} {vv rv : UInt64} (hv : vv = FP.ddiv (FP.i2d c) (FP.i2d b)) (hb : 0 < b.toInt) (hc : 0 ≤ c.toInt ∧ c.toInt ≤ b.toInt) (hr : rv = FP.ddiv (FP.i2d p) (FP.i2d q)) (hq : 1 ≤ q.toInt ∧ q.toInt ≤ 16) (hp : 0 ≤ p.toInt ∧ p.toInt ≤ q.toInt) (h : (c.toInt64 * q.toInt64) = (p.toInt64 * b.toInt64)) : cmpValue (FP.dcmp vv rv) .l = (0 : Int32) := by
  rw [own_dr hv hb hc hr hq hp, own_cl, h]
theorem own_h305 {b c p q : Int32} {vv rv : UInt64} (hv : vv = FP.ddiv (FP.i2d c) (FP.i2d b)) (hb : 0 < b.toInt) (hc : 0 ≤ c.toInt ∧ c.toInt ≤ b.toInt) (hr : rv = FP.ddiv (FP.i2d p) (FP.i2d q)) (hq : 1 ≤ q.toInt ∧ q.toInt ≤ 16) (hp : 0 ≤ p.toInt ∧ p.toInt ≤ q.toInt) (h : (p.toInt64 * b.toInt64) < (c.toInt64 * q.toInt64)) : (0 : Int32) < cmpValue (FP.dcmp vv rv) .l := by
  rw [own_dr hv hb hc hr hq hp, own_cgt]; exact Int64.lt_iff_toInt_lt.mp h
theorem own_ltne {x y : Int64} (h : x < y) : ¬ x = y := by rintro rfl; exact Int64.lt_irrefl h
theorem own_ltas {x y : Int64} (h : x < y) : ¬ y < x := by rw [Int64.lt_iff_toInt_lt] at *; omega
theorem own_eqnl {x y : Int64} (h : x = y) : ¬ y < x := by subst h; exact Int64.lt_irrefl
theorem own_gt3 {x y : Int64} (h : ¬ x < y) (g : ¬ x = y) : y < x := by rw [Int64.lt_iff_toInt_lt] at *; rw [← Int64.toInt_inj] at g; omega
theorem own_m4 (d : Int32) : 1 ≤ ((d &&& (3 : Int32)) + (1 : Int32)).toInt ∧ ((d &&& (3 : Int32)) + (1 : Int32)).toInt ≤ 4 := by
  have e := c_mask d 3 2 (by decide) (by decide)
  have l1 := Int.emod_nonneg d.toInt (show ((2 ^ 2 : Nat) : Int) ≠ 0 by decide)
  have l2 := Int.emod_lt_of_pos d.toInt (show (0 : Int) < ((2 ^ 2 : Nat) : Int) by decide)
  have a := c_iadd (d &&& (3 : Int32)) 1
  have r := rng32 ((d &&& (3 : Int32)) + 1)
  rw [show (1 : Int32).toInt = 1 from rfl, e] at a
  omega
theorem own_mnz {m : Int32} (h : 1 ≤ m.toInt ∧ m.toInt ≤ 4) : m ≠ 0 := by rintro rfl; have z : (0 : Int32).toInt = 0 := rfl; omega
theorem own_mx {b c m : Int32} (hc : 0 ≤ c.toInt ∧ c.toInt ≤ b.toInt) (hm : 1 ≤ m.toInt ∧ m.toInt ≤ 4) (h : ¬ ((2147483647 : Int32) / m) < b) : (b * m).toInt = b.toInt * m.toInt ∧ (c * m).toInt = c.toInt * m.toInt := by
  have hd := (c_idiv (2147483647 : Int32) m m.toInt rfl (by rintro rfl; have z : (-1 : Int32).toInt = -1 := rfl; omega)).1 (by decide)
  rw [show (2147483647 : Int32).toInt = 2147483647 from rfl] at hd
  rw [Int32.lt_iff_toInt_lt, hd] at h
  have b1 : b.toInt * m.toInt ≤ 2147483647 := by
    have x1 : b.toInt * m.toInt ≤ 2147483647 / m.toInt * m.toInt := Int.mul_le_mul_of_nonneg_right (by omega) (by omega)
    exact Int.le_trans x1 (Int.ediv_mul_le _ (by omega))
  have c1 : c.toInt * m.toInt ≤ b.toInt * m.toInt := Int.mul_le_mul_of_nonneg_right hc.2 (by omega)
  have c0 : 0 ≤ c.toInt * m.toInt := Int.mul_nonneg hc.1 (by omega)
  have e1 := c_imul b m
  have e2 := c_imul c m
  have r1 := rng32 (b * m)
  have r2 := rng32 (c * m)
  generalize b.toInt * m.toInt = x at *
  generalize c.toInt * m.toInt = y at *
  omega
theorem own_mc {b c m : Int32} (hc : 0 ≤ c.toInt ∧ c.toInt ≤ b.toInt) (hm : 1 ≤ m.toInt ∧ m.toInt ≤ 4) (h : ¬ ((2147483647 : Int32) / m) < b) : 0 ≤ (c * m).toInt := by
  rw [(own_mx hc hm h).2]; exact Int.mul_nonneg hc.1 (by omega)
theorem own_mb {b c m : Int32} (hb : 0 < b.toInt) (hc : 0 ≤ c.toInt ∧ c.toInt ≤ b.toInt) (hm : 1 ≤ m.toInt ∧ m.toInt ≤ 4) (h : ¬ ((2147483647 : Int32) / m) < b) : 0 < (b * m).toInt := by
  rw [(own_mx hc hm h).1]; exact Int.mul_pos hb (by omega)
theorem own_h359 {b c m : Int32} {vv sv : UInt64} (hv : vv = FP.ddiv (FP.i2d c) (FP.i2d b)) (hb : 0 < b.toInt) (hc : 0 ≤ c.toInt ∧ c.toInt ≤ b.toInt) (hm : 1 ≤ m.toInt ∧ m.toInt ≤ 4) (h : ¬ ((2147483647 : Int32) / m) < b) (hs : sv = FP.ddiv (FP.i2d (c * m)) (FP.i2d (b * m))) : cmpValue (FP.dcmp sv vv) .l = (0 : Int32) := by
  obtain ⟨e1, e2⟩ := own_mx hc hm h
  have x : val64 sv = val64 vv := by
    rw [hv, hs, own_quot (own_mc hc hm h) (own_mb hb hc hm h), own_quot hc.1 hb, e1, e2]
    rw [Int.toNat_mul hc.1 (by omega), Int.toNat_mul (by omega) (by omega)]
    exact own_rr_same (by omega) (by omega)
  have y : FP.dcmp sv vv = some .eq := by
    show order (val64 sv) (val64 vv) = _
    rw [x]
    refine order_self ?_
    rw [hv, own_quot hc.1 hb]; exact roundRatio_ne_nan b64 false _ _ 0
  rw [y]; rfl
theorem own_h94a {a b c : Int32} (h : b = (0 : Int32)) (ha : a = (0 : Int32)) : cmpValue (FP.dcmp (own_v a b c) FP.dconst1) .l = (0 : Int32) := by rw [own_v1 h ha]; decide +kernel
theorem own_h94b {a b c : Int32} (h : b = (0 : Int32)) (ha : ¬ a = (0 : Int32)) : cmpValue (FP.dcmp (own_v a b c) FP.dconst0) .l = (0 : Int32) := by rw [own_v0 h ha]; decide +kernel
theorem own_eqc {o : Option Ordering} (h : o = some .eq) : cmpValue o .l = (0 : Int32) := by rw [h]; rfl
theorem own_okc {x y : UInt64} {o : Ordering} (h : FP.dcmp x y = some o) : Jvm.Free.Fl.NoNaN64 x := (Jvm.Free.Fl.dcmp_some h).1
end OwnSim
theorem own_d_rec_0 : decode jdk_30_method_1_code 0 = .ok (.aload_n 0, 1) := by decide +kernel
theorem own_d_rec_1 : decode jdk_30_method_1_code 1 = .ok (.invokespecial 1, 3) := by decide +kernel
theorem own_d_rec_4 : decode jdk_30_method_1_code 4 = .ok (.return_, 1) := by decide +kernel
theorem own_pn_java_lang_Record : plainName "java/lang/Record" = true := by first | (simp [plainName, overriddenIn]; done) | decide +kernel
theorem own_ef_rec (m : MethodId) (a : Addr) : entryFrame m #[(.ref a)] 1 = mkF m 0 #[.val (.ref a)] [] := by first | (simp [entryFrame, mkF, argsToLocals, Value.category]; done) | rfl
def own_Q_rec (Z : State) (a : Addr) (h0 : Heap) (n0 : Nat) (v : Option Value) (h : Heap) (L : List Loc) : Prop := v = none ∧ Fr n0 L ∧ h = h0
set_option maxRecDepth 65536 in
set_option maxHeartbeats 40000000 in
theorem own_rm_rec (l : Launch) (Z : State) (a0 : Array Value) (hw : ∀ d ∈ tables_1, d.before a0 Z = true) (ws : List Jvm.Cond) (a : Addr) (h0 : Heap) (n0 : Nat) (Z0 : n0 ≤ h0.size) :
    MetFree l (⟨"java/lang/Record", "<init>", "()V"⟩ : MethodName) (head1 (Jvm.Cond.code (⟨"java/lang/Record", "<init>", "()V"⟩ : MethodName) jdk_30_method_1_code 1 none :: ws) ({ frames := 1, cells := 0, slots := 0, locals := 12 } : Room)) (fun a_ U_ => a_ = #[(.ref a)] ∧ Z.Warmed39 U_.vm ∧ U_.heap = h0) (fun _ _ _ _ _ => True) (fun _ U_ o_ U'_ => ∃ v_ L_, o_ = .returned v_ ∧ own_Q_rec Z a h0 n0 v_ U'_.heap L_ ∧ FrameEnd U_ o_ U'_ L_ ({ frames := 1, cells := 0, slots := 0, locals := 12 } : Room).cells ({ frames := 1, cells := 0, slots := 0, locals := 12 } : Room).slots) := by
  refine MetFree.of_bodySF (plainFor_of_name own_pn_java_lang_Record) hisR ?_
  intro p e s m args below meth c s₁ Bd hml0 hP hK
  obtain ⟨rfl, hZ, hh⟩ := hP
  have hx := Bd.exec
  have hby := Bd.bytes
  have hlk : meth.locks = false := BodyLoose.notSynchronized Bd
  have hml : c.maxLocals = 1 := hml0
  have hown : s.vm.findClass "java/lang/Record" = some m.cls := findClass_of_methodNamed Bd.named
  have hnm := (name_of_methodNamed Bd.named Bd.method).1
  have X0 : Stand p l e ({ frames := 1, cells := 0, slots := 0, locals := 12 } : Room) s m #[(.ref a)] below meth c s₁ [] 0 0 := Stand.of_body Bd
  have e0 : s₁.heap = h0 := by rw [← hh, Bd.state]; rfl
  have N0 := Fr.nil n0
  show own_Goes p e below (own_K (own_Q_rec Z a h0 n0) s ({ frames := 1, cells := 0, slots := 0, locals := 12 } : Room).cells ({ frames := 1, cells := 0, slots := 0, locals := 12 } : Room).slots) s₁ (entryFrame m #[(.ref a)] 1)
  rw [own_ef_rec]
  refine own_by (T' := s₁) (g' := (mkF m 1 #[.val (.ref a)] [(.ref a)])) (fun t_ k_ => XS.aloadN X0.here hx rfl (hb hby own_d_rec_0) rfl rfl k_) ?_
  obtain ⟨T1, X1, e1, st1⟩ := initO X0 hx hZ hown (hw _ (List.mem_of_getElem? (i := 13) rfl)) (hw _ (List.mem_of_getElem? (i := 14) rfl)) (hw _ (List.mem_of_getElem? (i := 15) rfl)) e0 (g := (mkF m 1 #[.val (.ref a)] [(.ref a)])) rfl (by rw [hml]; rfl) rfl (hb hby own_d_rec_1) (by decide) (W := 0) (by show 2 * 0 + _ ≤ _; exact Nat.le_of_eq rfl) (by decide)
  refine own_by (T' := T1) (g' := (mkF m 4 #[.val (.ref a)] [])) st1 ?_
  refine own_ret0 X1 hx Bd.returns hlk (hb hby own_d_rec_4) (by decide) (by decide) ?_
  rw [e1]
  exact ⟨rfl, N0, rfl⟩
theorem own_pd0 : parseMethodDescriptor "()V" = some ⟨[], none⟩ := by decide +kernel
theorem own_d_ini_0 : decode prog_45_method_1_code 0 = .ok (.aload_n 0, 1) := by decide +kernel
theorem own_d_ini_1 : decode prog_45_method_1_code 1 = .ok (.invokespecial 1, 3) := by decide +kernel
theorem own_d_ini_4 : decode prog_45_method_1_code 4 = .ok (.aload_n 0, 1) := by decide +kernel
theorem own_d_ini_5 : decode prog_45_method_1_code 5 = .ok (.iload_n 1, 1) := by decide +kernel
theorem own_d_ini_6 : decode prog_45_method_1_code 6 = .ok (.putfield 7, 3) := by decide +kernel
theorem own_d_ini_9 : decode prog_45_method_1_code 9 = .ok (.aload_n 0, 1) := by decide +kernel
theorem own_d_ini_10 : decode prog_45_method_1_code 10 = .ok (.iload_n 2, 1) := by decide +kernel
theorem own_d_ini_11 : decode prog_45_method_1_code 11 = .ok (.putfield 13, 3) := by decide +kernel
theorem own_d_ini_14 : decode prog_45_method_1_code 14 = .ok (.aload_n 0, 1) := by decide +kernel
theorem own_d_ini_15 : decode prog_45_method_1_code 15 = .ok (.iload_n 3, 1) := by decide +kernel
theorem own_d_ini_16 : decode prog_45_method_1_code 16 = .ok (.putfield 16, 3) := by decide +kernel
theorem own_d_ini_19 : decode prog_45_method_1_code 19 = .ok (.return_, 1) := by decide +kernel
theorem own_pn_com_example_arcwright_arcwright_model_route_Similarity : plainName "com/example/arcwright/arcwright/model/route/Similarity" = true := by first | (simp [plainName, overriddenIn]; done) | decide +kernel
theorem own_ef_ini (m : MethodId) (a : Addr) (fa : Int32) (fb : Int32) (fc : Int32) : entryFrame m #[(.ref a), (.int fa), (.int fb), (.int fc)] 4 = mkF m 0 #[.val (.ref a), .val (.int fa), .val (.int fb), .val (.int fc)] [] := by first | (simp [entryFrame, mkF, argsToLocals, Value.category]; done) | rfl
def own_Q_ini (Z : State) (a : Addr) (fa : Int32) (fb : Int32) (fc : Int32) (h0 : Heap) (n0 : Nat) (v : Option Value) (h : Heap) (L : List Loc) : Prop := v = none ∧ Fr n0 L ∧ Keep h0 h [a] ∧ Exa Z h a "com/example/arcwright/arcwright/model/route/Similarity" ∧ Fld Z h a "com/example/arcwright/arcwright/model/route/Similarity" "pairsA" "I" (.int fa) ∧ Fld Z h a "com/example/arcwright/arcwright/model/route/Similarity" "pairsB" "I" (.int fb) ∧ Fld Z h a "com/example/arcwright/arcwright/model/route/Similarity" "common" "I" (.int fc)
set_option maxRecDepth 65536 in
set_option maxHeartbeats 40000000 in
theorem own_rm_ini (l : Launch) (Z : State) (a0 : Array Value) (hw : ∀ d ∈ tables_1, d.before a0 Z = true) (ws : List Jvm.Cond) (a : Addr) (fa : Int32) (fb : Int32) (fc : Int32) (h0 : Heap) (n0 : Nat) (Z0 : n0 ≤ h0.size) (E0 : Exa Z h0 a "com/example/arcwright/arcwright/model/route/Similarity") (G0 : n0 ≤ a) (F0_pairsA : Fld Z h0 a "com/example/arcwright/arcwright/model/route/Similarity" "pairsA" "I" (.int (0 : Int32))) (F0_pairsB : Fld Z h0 a "com/example/arcwright/arcwright/model/route/Similarity" "pairsB" "I" (.int (0 : Int32))) (F0_common : Fld Z h0 a "com/example/arcwright/arcwright/model/route/Similarity" "common" "I" (.int (0 : Int32))) :
    MetFree l (⟨"com/example/arcwright/arcwright/model/route/Similarity", "<init>", "(III)V"⟩ : MethodName) (head1 (Jvm.Cond.code (⟨"com/example/arcwright/arcwright/model/route/Similarity", "<init>", "(III)V"⟩ : MethodName) prog_45_method_1_code 4 none :: ws) ({ frames := 2, cells := 0, slots := 0, locals := 24 } : Room)) (fun a_ U_ => a_ = #[(.ref a), (.int fa), (.int fb), (.int fc)] ∧ Z.Warmed39 U_.vm ∧ U_.heap = h0) (fun _ _ _ _ _ => True) (fun _ U_ o_ U'_ => ∃ v_ L_, o_ = .returned v_ ∧ own_Q_ini Z a fa fb fc h0 n0 v_ U'_.heap L_ ∧ FrameEnd U_ o_ U'_ L_ ({ frames := 2, cells := 0, slots := 0, locals := 24 } : Room).cells ({ frames := 2, cells := 0, slots := 0, locals := 24 } : Room).slots) := by
  refine MetFree.of_bodySF (plainFor_of_name own_pn_com_example_arcwright_arcwright_model_route_Similarity) hisR ?_
  intro p e s m args below meth c s₁ Bd hml0 hP hK
  obtain ⟨rfl, hZ, hh⟩ := hP
  have hx := Bd.exec
  have hby := Bd.bytes
  have hlk : meth.locks = false := BodyLoose.notSynchronized Bd
  have hml : c.maxLocals = 4 := hml0
  have hown : s.vm.findClass "com/example/arcwright/arcwright/model/route/Similarity" = some m.cls := findClass_of_methodNamed Bd.named
  have hnm := (name_of_methodNamed Bd.named Bd.method).1
  have X0 : Stand p l e ({ frames := 2, cells := 0, slots := 0, locals := 24 } : Room) s m #[(.ref a), (.int fa), (.int fb), (.int fc)] below meth c s₁ [] 0 0 := Stand.of_body Bd
  have e0 : s₁.heap = h0 := by rw [← hh, Bd.state]; rfl
  have N0 := Fr.nil n0
  show own_Goes p e below (own_K (own_Q_ini Z a fa fb fc h0 n0) s ({ frames := 2, cells := 0, slots := 0, locals := 24 } : Room).cells ({ frames := 2, cells := 0, slots := 0, locals := 24 } : Room).slots) s₁ (entryFrame m #[(.ref a), (.int fa), (.int fb), (.int fc)] 4)
  rw [own_ef_ini]
  have K0 := Keep.refl h0 [a]
  refine own_by (T' := s₁) (g' := (mkF m 1 #[.val (.ref a), .val (.int fa), .val (.int fb), .val (.int fc)] [(.ref a)])) (fun t_ k_ => XS.aloadN X0.here hx rfl (hb hby own_d_ini_0) rfl rfl k_) ?_
  obtain ⟨_, T1, L1, X1, hQ1, st1⟩ := own_callI X0 hx hZ (y := (⟨"java/lang/Record", "<init>", "()V"⟩ : MethodName)) rfl hown (hw _ (List.mem_of_getElem? (i := 8) rfl)) (hw _ (List.mem_of_getElem? (i := 9) rfl)) (hw _ (List.mem_of_getElem? (i := 11) rfl)) (hw _ (List.mem_of_getElem? (i := 12) rfl)) (by decide) (argsL := []) (rest := []) (own_rm_rec l Z a0 hw [] a  h0 n0 Z0 ) e0 (W := 0) (by decide) (by decide) (by decide) (by decide) (g := (mkF m 1 #[.val (.ref a), .val (.int fa), .val (.int fb), .val (.int fc)] [(.ref a)])) rfl (by rw [hml]; rfl) (lenOf own_pd0 rfl) rfl (by show 2 * 0 + _ ≤ _; exact Nat.le_of_eq rfl) (hb hby own_d_ini_1)
  obtain ⟨rfl, Nq1, e1⟩ := hQ1
  have N1 := Fr.app N0 Nq1
  refine st1 _ ?_
  show own_Goes p e below _ T1 (mkF m 4 #[.val (.ref a), .val (.int fa), .val (.int fb), .val (.int fc)] [])
  refine own_by (T' := T1) (g' := (mkF m 5 #[.val (.ref a), .val (.int fa), .val (.int fb), .val (.int fc)] [(.ref a)])) (fun t_ k_ => XS.aloadN X1.here hx rfl (hb hby own_d_ini_4) rfl rfl k_) ?_
  refine own_by (T' := T1) (g' := (mkF m 6 #[.val (.ref a), .val (.int fa), .val (.int fb), .val (.int fc)] [(.int fa), (.ref a)])) (fun t_ k_ => XS.iloadN X1.here hx rfl (hb hby own_d_ini_5) rfl k_) ?_
  obtain ⟨T2, h2, X2, e2, W2, st2⟩ := putF X1 hx hZ hown (host := "") (Or.inl (hw _ (List.mem_of_getElem? (i := 16) rfl))) Via.refl e1 F0_pairsA E0 (Or.inr ⟨(hw _ (List.mem_of_getElem? (i := 17) rfl)), rfl, hnm⟩) (hw _ (List.mem_of_getElem? (i := 3) rfl)) (ty := .int) (by decide) rfl rfl (g := (mkF m 6 #[.val (.ref a), .val (.int fa), .val (.int fb), .val (.int fc)] [(.int fa), (.ref a)])) rfl rfl (hb hby own_d_ini_6)
  refine own_by (T' := T2) (g' := (mkF m 9 #[.val (.ref a), .val (.int fa), .val (.int fb), .val (.int fc)] [])) st2 ?_
  have N2 := Fr.snoc X2 N1 G0
  have f3 := Nat.le_trans Z0 (Keep.of_wr W2).1
  have f4 := Exa.wr W2 E0
  have f5 := Fld.same W2 F0_pairsA
  have f6 := Fld.other W2 F0_pairsB (Or.inr (slot_ne (Or.inr (hw _ (List.mem_of_getElem? (i := 19) rfl))) (Or.inr (hw _ (List.mem_of_getElem? (i := 17) rfl))) (by decide) (t := .int) (t' := .int) (by decide) (by decide)))
  have f7 := Fld.other W2 F0_common (Or.inr (slot_ne (Or.inr (hw _ (List.mem_of_getElem? (i := 21) rfl))) (Or.inr (hw _ (List.mem_of_getElem? (i := 17) rfl))) (by decide) (t := .int) (t' := .int) (by decide) (by decide)))
  have f8 := Keep.wr K0 W2 (Or.inl (List.mem_of_getElem? (i := 0) rfl))
  refine own_by (T' := T2) (g' := (mkF m 10 #[.val (.ref a), .val (.int fa), .val (.int fb), .val (.int fc)] [(.ref a)])) (fun t_ k_ => XS.aloadN X2.here hx rfl (hb hby own_d_ini_9) rfl rfl k_) ?_
  refine own_by (T' := T2) (g' := (mkF m 11 #[.val (.ref a), .val (.int fa), .val (.int fb), .val (.int fc)] [(.int fb), (.ref a)])) (fun t_ k_ => XS.iloadN X2.here hx rfl (hb hby own_d_ini_10) rfl k_) ?_
  obtain ⟨T9, h9, X9, e9, W9, st9⟩ := putF X2 hx hZ hown (host := "") (Or.inl (hw _ (List.mem_of_getElem? (i := 18) rfl))) Via.refl e2 f6 f4 (Or.inr ⟨(hw _ (List.mem_of_getElem? (i := 19) rfl)), rfl, hnm⟩) (hw _ (List.mem_of_getElem? (i := 3) rfl)) (ty := .int) (by decide) rfl rfl (g := (mkF m 11 #[.val (.ref a), .val (.int fa), .val (.int fb), .val (.int fc)] [(.int fb), (.ref a)])) rfl rfl (hb hby own_d_ini_11)
  refine own_by (T' := T9) (g' := (mkF m 14 #[.val (.ref a), .val (.int fa), .val (.int fb), .val (.int fc)] [])) st9 ?_
  have N9 := Fr.snoc X9 N2 G0
  have f10 := Nat.le_trans f3 (Keep.of_wr W9).1
  have f11 := Exa.wr W9 f4
  have f12 := Fld.other W9 f5 (Or.inr (slot_ne (Or.inr (hw _ (List.mem_of_getElem? (i := 17) rfl))) (Or.inr (hw _ (List.mem_of_getElem? (i := 19) rfl))) (by decide) (t := .int) (t' := .int) (by decide) (by decide)))
  have f13 := Fld.same W9 f6
  have f14 := Fld.other W9 f7 (Or.inr (slot_ne (Or.inr (hw _ (List.mem_of_getElem? (i := 21) rfl))) (Or.inr (hw _ (List.mem_of_getElem? (i := 19) rfl))) (by decide) (t := .int) (t' := .int) (by decide) (by decide)))
  have f15 := Keep.wr f8 W9 (Or.inl (List.mem_of_getElem? (i := 0) rfl))
  refine own_by (T' := T9) (g' := (mkF m 15 #[.val (.ref a), .val (.int fa), .val (.int fb), .val (.int fc)] [(.ref a)])) (fun t_ k_ => XS.aloadN X9.here hx rfl (hb hby own_d_ini_14) rfl rfl k_) ?_
  refine own_by (T' := T9) (g' := (mkF m 16 #[.val (.ref a), .val (.int fa), .val (.int fb), .val (.int fc)] [(.int fc), (.ref a)])) (fun t_ k_ => XS.iloadN X9.here hx rfl (hb hby own_d_ini_15) rfl k_) ?_
  obtain ⟨T16, h16, X16, e16, W16, st16⟩ := putF X9 hx hZ hown (host := "") (Or.inl (hw _ (List.mem_of_getElem? (i := 20) rfl))) Via.refl e9 f14 f11 (Or.inr ⟨(hw _ (List.mem_of_getElem? (i := 21) rfl)), rfl, hnm⟩) (hw _ (List.mem_of_getElem? (i := 3) rfl)) (ty := .int) (by decide) rfl rfl (g := (mkF m 16 #[.val (.ref a), .val (.int fa), .val (.int fb), .val (.int fc)] [(.int fc), (.ref a)])) rfl rfl (hb hby own_d_ini_16)
  refine own_by (T' := T16) (g' := (mkF m 19 #[.val (.ref a), .val (.int fa), .val (.int fb), .val (.int fc)] [])) st16 ?_
  have N16 := Fr.snoc X16 N9 G0
  have f17 := Nat.le_trans f10 (Keep.of_wr W16).1
  have f18 := Exa.wr W16 f11
  have f19 := Fld.other W16 f12 (Or.inr (slot_ne (Or.inr (hw _ (List.mem_of_getElem? (i := 17) rfl))) (Or.inr (hw _ (List.mem_of_getElem? (i := 21) rfl))) (by decide) (t := .int) (t' := .int) (by decide) (by decide)))
  have f20 := Fld.other W16 f13 (Or.inr (slot_ne (Or.inr (hw _ (List.mem_of_getElem? (i := 19) rfl))) (Or.inr (hw _ (List.mem_of_getElem? (i := 21) rfl))) (by decide) (t := .int) (t' := .int) (by decide) (by decide)))
  have f21 := Fld.same W16 f14
  have f22 := Keep.wr f15 W16 (Or.inl (List.mem_of_getElem? (i := 0) rfl))
  refine own_ret0 X16 hx Bd.returns hlk (hb hby own_d_ini_19) (by decide) (by decide) ?_
  rw [e16]
  exact ⟨rfl, N16, f22, f18, f19, f20, f21⟩
theorem own_d_val_0 : decode prog_45_method_3_code 0 = .ok (.aload_n 0, 1) := by decide +kernel
theorem own_d_val_1 : decode prog_45_method_3_code 1 = .ok (.getfield 13, 3) := by decide +kernel
theorem own_d_val_4 : decode prog_45_method_3_code 4 = .ok (.ifCond .le 18, 3) := by decide +kernel
theorem own_d_val_7 : decode prog_45_method_3_code 7 = .ok (.aload_n 0, 1) := by decide +kernel
theorem own_d_val_8 : decode prog_45_method_3_code 8 = .ok (.getfield 16, 3) := by decide +kernel
theorem own_d_val_11 : decode prog_45_method_3_code 11 = .ok (.i2d, 1) := by decide +kernel
theorem own_d_val_12 : decode prog_45_method_3_code 12 = .ok (.aload_n 0, 1) := by decide +kernel
theorem own_d_val_13 : decode prog_45_method_3_code 13 = .ok (.getfield 13, 3) := by decide +kernel
theorem own_d_val_16 : decode prog_45_method_3_code 16 = .ok (.i2d, 1) := by decide +kernel
theorem own_d_val_17 : decode prog_45_method_3_code 17 = .ok (.ddiv, 1) := by decide +kernel
theorem own_d_val_18 : decode prog_45_method_3_code 18 = .ok (.dstore_n 1, 1) := by decide +kernel
theorem own_d_val_19 : decode prog_45_method_3_code 19 = .ok (.goto 16, 3) := by decide +kernel
theorem own_d_val_22 : decode prog_45_method_3_code 22 = .ok (.aload_n 0, 1) := by decide +kernel
theorem own_d_val_23 : decode prog_45_method_3_code 23 = .ok (.getfield 7, 3) := by decide +kernel
theorem own_d_val_26 : decode prog_45_method_3_code 26 = .ok (.ifCond .ne 7, 3) := by decide +kernel
theorem own_d_val_29 : decode prog_45_method_3_code 29 = .ok (.dconst 1, 1) := by decide +kernel
theorem own_d_val_30 : decode prog_45_method_3_code 30 = .ok (.goto 4, 3) := by decide +kernel
theorem own_d_val_33 : decode prog_45_method_3_code 33 = .ok (.dconst 0, 1) := by decide +kernel
theorem own_d_val_34 : decode prog_45_method_3_code 34 = .ok (.dstore_n 1, 1) := by decide +kernel
theorem own_d_val_35 : decode prog_45_method_3_code 35 = .ok (.dload_n 1, 1) := by decide +kernel
theorem own_d_val_36 : decode prog_45_method_3_code 36 = .ok (.dreturn, 1) := by decide +kernel
theorem own_ef_val (m : MethodId) (a : Addr) : entryFrame m #[(.ref a)] 3 = mkF m 0 #[.val (.ref a), .unset, .unset] [] := by first | (simp [entryFrame, mkF, argsToLocals, Value.category]; done) | rfl
def own_Q_val (Z : State) (a : Addr) (fa : Int32) (fb : Int32) (fc : Int32) (h0 : Heap) (n0 : Nat) (v : Option Value) (h : Heap) (L : List Loc) : Prop := v = some (.double (own_v fa fb fc)) ∧ Fr n0 L ∧ h = h0
set_option maxRecDepth 65536 in
set_option maxHeartbeats 40000000 in
theorem own_rm_val (l : Launch) (Z : State) (a0 : Array Value) (hw : ∀ d ∈ tables_1, d.before a0 Z = true) (ws : List Jvm.Cond) (a : Addr) (fa : Int32) (fb : Int32) (fc : Int32) (h0 : Heap) (n0 : Nat) (Z0 : n0 ≤ h0.size) (F0_pairsA : Fld Z h0 a "com/example/arcwright/arcwright/model/route/Similarity" "pairsA" "I" (.int fa)) (F0_pairsB : Fld Z h0 a "com/example/arcwright/arcwright/model/route/Similarity" "pairsB" "I" (.int fb)) (F0_common : Fld Z h0 a "com/example/arcwright/arcwright/model/route/Similarity" "common" "I" (.int fc)) (hc : 0 ≤ fc.toInt) :
    MetFree l (⟨"com/example/arcwright/arcwright/model/route/Similarity", "value", "()D"⟩ : MethodName) (head1 (Jvm.Cond.code (⟨"com/example/arcwright/arcwright/model/route/Similarity", "value", "()D"⟩ : MethodName) prog_45_method_3_code 3 (some .double) :: ws) ({ frames := 0, cells := 0, slots := 0, locals := 0 } : Room)) (fun a_ U_ => a_ = #[(.ref a)] ∧ Z.Warmed39 U_.vm ∧ U_.heap = h0) (fun _ _ _ _ _ => True) (fun _ U_ o_ U'_ => ∃ v_ L_, o_ = .returned v_ ∧ own_Q_val Z a fa fb fc h0 n0 v_ U'_.heap L_ ∧ FrameEnd U_ o_ U'_ L_ ({ frames := 0, cells := 0, slots := 0, locals := 0 } : Room).cells ({ frames := 0, cells := 0, slots := 0, locals := 0 } : Room).slots) := by
  refine MetFree.of_bodySF (plainFor_of_name own_pn_com_example_arcwright_arcwright_model_route_Similarity) hisR ?_
  intro p e s m args below meth c s₁ Bd hml0 hP hK
  obtain ⟨rfl, hZ, hh⟩ := hP
  have hx := Bd.exec
  have hby := Bd.bytes
  have hlk : meth.locks = false := BodyLoose.notSynchronized Bd
  have hml : c.maxLocals = 3 := hml0
  have hown : s.vm.findClass "com/example/arcwright/arcwright/model/route/Similarity" = some m.cls := findClass_of_methodNamed Bd.named
  have hnm := (name_of_methodNamed Bd.named Bd.method).1
  have X0 : Stand p l e ({ frames := 0, cells := 0, slots := 0, locals := 0 } : Room) s m #[(.ref a)] below meth c s₁ [] 0 0 := Stand.of_body Bd
  have e0 : s₁.heap = h0 := by rw [← hh, Bd.state]; rfl
  have N0 := Fr.nil n0
  show own_Goes p e below (own_K (own_Q_val Z a fa fb fc h0 n0) s ({ frames := 0, cells := 0, slots := 0, locals := 0 } : Room).cells ({ frames := 0, cells := 0, slots := 0, locals := 0 } : Room).slots) s₁ (entryFrame m #[(.ref a)] 3)
  rw [own_ef_val]
  refine own_by (T' := s₁) (g' := (mkF m 1 #[.val (.ref a), .unset, .unset] [(.ref a)])) (fun t_ k_ => XS.aloadN X0.here hx rfl (hb hby own_d_val_0) rfl rfl k_) ?_
  obtain ⟨T1, X1, e1, st1⟩ := getF X0 hx hZ hown (host := "") (Or.inl (hw _ (List.mem_of_getElem? (i := 18) rfl))) Via.refl e0 F0_pairsB (g := (mkF m 1 #[.val (.ref a), .unset, .unset] [(.ref a)])) rfl rfl (hb hby own_d_val_1)
  refine own_by (T' := T1) (g' := (mkF m 4 #[.val (.ref a), .unset, .unset] [(.int fb)])) st1 ?_
  by_cases c4_2 : (0 : Int32) < fb
  · skip
    refine own_by (T' := T1) (g' := (mkF m 7 #[.val (.ref a), .unset, .unset] [])) (fun t_ k_ => XS.ifNo X1.here hx rfl (hb hby own_d_val_4) rfl ((if0 _ _).trans (tlt (c4_2 : (0 : Int32) < fb)).2.2.2) k_) ?_
    refine own_by (T' := T1) (g' := (mkF m 8 #[.val (.ref a), .unset, .unset] [(.ref a)])) (fun t_ k_ => XS.aloadN X1.here hx rfl (hb hby own_d_val_7) rfl rfl k_) ?_
    obtain ⟨T3, X3, e3, st3⟩ := getF X1 hx hZ hown (host := "") (Or.inl (hw _ (List.mem_of_getElem? (i := 20) rfl))) Via.refl e1 F0_common (g := (mkF m 8 #[.val (.ref a), .unset, .unset] [(.ref a)])) rfl rfl (hb hby own_d_val_8)
    refine own_by (T' := T3) (g' := (mkF m 11 #[.val (.ref a), .unset, .unset] [(.int fc)])) st3 ?_
    refine own_by (T' := T3) (g' := (mkF m 12 #[.val (.ref a), .unset, .unset] [(.double (FP.i2d fc))])) (fun t_ k_ => XS.i2dS X3.here hx rfl (hb hby own_d_val_11) rfl rfl k_) ?_
    refine own_by (T' := T3) (g' := (mkF m 13 #[.val (.ref a), .unset, .unset] [(.ref a), (.double (FP.i2d fc))])) (fun t_ k_ => XS.aloadN X3.here hx rfl (hb hby own_d_val_12) rfl rfl k_) ?_
    obtain ⟨T4, X4, e4, st4⟩ := getF X3 hx hZ hown (host := "") (Or.inl (hw _ (List.mem_of_getElem? (i := 18) rfl))) Via.refl e3 F0_pairsB (g := (mkF m 13 #[.val (.ref a), .unset, .unset] [(.ref a), (.double (FP.i2d fc))])) rfl rfl (hb hby own_d_val_13)
    refine own_by (T' := T4) (g' := (mkF m 16 #[.val (.ref a), .unset, .unset] [(.int fb), (.double (FP.i2d fc))])) st4 ?_
    refine own_by (T' := T4) (g' := (mkF m 17 #[.val (.ref a), .unset, .unset] [(.double (FP.i2d fb)), (.double (FP.i2d fc))])) (fun t_ k_ => XS.i2dS X4.here hx rfl (hb hby own_d_val_16) rfl rfl k_) ?_
    refine own_by (T' := T4) (g' := (mkF m 18 #[.val (.ref a), .unset, .unset] [(.double (FP.ddiv (FP.i2d fc) (FP.i2d fb)))])) (fun t_ k_ => XS.ddivS X4.here hx rfl (hb hby own_d_val_17) rfl (own_vok hc (own_lt0.mp c4_2)) rfl k_) ?_
    refine own_by (T' := T4) (g' := (mkF m 19 #[.val (.ref a), .val (.double (FP.ddiv (FP.i2d fc) (FP.i2d fb))), .second] [])) (fun t_ k_ => XS.dstoreN X4.here hx rfl (hb hby own_d_val_18) rfl (l' := #[.val (.ref a), .val (.double (FP.ddiv (FP.i2d fc) (FP.i2d fb))), .second]) rfl k_) ?_
    refine own_by (T' := T4) (g' := (mkF m 35 #[.val (.ref a), .val (.double (FP.ddiv (FP.i2d fc) (FP.i2d fb))), .second] [])) (fun t_ k_ => XS.goto X4.here hx rfl (pc0 := 19) (pc' := 35) rfl (hb hby own_d_val_19) (by decide) (by decide) k_) ?_
    refine own_by (T' := T4) (g' := (mkF m 36 #[.val (.ref a), .val (.double (FP.ddiv (FP.i2d fc) (FP.i2d fb))), .second] [(.double (FP.ddiv (FP.i2d fc) (FP.i2d fb)))])) (fun t_ k_ => XS.dloadN X4.here hx rfl (hb hby own_d_val_35) rfl k_) ?_
    refine own_retV X4 hx Bd.returns hlk rfl (Or.inr (Or.inr (Or.inl ⟨rfl, rfl, _, rfl⟩))) (hb hby own_d_val_36) (by decide) (by decide) ?_
    rw [e4]
    exact ⟨by rw [own_vpos (own_lt0.mp c4_2)], N0, rfl⟩
  · skip
    refine own_by (T' := T1) (g' := (mkF m 22 #[.val (.ref a), .unset, .unset] [])) (fun t_ k_ => XS.ifYes X1.here hx rfl (pc0 := 4) (pc' := 22) rfl (hb hby own_d_val_4) rfl ((if0 _ _).trans (flt (c4_2 : ¬ ((0 : Int32) < fb))).2.2.2) (by decide) (by decide) k_) ?_
    refine own_by (T' := T1) (g' := (mkF m 23 #[.val (.ref a), .unset, .unset] [(.ref a)])) (fun t_ k_ => XS.aloadN X1.here hx rfl (hb hby own_d_val_22) rfl rfl k_) ?_
    obtain ⟨T5, X5, e5, st5⟩ := getF X1 hx hZ hown (host := "") (Or.inl (hw _ (List.mem_of_getElem? (i := 16) rfl))) Via.refl e1 F0_pairsA (g := (mkF m 23 #[.val (.ref a), .unset, .unset] [(.ref a)])) rfl rfl (hb hby own_d_val_23)
    refine own_by (T' := T5) (g' := (mkF m 26 #[.val (.ref a), .unset, .unset] [(.int fa)])) st5 ?_
    by_cases c26_6 : fa = (0 : Int32)
    · skip
      refine own_by (T' := T5) (g' := (mkF m 29 #[.val (.ref a), .unset, .unset] [])) (fun t_ k_ => XS.ifNo X5.here hx rfl (hb hby own_d_val_26) rfl ((if0 _ _).trans (teq (c26_6 : fa = (0 : Int32))).2) k_) ?_
      refine own_by (T' := T5) (g' := (mkF m 30 #[.val (.ref a), .unset, .unset] [(.double FP.dconst1)])) (fun t_ k_ => XS.dconst1 X5.here hx rfl (hb hby own_d_val_29) rfl k_) ?_
      refine own_by (T' := T5) (g' := (mkF m 34 #[.val (.ref a), .unset, .unset] [(.double FP.dconst1)])) (fun t_ k_ => XS.goto X5.here hx rfl (pc0 := 30) (pc' := 34) rfl (hb hby own_d_val_30) (by decide) (by decide) k_) ?_
      refine own_by (T' := T5) (g' := (mkF m 35 #[.val (.ref a), .val (.double FP.dconst1), .second] [])) (fun t_ k_ => XS.dstoreN X5.here hx rfl (hb hby own_d_val_34) rfl (l' := #[.val (.ref a), .val (.double FP.dconst1), .second]) rfl k_) ?_
      refine own_by (T' := T5) (g' := (mkF m 36 #[.val (.ref a), .val (.double FP.dconst1), .second] [(.double FP.dconst1)])) (fun t_ k_ => XS.dloadN X5.here hx rfl (hb hby own_d_val_35) rfl k_) ?_
      refine own_retV X5 hx Bd.returns hlk rfl (Or.inr (Or.inr (Or.inl ⟨rfl, rfl, _, rfl⟩))) (hb hby own_d_val_36) (by decide) (by decide) ?_
      rw [e5]
      exact ⟨by unfold own_v; rw [if_neg c4_2, if_pos c26_6], N0, rfl⟩
    · skip
      refine own_by (T' := T5) (g' := (mkF m 33 #[.val (.ref a), .unset, .unset] [])) (fun t_ k_ => XS.ifYes X5.here hx rfl (pc0 := 26) (pc' := 33) rfl (hb hby own_d_val_26) rfl ((if0 _ _).trans (feq (c26_6 : ¬ (fa = (0 : Int32)))).2) (by decide) (by decide) k_) ?_
      refine own_by (T' := T5) (g' := (mkF m 34 #[.val (.ref a), .unset, .unset] [(.double FP.dconst0)])) (fun t_ k_ => XS.dconst0 X5.here hx rfl (hb hby own_d_val_33) rfl k_) ?_
      refine own_by (T' := T5) (g' := (mkF m 35 #[.val (.ref a), .val (.double FP.dconst0), .second] [])) (fun t_ k_ => XS.dstoreN X5.here hx rfl (hb hby own_d_val_34) rfl (l' := #[.val (.ref a), .val (.double FP.dconst0), .second]) rfl k_) ?_
      refine own_by (T' := T5) (g' := (mkF m 36 #[.val (.ref a), .val (.double FP.dconst0), .second] [(.double FP.dconst0)])) (fun t_ k_ => XS.dloadN X5.here hx rfl (hb hby own_d_val_35) rfl k_) ?_
      refine own_retV X5 hx Bd.returns hlk rfl (Or.inr (Or.inr (Or.inl ⟨rfl, rfl, _, rfl⟩))) (hb hby own_d_val_36) (by decide) (by decide) ?_
      rw [e5]
      exact ⟨by unfold own_v; rw [if_neg c4_2, if_neg c26_6], N0, rfl⟩
theorem own_pd1 : parseMethodDescriptor "(III)V" = some ⟨[.int, .int, .int], none⟩ := by decide +kernel
theorem own_pd2 : parseMethodDescriptor "()D" = some ⟨[], some .double⟩ := by decide +kernel
theorem own_pn_com_example_arcwright_arcwright_model_route_SimilarityValuePinLaw : plainName "com/example/arcwright/arcwright/model/route/SimilarityValuePinLaw" = true := by first | (simp [plainName, overriddenIn]; done) | decide +kernel
theorem own_ef_law (m : MethodId) (aa : Int32) (bb : Int32) (cc : Int32) (kk : Int32) (dd : Int32) (ee : Int32) : entryFrame m #[(.int aa), (.int bb), (.int cc), (.int kk), (.int dd), (.int ee)] maxLocals = mkF m 0 #[.val (.int aa), .val (.int bb), .val (.int cc), .val (.int kk), .val (.int dd), .val (.int ee), .unset, .unset, .unset, .unset, .unset, .unset, .unset, .unset, .unset, .unset, .unset, .unset, .unset, .unset, .unset, .unset] [] := by first | (simp [entryFrame, mkF, argsToLocals, Value.category, maxLocals]; done) | rfl
def own_Q_law (Z : State) (aa : Int32) (bb : Int32) (cc : Int32) (kk : Int32) (dd : Int32) (ee : Int32) (h0 : Heap) (n0 : Nat) (v : Option Value) (h : Heap) (L : List Loc) : Prop := v = some (.int 1) ∧ Fr n0 L
set_option maxRecDepth 65536 in
set_option maxHeartbeats 40000000 in
theorem own_rm_law (l : Launch) (Z : State) (a0 : Array Value) (hw : ∀ d ∈ tables_1, d.before a0 Z = true) (ws : List Jvm.Cond) (aa : Int32) (bb : Int32) (cc : Int32) (kk : Int32) (dd : Int32) (ee : Int32) (h0 : Heap) (n0 : Nat) (Z0 : n0 ≤ h0.size) :
    MetFree l x (head1 (Jvm.Cond.code x code maxLocals ret :: ws) room_1) (fun a_ U_ => a_ = #[(.int aa), (.int bb), (.int cc), (.int kk), (.int dd), (.int ee)] ∧ Z.Warmed39 U_.vm ∧ U_.heap = h0) (fun _ _ _ _ _ => True) (fun _ U_ o_ U'_ => ∃ v_ L_, o_ = .returned v_ ∧ own_Q_law Z aa bb cc kk dd ee h0 n0 v_ U'_.heap L_ ∧ FrameEnd U_ o_ U'_ L_ room_1.cells room_1.slots) := by
  refine MetFree.of_bodySF (plainFor_of_name own_pn_com_example_arcwright_arcwright_model_route_SimilarityValuePinLaw) hisR ?_
  intro p e s m args below meth c s₁ Bd hml0 hP hK
  obtain ⟨rfl, hZ, hh⟩ := hP
  have hx := Bd.exec
  have hby := Bd.bytes
  have hlk : meth.locks = false := BodyLoose.notSynchronized Bd
  have hml : c.maxLocals = 22 := hml0
  have hown : s.vm.findClass "com/example/arcwright/arcwright/model/route/SimilarityValuePinLaw" = some m.cls := findClass_of_methodNamed Bd.named
  have hnm := (name_of_methodNamed Bd.named Bd.method).1
  have X0 : Stand p l e room_1 s m #[(.int aa), (.int bb), (.int cc), (.int kk), (.int dd), (.int ee)] below meth c s₁ [] 0 0 := Stand.of_body Bd
  have e0 : s₁.heap = h0 := by rw [← hh, Bd.state]; rfl
  have N0 := Fr.nil n0
  show own_Goes p e below (own_K (own_Q_law Z aa bb cc kk dd ee h0 n0) s room_1.cells room_1.slots) s₁ (entryFrame m #[(.int aa), (.int bb), (.int cc), (.int kk), (.int dd), (.int ee)] maxLocals)
  rw [own_ef_law]
  have k58 : ∀ (pA : Int32) (pB : Int32) (cm : Int32) (T1 : State) (hh : Heap) (lo : List Loc), Stand p l e room_1 s m #[(.int aa), (.int bb), (.int cc), (.int kk), (.int dd), (.int ee)] below meth c T1 lo 0 0 → T1.heap = hh → Fr n0 lo → n0 ≤ hh.size → (0 ≤ pB.toInt) → (0 ≤ cm.toInt ∧ cm.toInt ≤ pB.toInt) → own_Goes p e below (own_K (own_Q_law Z aa bb cc kk dd ee h0 n0) s room_1.cells room_1.slots) T1 (mkF m 58 #[.val (.int aa), .val (.int bb), .val (.int cc), .val (.int kk), .val (.int dd), .val (.int ee), .val (.int pA), .val (.int pB), .val (.int cm), .unset, .unset, .unset, .unset, .unset, .unset, .unset, .unset, .unset, .unset, .unset, .unset, .unset] []) := by
    intro pA pB cm T1 hh lo X1 e1 N1 u0 hB hC
    obtain ⟨T1, h1, X1, e1, E1, A1, D1, -, st1⟩ := newO X1 hx hZ hown (hw _ (List.mem_of_getElem? (i := 2) rfl)) (hw _ (List.mem_of_getElem? (i := 3) rfl)) (hw _ (List.mem_of_getElem? (i := 4) rfl)) e1 (g := (mkF m 58 #[.val (.int aa), .val (.int bb), .val (.int cc), .val (.int kk), .val (.int dd), .val (.int ee), .val (.int pA), .val (.int pB), .val (.int cm), .unset, .unset, .unset, .unset, .unset, .unset, .unset, .unset, .unset, .unset, .unset, .unset, .unset] [])) rfl (hb hby at_58) (by decide) (by decide)
    obtain ⟨b1, g1⟩ : ∃ z, z = hh.size := ⟨_, rfl⟩
    rw [← g1] at A1 D1 st1
    have g_b1 : n0 ≤ b1 := Nat.le_trans u0 (Nat.le_of_eq g1.symm)
    have f2 := Nat.le_trans u0 E1.1
    have F1_pairsA : Fld Z h1 b1 "com/example/arcwright/arcwright/model/route/Similarity" "pairsA" "I" (.int (0 : Int32)) := D1 (Or.inr (hw _ (List.mem_of_getElem? (i := 17) rfl))) (ty := .int) (by decide)
    have F1_pairsB : Fld Z h1 b1 "com/example/arcwright/arcwright/model/route/Similarity" "pairsB" "I" (.int (0 : Int32)) := D1 (Or.inr (hw _ (List.mem_of_getElem? (i := 19) rfl))) (ty := .int) (by decide)
    have F1_common : Fld Z h1 b1 "com/example/arcwright/arcwright/model/route/Similarity" "common" "I" (.int (0 : Int32)) := D1 (Or.inr (hw _ (List.mem_of_getElem? (i := 21) rfl))) (ty := .int) (by decide)
    refine own_by (T' := T1) (g' := (mkF m 61 #[.val (.int aa), .val (.int bb), .val (.int cc), .val (.int kk), .val (.int dd), .val (.int ee), .val (.int pA), .val (.int pB), .val (.int cm), .unset, .unset, .unset, .unset, .unset, .unset, .unset, .unset, .unset, .unset, .unset, .unset, .unset] [(.ref b1)])) st1 ?_
    refine own_by (T' := T1) (g' := (mkF m 62 #[.val (.int aa), .val (.int bb), .val (.int cc), .val (.int kk), .val (.int dd), .val (.int ee), .val (.int pA), .val (.int pB), .val (.int cm), .unset, .unset, .unset, .unset, .unset, .unset, .unset, .unset, .unset, .unset, .unset, .unset, .unset] [(.ref b1), (.ref b1)])) (fun t_ k_ => XS.dup X1.here hx rfl (hb hby at_61) rfl rfl k_) ?_
    refine own_by (T' := T1) (g' := (mkF m 64 #[.val (.int aa), .val (.int bb), .val (.int cc), .val (.int kk), .val (.int dd), .val (.int ee), .val (.int pA), .val (.int pB), .val (.int cm), .unset, .unset, .unset, .unset, .unset, .unset, .unset, .unset, .unset, .unset, .unset, .unset, .unset] [(.int pA), (.ref b1), (.ref b1)])) (fun t_ k_ => XS.iload X1.here hx rfl (hb hby at_62) rfl k_) ?_
    refine own_by (T' := T1) (g' := (mkF m 66 #[.val (.int aa), .val (.int bb), .val (.int cc), .val (.int kk), .val (.int dd), .val (.int ee), .val (.int pA), .val (.int pB), .val (.int cm), .unset, .unset, .unset, .unset, .unset, .unset, .unset, .unset, .unset, .unset, .unset, .unset, .unset] [(.int pB), (.int pA), (.ref b1), (.ref b1)])) (fun t_ k_ => XS.iload X1.here hx rfl (hb hby at_64) rfl k_) ?_
    refine own_by (T' := T1) (g' := (mkF m 68 #[.val (.int aa), .val (.int bb), .val (.int cc), .val (.int kk), .val (.int dd), .val (.int ee), .val (.int pA), .val (.int pB), .val (.int cm), .unset, .unset, .unset, .unset, .unset, .unset, .unset, .unset, .unset, .unset, .unset, .unset, .unset] [(.int cm), (.int pB), (.int pA), (.ref b1), (.ref b1)])) (fun t_ k_ => XS.iload X1.here hx rfl (hb hby at_66) rfl k_) ?_
    obtain ⟨_, T3, L3, X3, hQ3, st3⟩ := own_callI X1 hx hZ (y := (⟨"com/example/arcwright/arcwright/model/route/Similarity", "<init>", "(III)V"⟩ : MethodName)) rfl hown (hw _ (List.mem_of_getElem? (i := 5) rfl)) (hw _ (List.mem_of_getElem? (i := 6) rfl)) (hw _ (List.mem_of_getElem? (i := 4) rfl)) (hw _ (List.mem_of_getElem? (i := 7) rfl)) (by decide) (argsL := [(.int pA), (.int pB), (.int cm)]) (rest := [(.ref b1)]) (own_rm_ini l Z a0 hw [] b1 pA pB cm h1 n0 f2 A1 g_b1 F1_pairsA F1_pairsB F1_common) e1 (W := 1) (by decide) (by decide) (by decide) (by decide) (g := (mkF m 68 #[.val (.int aa), .val (.int bb), .val (.int cc), .val (.int kk), .val (.int dd), .val (.int ee), .val (.int pA), .val (.int pB), .val (.int cm), .unset, .unset, .unset, .unset, .unset, .unset, .unset, .unset, .unset, .unset, .unset, .unset, .unset] [(.int cm), (.int pB), (.int pA), (.ref b1), (.ref b1)])) rfl (by rw [hml]; rfl) (lenOf own_pd1 rfl) rfl (by show 2 * 0 + _ ≤ _; exact Nat.le_of_eq rfl) (hb hby at_68)
    obtain ⟨rfl, Nq3, Kq3, Eq3, Fq3_pairsA, Fq3_pairsB, Fq3_common⟩ := hQ3
    have N3 := Fr.app N1 Nq3
    have f4 := Nat.le_trans f2 Kq3.1
    have f5 := Exa.keep A1 Kq3
    refine st3 _ ?_
    show own_Goes p e below _ T3 (mkF m 71 #[.val (.int aa), .val (.int bb), .val (.int cc), .val (.int kk), .val (.int dd), .val (.int ee), .val (.int pA), .val (.int pB), .val (.int cm), .unset, .unset, .unset, .unset, .unset, .unset, .unset, .unset, .unset, .unset, .unset, .unset, .unset] [(.ref b1)])
    obtain ⟨_, T6, L6, X6, hQ6, st6⟩ := own_callV X3 hx hZ (y := (⟨"com/example/arcwright/arcwright/model/route/Similarity", "value", "()D"⟩ : MethodName)) hown (hw _ (List.mem_of_getElem? (i := 22) rfl)) (hw _ (List.mem_of_getElem? (i := 23) rfl)) (hw _ (List.mem_of_getElem? (i := 25) rfl)) (hw _ (List.mem_of_getElem? (i := 24) rfl)) (hw _ (List.mem_of_getElem? (i := 4) rfl)) (hw _ (List.mem_of_getElem? (i := 26) rfl)) (by decide) (argsL := []) (rest := []) f5 (own_rm_val l Z a0 hw [] b1 pA pB cm T3.heap n0 f4 Fq3_pairsA Fq3_pairsB Fq3_common hC.1) rfl (W := 0) (by decide) (by decide) (by decide) (by decide) (g := (mkF m 71 #[.val (.int aa), .val (.int bb), .val (.int cc), .val (.int kk), .val (.int dd), .val (.int ee), .val (.int pA), .val (.int pB), .val (.int cm), .unset, .unset, .unset, .unset, .unset, .unset, .unset, .unset, .unset, .unset, .unset, .unset, .unset] [(.ref b1)])) rfl (by rw [hml]; rfl) (lenOf own_pd2 rfl) rfl (by show 2 * 0 + _ ≤ _; exact Nat.le_of_eq rfl) (hb hby at_71)
    obtain ⟨rfl, Nq6, e6⟩ := hQ6
    have N6 := Fr.app N3 Nq6
    refine st6 _ ?_
    show own_Goes p e below _ T6 (mkF m 74 #[.val (.int aa), .val (.int bb), .val (.int cc), .val (.int kk), .val (.int dd), .val (.int ee), .val (.int pA), .val (.int pB), .val (.int cm), .unset, .unset, .unset, .unset, .unset, .unset, .unset, .unset, .unset, .unset, .unset, .unset, .unset] [(.double (own_v pA pB cm))])
    refine own_by (T' := T6) (g' := (mkF m 76 #[.val (.int aa), .val (.int bb), .val (.int cc), .val (.int kk), .val (.int dd), .val (.int ee), .val (.int pA), .val (.int pB), .val (.int cm), .val (.double (own_v pA pB cm)), .second, .unset, .unset, .unset, .unset, .unset, .unset, .unset, .unset, .unset, .unset, .unset] [])) (fun t_ k_ => XS.dstore X6.here hx rfl (hb hby at_74) rfl (l' := #[.val (.int aa), .val (.int bb), .val (.int cc), .val (.int kk), .val (.int dd), .val (.int ee), .val (.int pA), .val (.int pB), .val (.int cm), .val (.double (own_v pA pB cm)), .second, .unset, .unset, .unset, .unset, .unset, .unset, .unset, .unset, .unset, .unset, .unset]) rfl k_) ?_
    refine own_by (T' := T6) (g' := (mkF m 78 #[.val (.int aa), .val (.int bb), .val (.int cc), .val (.int kk), .val (.int dd), .val (.int ee), .val (.int pA), .val (.int pB), .val (.int cm), .val (.double (own_v pA pB cm)), .second, .unset, .unset, .unset, .unset, .unset, .unset, .unset, .unset, .unset, .unset, .unset] [(.int pB)])) (fun t_ k_ => XS.iload X6.here hx rfl (hb hby at_76) rfl k_) ?_
    by_cases c78_7 : pB = (0 : Int32)
    · skip
      refine own_by (T' := T6) (g' := (mkF m 81 #[.val (.int aa), .val (.int bb), .val (.int cc), .val (.int kk), .val (.int dd), .val (.int ee), .val (.int pA), .val (.int pB), .val (.int cm), .val (.double (own_v pA pB cm)), .second, .unset, .unset, .unset, .unset, .unset, .unset, .unset, .unset, .unset, .unset, .unset] [])) (fun t_ k_ => XS.ifNo X6.here hx rfl (hb hby at_78) rfl ((if0 _ _).trans (teq (c78_7 : pB = (0 : Int32))).2) k_) ?_
      refine own_by (T' := T6) (g' := (mkF m 83 #[.val (.int aa), .val (.int bb), .val (.int cc), .val (.int kk), .val (.int dd), .val (.int ee), .val (.int pA), .val (.int pB), .val (.int cm), .val (.double (own_v pA pB cm)), .second, .unset, .unset, .unset, .unset, .unset, .unset, .unset, .unset, .unset, .unset, .unset] [(.double (own_v pA pB cm))])) (fun t_ k_ => XS.dload X6.here hx rfl (hb hby at_81) rfl k_) ?_
      refine own_by (T' := T6) (g' := (mkF m 85 #[.val (.int aa), .val (.int bb), .val (.int cc), .val (.int kk), .val (.int dd), .val (.int ee), .val (.int pA), .val (.int pB), .val (.int cm), .val (.double (own_v pA pB cm)), .second, .unset, .unset, .unset, .unset, .unset, .unset, .unset, .unset, .unset, .unset, .unset] [(.int pA), (.double (own_v pA pB cm))])) (fun t_ k_ => XS.iload X6.here hx rfl (hb hby at_83) rfl k_) ?_
      by_cases c85_8 : pA = (0 : Int32)
      · skip
        refine own_by (T' := T6) (g' := (mkF m 88 #[.val (.int aa), .val (.int bb), .val (.int cc), .val (.int kk), .val (.int dd), .val (.int ee), .val (.int pA), .val (.int pB), .val (.int cm), .val (.double (own_v pA pB cm)), .second, .unset, .unset, .unset, .unset, .unset, .unset, .unset, .unset, .unset, .unset, .unset] [(.double (own_v pA pB cm))])) (fun t_ k_ => XS.ifNo X6.here hx rfl (hb hby at_85) rfl ((if0 _ _).trans (teq (c85_8 : pA = (0 : Int32))).2) k_) ?_
        refine own_by (T' := T6) (g' := (mkF m 89 #[.val (.int aa), .val (.int bb), .val (.int cc), .val (.int kk), .val (.int dd), .val (.int ee), .val (.int pA), .val (.int pB), .val (.int cm), .val (.double (own_v pA pB cm)), .second, .unset, .unset, .unset, .unset, .unset, .unset, .unset, .unset, .unset, .unset, .unset] [(.double FP.dconst1), (.double (own_v pA pB cm))])) (fun t_ k_ => XS.dconst1 X6.here hx rfl (hb hby at_88) rfl k_) ?_
        refine own_by (T' := T6) (g' := (mkF m 93 #[.val (.int aa), .val (.int bb), .val (.int cc), .val (.int kk), .val (.int dd), .val (.int ee), .val (.int pA), .val (.int pB), .val (.int cm), .val (.double (own_v pA pB cm)), .second, .unset, .unset, .unset, .unset, .unset, .unset, .unset, .unset, .unset, .unset, .unset] [(.double FP.dconst1), (.double (own_v pA pB cm))])) (fun t_ k_ => XS.goto X6.here hx rfl (pc0 := 89) (pc' := 93) rfl (hb hby at_89) (by decide) (by decide) k_) ?_
        refine own_by (T' := T6) (g' := (mkF m 94 #[.val (.int aa), .val (.int bb), .val (.int cc), .val (.int kk), .val (.int dd), .val (.int ee), .val (.int pA), .val (.int pB), .val (.int cm), .val (.double (own_v pA pB cm)), .second, .unset, .unset, .unset, .unset, .unset, .unset, .unset, .unset, .unset, .unset, .unset] [(.int (cmpValue (FP.dcmp (own_v pA pB cm) FP.dconst1) .l))])) (fun t_ k_ => XS.dcmpS X6.here hx rfl (hb hby at_93) rfl rfl k_) ?_
        refine own_by (T' := T6) (g' := (mkF m 97 #[.val (.int aa), .val (.int bb), .val (.int cc), .val (.int kk), .val (.int dd), .val (.int ee), .val (.int pA), .val (.int pB), .val (.int cm), .val (.double (own_v pA pB cm)), .second, .unset, .unset, .unset, .unset, .unset, .unset, .unset, .unset, .unset, .unset, .unset] [])) (fun t_ k_ => XS.ifNo X6.here hx rfl (hb hby at_94) rfl ((if0 _ _).trans (teq ((own_h94a c78_7 c85_8) : (cmpValue (FP.dcmp (own_v pA pB cm) FP.dconst1) .l) = (0 : Int32))).2) k_) ?_
        refine own_by (T' := T6) (g' := (mkF m 98 #[.val (.int aa), .val (.int bb), .val (.int cc), .val (.int kk), .val (.int dd), .val (.int ee), .val (.int pA), .val (.int pB), .val (.int cm), .val (.double (own_v pA pB cm)), .second, .unset, .unset, .unset, .unset, .unset, .unset, .unset, .unset, .unset, .unset, .unset] [(.int (1 : Int32))])) (fun t_ k_ => XS.iconst X6.here hx rfl (hb hby at_97) k_) ?_
        refine own_by (T' := T6) (g' := (mkF m 102 #[.val (.int aa), .val (.int bb), .val (.int cc), .val (.int kk), .val (.int dd), .val (.int ee), .val (.int pA), .val (.int pB), .val (.int cm), .val (.double (own_v pA pB cm)), .second, .unset, .unset, .unset, .unset, .unset, .unset, .unset, .unset, .unset, .unset, .unset] [(.int (1 : Int32))])) (fun t_ k_ => XS.goto X6.here hx rfl (pc0 := 98) (pc' := 102) rfl (hb hby at_98) (by decide) (by decide) k_) ?_
        refine own_retN X6 hx (t := .boolean) Bd.returns hlk (by simp) (hb hby at_102) (by decide) (by decide) (v := (1 : Int32)) rfl ?_
        rw [e6]
        exact ⟨rfl, N6⟩
      · skip
        refine own_by (T' := T6) (g' := (mkF m 92 #[.val (.int aa), .val (.int bb), .val (.int cc), .val (.int kk), .val (.int dd), .val (.int ee), .val (.int pA), .val (.int pB), .val (.int cm), .val (.double (own_v pA pB cm)), .second, .unset, .unset, .unset, .unset, .unset, .unset, .unset, .unset, .unset, .unset, .unset] [(.double (own_v pA pB cm))])) (fun t_ k_ => XS.ifYes X6.here hx rfl (pc0 := 85) (pc' := 92) rfl (hb hby at_85) rfl ((if0 _ _).trans (feq (c85_8 : ¬ (pA = (0 : Int32)))).2) (by decide) (by decide) k_) ?_
        refine own_by (T' := T6) (g' := (mkF m 93 #[.val (.int aa), .val (.int bb), .val (.int cc), .val (.int kk), .val (.int dd), .val (.int ee), .val (.int pA), .val (.int pB), .val (.int cm), .val (.double (own_v pA pB cm)), .second, .unset, .unset, .unset, .unset, .unset, .unset, .unset, .unset, .unset, .unset, .unset] [(.double FP.dconst0), (.double (own_v pA pB cm))])) (fun t_ k_ => XS.dconst0 X6.here hx rfl (hb hby at_92) rfl k_) ?_
        refine own_by (T' := T6) (g' := (mkF m 94 #[.val (.int aa), .val (.int bb), .val (.int cc), .val (.int kk), .val (.int dd), .val (.int ee), .val (.int pA), .val (.int pB), .val (.int cm), .val (.double (own_v pA pB cm)), .second, .unset, .unset, .unset, .unset, .unset, .unset, .unset, .unset, .unset, .unset, .unset] [(.int (cmpValue (FP.dcmp (own_v pA pB cm) FP.dconst0) .l))])) (fun t_ k_ => XS.dcmpS X6.here hx rfl (hb hby at_93) rfl rfl k_) ?_
        refine own_by (T' := T6) (g' := (mkF m 97 #[.val (.int aa), .val (.int bb), .val (.int cc), .val (.int kk), .val (.int dd), .val (.int ee), .val (.int pA), .val (.int pB), .val (.int cm), .val (.double (own_v pA pB cm)), .second, .unset, .unset, .unset, .unset, .unset, .unset, .unset, .unset, .unset, .unset, .unset] [])) (fun t_ k_ => XS.ifNo X6.here hx rfl (hb hby at_94) rfl ((if0 _ _).trans (teq ((own_h94b c78_7 c85_8) : (cmpValue (FP.dcmp (own_v pA pB cm) FP.dconst0) .l) = (0 : Int32))).2) k_) ?_
        refine own_by (T' := T6) (g' := (mkF m 98 #[.val (.int aa), .val (.int bb), .val (.int cc), .val (.int kk), .val (.int dd), .val (.int ee), .val (.int pA), .val (.int pB), .val (.int cm), .val (.double (own_v pA pB cm)), .second, .unset, .unset, .unset, .unset, .unset, .unset, .unset, .unset, .unset, .unset, .unset] [(.int (1 : Int32))])) (fun t_ k_ => XS.iconst X6.here hx rfl (hb hby at_97) k_) ?_
        refine own_by (T' := T6) (g' := (mkF m 102 #[.val (.int aa), .val (.int bb), .val (.int cc), .val (.int kk), .val (.int dd), .val (.int ee), .val (.int pA), .val (.int pB), .val (.int cm), .val (.double (own_v pA pB cm)), .second, .unset, .unset, .unset, .unset, .unset, .unset, .unset, .unset, .unset, .unset, .unset] [(.int (1 : Int32))])) (fun t_ k_ => XS.goto X6.here hx rfl (pc0 := 98) (pc' := 102) rfl (hb hby at_98) (by decide) (by decide) k_) ?_
        refine own_retN X6 hx (t := .boolean) Bd.returns hlk (by simp) (hb hby at_102) (by decide) (by decide) (v := (1 : Int32)) rfl ?_
        rw [e6]
        exact ⟨rfl, N6⟩
    · skip
      refine own_by (T' := T6) (g' := (mkF m 103 #[.val (.int aa), .val (.int bb), .val (.int cc), .val (.int kk), .val (.int dd), .val (.int ee), .val (.int pA), .val (.int pB), .val (.int cm), .val (.double (own_v pA pB cm)), .second, .unset, .unset, .unset, .unset, .unset, .unset, .unset, .unset, .unset, .unset, .unset] [])) (fun t_ k_ => XS.ifYes X6.here hx rfl (pc0 := 78) (pc' := 103) rfl (hb hby at_78) rfl ((if0 _ _).trans (feq (c78_7 : ¬ (pB = (0 : Int32)))).2) (by decide) (by decide) k_) ?_
      have hP := own_bpos hB c78_7
      obtain ⟨vv, evv⟩ : ∃ z, z = (own_v pA pB cm) := ⟨_, rfl⟩
      rw [← evv]
      have hvv := evv.trans (own_vpos hP)
      refine own_by (T' := T6) (g' := (mkF m 104 #[.val (.int aa), .val (.int bb), .val (.int cc), .val (.int kk), .val (.int dd), .val (.int ee), .val (.int pA), .val (.int pB), .val (.int cm), .val (.double vv), .second, .unset, .unset, .unset, .unset, .unset, .unset, .unset, .unset, .unset, .unset, .unset] [(.double FP.dconst0)])) (fun t_ k_ => XS.dconst0 X6.here hx rfl (hb hby at_103) rfl k_) ?_
      refine own_by (T' := T6) (g' := (mkF m 106 #[.val (.int aa), .val (.int bb), .val (.int cc), .val (.int kk), .val (.int dd), .val (.int ee), .val (.int pA), .val (.int pB), .val (.int cm), .val (.double vv), .second, .unset, .unset, .unset, .unset, .unset, .unset, .unset, .unset, .unset, .unset, .unset] [(.double vv), (.double FP.dconst0)])) (fun t_ k_ => XS.dload X6.here hx rfl (hb hby at_104) rfl k_) ?_
      refine own_by (T' := T6) (g' := (mkF m 107 #[.val (.int aa), .val (.int bb), .val (.int cc), .val (.int kk), .val (.int dd), .val (.int ee), .val (.int pA), .val (.int pB), .val (.int cm), .val (.double vv), .second, .unset, .unset, .unset, .unset, .unset, .unset, .unset, .unset, .unset, .unset, .unset] [(.int (cmpValue (FP.dcmp FP.dconst0 vv) .g))])) (fun t_ k_ => XS.dcmpS X6.here hx rfl (hb hby at_106) rfl rfl k_) ?_
      refine own_by (T' := T6) (g' := (mkF m 110 #[.val (.int aa), .val (.int bb), .val (.int cc), .val (.int kk), .val (.int dd), .val (.int ee), .val (.int pA), .val (.int pB), .val (.int cm), .val (.double vv), .second, .unset, .unset, .unset, .unset, .unset, .unset, .unset, .unset, .unset, .unset, .unset] [])) (fun t_ k_ => XS.ifNo X6.here hx rfl (hb hby at_107) rfl ((if0 _ _).trans (flt ((own_h107 hvv hP hC) : ¬ ((0 : Int32) < (cmpValue (FP.dcmp FP.dconst0 vv) .g)))).2.2.1) k_) ?_
      refine own_by (T' := T6) (g' := (mkF m 112 #[.val (.int aa), .val (.int bb), .val (.int cc), .val (.int kk), .val (.int dd), .val (.int ee), .val (.int pA), .val (.int pB), .val (.int cm), .val (.double vv), .second, .unset, .unset, .unset, .unset, .unset, .unset, .unset, .unset, .unset, .unset, .unset] [(.double vv)])) (fun t_ k_ => XS.dload X6.here hx rfl (hb hby at_110) rfl k_) ?_
      refine own_by (T' := T6) (g' := (mkF m 113 #[.val (.int aa), .val (.int bb), .val (.int cc), .val (.int kk), .val (.int dd), .val (.int ee), .val (.int pA), .val (.int pB), .val (.int cm), .val (.double vv), .second, .unset, .unset, .unset, .unset, .unset, .unset, .unset, .unset, .unset, .unset, .unset] [(.double FP.dconst1), (.double vv)])) (fun t_ k_ => XS.dconst1 X6.here hx rfl (hb hby at_112) rfl k_) ?_
      refine own_by (T' := T6) (g' := (mkF m 114 #[.val (.int aa), .val (.int bb), .val (.int cc), .val (.int kk), .val (.int dd), .val (.int ee), .val (.int pA), .val (.int pB), .val (.int cm), .val (.double vv), .second, .unset, .unset, .unset, .unset, .unset, .unset, .unset, .unset, .unset, .unset, .unset] [(.int (cmpValue (FP.dcmp vv FP.dconst1) .g))])) (fun t_ k_ => XS.dcmpS X6.here hx rfl (hb hby at_113) rfl rfl k_) ?_
      refine own_by (T' := T6) (g' := (mkF m 119 #[.val (.int aa), .val (.int bb), .val (.int cc), .val (.int kk), .val (.int dd), .val (.int ee), .val (.int pA), .val (.int pB), .val (.int cm), .val (.double vv), .second, .unset, .unset, .unset, .unset, .unset, .unset, .unset, .unset, .unset, .unset, .unset] [])) (fun t_ k_ => XS.ifYes X6.here hx rfl (pc0 := 114) (pc' := 119) rfl (hb hby at_114) rfl ((if0 _ _).trans (flt ((own_h114 hvv hP hC) : ¬ ((0 : Int32) < (cmpValue (FP.dcmp vv FP.dconst1) .g)))).2.2.2) (by decide) (by decide) k_) ?_
      have k310 : ∀ (qq : Int32) (pp : Int32) (rv : UInt64) (lh : Int64) (rh : Int64) (T1 : State) (hh : Heap) (lo : List Loc), Stand p l e room_1 s m #[(.int aa), (.int bb), (.int cc), (.int kk), (.int dd), (.int ee)] below meth c T1 lo 2 6 → T1.heap = hh → Fr n0 lo → n0 ≤ hh.size → own_Goes p e below (own_K (own_Q_law Z aa bb cc kk dd ee h0 n0) s room_1.cells room_1.slots) T1 (mkF m 310 #[.val (.int aa), .val (.int bb), .val (.int cc), .val (.int kk), .val (.int dd), .val (.int ee), .val (.int pA), .val (.int pB), .val (.int cm), .val (.double vv), .second, .val (.int qq), .val (.int pp), .val (.double rv), .second, .val (.long lh), .second, .val (.long rh), .second, .unset, .unset, .unset] []) := by
        intro qq pp rv lh rh T1 hh lo X1 e1 N1 u0 
        refine own_by (T' := T1) (g' := (mkF m 312 #[.val (.int aa), .val (.int bb), .val (.int cc), .val (.int kk), .val (.int dd), .val (.int ee), .val (.int pA), .val (.int pB), .val (.int cm), .val (.double vv), .second, .val (.int qq), .val (.int pp), .val (.double rv), .second, .val (.long lh), .second, .val (.long rh), .second, .unset, .unset, .unset] [(.int dd)])) (fun t_ k_ => XS.iload X1.here hx rfl (hb hby at_310) rfl k_) ?_
        refine own_by (T' := T1) (g' := (mkF m 313 #[.val (.int aa), .val (.int bb), .val (.int cc), .val (.int kk), .val (.int dd), .val (.int ee), .val (.int pA), .val (.int pB), .val (.int cm), .val (.double vv), .second, .val (.int qq), .val (.int pp), .val (.double rv), .second, .val (.long lh), .second, .val (.long rh), .second, .unset, .unset, .unset] [(.int (3 : Int32)), (.int dd)])) (fun t_ k_ => XS.iconst X1.here hx rfl (hb hby at_312) k_) ?_
        refine own_by (T' := T1) (g' := (mkF m 314 #[.val (.int aa), .val (.int bb), .val (.int cc), .val (.int kk), .val (.int dd), .val (.int ee), .val (.int pA), .val (.int pB), .val (.int cm), .val (.double vv), .second, .val (.int qq), .val (.int pp), .val (.double rv), .second, .val (.long lh), .second, .val (.long rh), .second, .unset, .unset, .unset] [(.int (dd &&& (3 : Int32)))])) (fun t_ k_ => XS.iand X1.here hx rfl (hb hby at_313) rfl k_) ?_
        refine own_by (T' := T1) (g' := (mkF m 315 #[.val (.int aa), .val (.int bb), .val (.int cc), .val (.int kk), .val (.int dd), .val (.int ee), .val (.int pA), .val (.int pB), .val (.int cm), .val (.double vv), .second, .val (.int qq), .val (.int pp), .val (.double rv), .second, .val (.long lh), .second, .val (.long rh), .second, .unset, .unset, .unset] [(.int (1 : Int32)), (.int (dd &&& (3 : Int32)))])) (fun t_ k_ => XS.iconst X1.here hx rfl (hb hby at_314) k_) ?_
        refine own_by (T' := T1) (g' := (mkF m 316 #[.val (.int aa), .val (.int bb), .val (.int cc), .val (.int kk), .val (.int dd), .val (.int ee), .val (.int pA), .val (.int pB), .val (.int cm), .val (.double vv), .second, .val (.int qq), .val (.int pp), .val (.double rv), .second, .val (.long lh), .second, .val (.long rh), .second, .unset, .unset, .unset] [(.int ((dd &&& (3 : Int32)) + (1 : Int32)))])) (fun t_ k_ => XS.iadd X1.here hx rfl (hb hby at_315) rfl k_) ?_
        refine own_by (T' := T1) (g' := (mkF m 318 #[.val (.int aa), .val (.int bb), .val (.int cc), .val (.int kk), .val (.int dd), .val (.int ee), .val (.int pA), .val (.int pB), .val (.int cm), .val (.double vv), .second, .val (.int qq), .val (.int pp), .val (.double rv), .second, .val (.long lh), .second, .val (.long rh), .second, .val (.int ((dd &&& (3 : Int32)) + (1 : Int32))), .unset, .unset] [])) (fun t_ k_ => XS.istore X1.here hx rfl (hb hby at_316) rfl (l' := #[.val (.int aa), .val (.int bb), .val (.int cc), .val (.int kk), .val (.int dd), .val (.int ee), .val (.int pA), .val (.int pB), .val (.int cm), .val (.double vv), .second, .val (.int qq), .val (.int pp), .val (.double rv), .second, .val (.long lh), .second, .val (.long rh), .second, .val (.int ((dd &&& (3 : Int32)) + (1 : Int32))), .unset, .unset]) rfl k_) ?_
        obtain ⟨mm, hmm⟩ : ∃ z, z = ((dd &&& (3 : Int32)) + (1 : Int32)) := ⟨_, rfl⟩
        rw [← hmm]
        have pmm := own_m4 dd
        rw [← hmm] at pmm
        refine own_by (T' := T1) (g' := (mkF m 320 #[.val (.int aa), .val (.int bb), .val (.int cc), .val (.int kk), .val (.int dd), .val (.int ee), .val (.int pA), .val (.int pB), .val (.int cm), .val (.double vv), .second, .val (.int qq), .val (.int pp), .val (.double rv), .second, .val (.long lh), .second, .val (.long rh), .second, .val (.int mm), .unset, .unset] [(.int pB)])) (fun t_ k_ => XS.iload X1.here hx rfl (hb hby at_318) rfl k_) ?_
        refine own_by (T' := T1) (g' := (mkF m 322 #[.val (.int aa), .val (.int bb), .val (.int cc), .val (.int kk), .val (.int dd), .val (.int ee), .val (.int pA), .val (.int pB), .val (.int cm), .val (.double vv), .second, .val (.int qq), .val (.int pp), .val (.double rv), .second, .val (.long lh), .second, .val (.long rh), .second, .val (.int mm), .unset, .unset] [(.int (2147483647 : Int32)), (.int pB)])) (fun t_ k_ => X1.ldcInt hx hown (mvT hZ (hw _ (List.mem_of_getElem? (i := 0) rfl))) (g := (mkF m 320 #[.val (.int aa), .val (.int bb), .val (.int cc), .val (.int kk), .val (.int dd), .val (.int ee), .val (.int pA), .val (.int pB), .val (.int cm), .val (.double vv), .second, .val (.int qq), .val (.int pp), .val (.double rv), .second, .val (.long lh), .second, .val (.long rh), .second, .val (.int mm), .unset, .unset] [(.int pB)])) rfl (hb hby at_320) _ k_) ?_
        refine own_by (T' := T1) (g' := (mkF m 324 #[.val (.int aa), .val (.int bb), .val (.int cc), .val (.int kk), .val (.int dd), .val (.int ee), .val (.int pA), .val (.int pB), .val (.int cm), .val (.double vv), .second, .val (.int qq), .val (.int pp), .val (.double rv), .second, .val (.long lh), .second, .val (.long rh), .second, .val (.int mm), .unset, .unset] [(.int mm), (.int (2147483647 : Int32)), (.int pB)])) (fun t_ k_ => XS.iload X1.here hx rfl (hb hby at_322) rfl k_) ?_
        refine own_by (T' := T1) (g' := (mkF m 325 #[.val (.int aa), .val (.int bb), .val (.int cc), .val (.int kk), .val (.int dd), .val (.int ee), .val (.int pA), .val (.int pB), .val (.int cm), .val (.double vv), .second, .val (.int qq), .val (.int pp), .val (.double rv), .second, .val (.long lh), .second, .val (.long rh), .second, .val (.int mm), .unset, .unset] [(.int ((2147483647 : Int32) / mm)), (.int pB)])) (fun t_ k_ => XS.idiv X1.here hx rfl (hb hby at_324) rfl (own_mnz pmm) k_) ?_
        by_cases c325_9 : ((2147483647 : Int32) / mm) < pB
        · skip
          refine own_by (T' := T1) (g' := (mkF m 364 #[.val (.int aa), .val (.int bb), .val (.int cc), .val (.int kk), .val (.int dd), .val (.int ee), .val (.int pA), .val (.int pB), .val (.int cm), .val (.double vv), .second, .val (.int qq), .val (.int pp), .val (.double rv), .second, .val (.long lh), .second, .val (.long rh), .second, .val (.int mm), .unset, .unset] [])) (fun t_ k_ => XS.icmpYes X1.here hx rfl (pc0 := 325) (pc' := 364) rfl (hb hby at_325) rfl (tlt (c325_9 : ((2147483647 : Int32) / mm) < pB)).2.2.1 (by decide) (by decide) k_) ?_
          refine own_by (T' := T1) (g' := (mkF m 365 #[.val (.int aa), .val (.int bb), .val (.int cc), .val (.int kk), .val (.int dd), .val (.int ee), .val (.int pA), .val (.int pB), .val (.int cm), .val (.double vv), .second, .val (.int qq), .val (.int pp), .val (.double rv), .second, .val (.long lh), .second, .val (.long rh), .second, .val (.int mm), .unset, .unset] [(.int (1 : Int32))])) (fun t_ k_ => XS.iconst X1.here hx rfl (hb hby at_364) k_) ?_
          refine own_retN X1 hx (t := .boolean) Bd.returns hlk (by simp) (hb hby at_365) (by decide) (by decide) (v := (1 : Int32)) rfl ?_
          rw [e1]
          exact ⟨rfl, N1⟩
        · skip
          refine own_by (T' := T1) (g' := (mkF m 328 #[.val (.int aa), .val (.int bb), .val (.int cc), .val (.int kk), .val (.int dd), .val (.int ee), .val (.int pA), .val (.int pB), .val (.int cm), .val (.double vv), .second, .val (.int qq), .val (.int pp), .val (.double rv), .second, .val (.long lh), .second, .val (.long rh), .second, .val (.int mm), .unset, .unset] [])) (fun t_ k_ => XS.icmpNo X1.here hx rfl (hb hby at_325) rfl (flt (c325_9 : ¬ (((2147483647 : Int32) / mm) < pB))).2.2.1 k_) ?_
          obtain ⟨T10, h10, X10, e10, E10, A10, D10, -, st10⟩ := newO X1 hx hZ hown (hw _ (List.mem_of_getElem? (i := 2) rfl)) (hw _ (List.mem_of_getElem? (i := 3) rfl)) (hw _ (List.mem_of_getElem? (i := 4) rfl)) e1 (g := (mkF m 328 #[.val (.int aa), .val (.int bb), .val (.int cc), .val (.int kk), .val (.int dd), .val (.int ee), .val (.int pA), .val (.int pB), .val (.int cm), .val (.double vv), .second, .val (.int qq), .val (.int pp), .val (.double rv), .second, .val (.long lh), .second, .val (.long rh), .second, .val (.int mm), .unset, .unset] [])) rfl (hb hby at_328) (by decide) (by decide)
          obtain ⟨b10, g10⟩ : ∃ z, z = hh.size := ⟨_, rfl⟩
          rw [← g10] at A10 D10 st10
          have g_b10 : n0 ≤ b10 := Nat.le_trans u0 (Nat.le_of_eq g10.symm)
          have f11 := Nat.le_trans u0 E10.1
          have F10_pairsA : Fld Z h10 b10 "com/example/arcwright/arcwright/model/route/Similarity" "pairsA" "I" (.int (0 : Int32)) := D10 (Or.inr (hw _ (List.mem_of_getElem? (i := 17) rfl))) (ty := .int) (by decide)
          have F10_pairsB : Fld Z h10 b10 "com/example/arcwright/arcwright/model/route/Similarity" "pairsB" "I" (.int (0 : Int32)) := D10 (Or.inr (hw _ (List.mem_of_getElem? (i := 19) rfl))) (ty := .int) (by decide)
          have F10_common : Fld Z h10 b10 "com/example/arcwright/arcwright/model/route/Similarity" "common" "I" (.int (0 : Int32)) := D10 (Or.inr (hw _ (List.mem_of_getElem? (i := 21) rfl))) (ty := .int) (by decide)
          refine own_by (T' := T10) (g' := (mkF m 331 #[.val (.int aa), .val (.int bb), .val (.int cc), .val (.int kk), .val (.int dd), .val (.int ee), .val (.int pA), .val (.int pB), .val (.int cm), .val (.double vv), .second, .val (.int qq), .val (.int pp), .val (.double rv), .second, .val (.long lh), .second, .val (.long rh), .second, .val (.int mm), .unset, .unset] [(.ref b10)])) st10 ?_
          refine own_by (T' := T10) (g' := (mkF m 332 #[.val (.int aa), .val (.int bb), .val (.int cc), .val (.int kk), .val (.int dd), .val (.int ee), .val (.int pA), .val (.int pB), .val (.int cm), .val (.double vv), .second, .val (.int qq), .val (.int pp), .val (.double rv), .second, .val (.long lh), .second, .val (.long rh), .second, .val (.int mm), .unset, .unset] [(.ref b10), (.ref b10)])) (fun t_ k_ => XS.dup X10.here hx rfl (hb hby at_331) rfl rfl k_) ?_
          refine own_by (T' := T10) (g' := (mkF m 334 #[.val (.int aa), .val (.int bb), .val (.int cc), .val (.int kk), .val (.int dd), .val (.int ee), .val (.int pA), .val (.int pB), .val (.int cm), .val (.double vv), .second, .val (.int qq), .val (.int pp), .val (.double rv), .second, .val (.long lh), .second, .val (.long rh), .second, .val (.int mm), .unset, .unset] [(.int dd), (.ref b10), (.ref b10)])) (fun t_ k_ => XS.iload X10.here hx rfl (hb hby at_332) rfl k_) ?_
          refine own_by (T' := T10) (g' := (mkF m 335 #[.val (.int aa), .val (.int bb), .val (.int cc), .val (.int kk), .val (.int dd), .val (.int ee), .val (.int pA), .val (.int pB), .val (.int cm), .val (.double vv), .second, .val (.int qq), .val (.int pp), .val (.double rv), .second, .val (.long lh), .second, .val (.long rh), .second, .val (.int mm), .unset, .unset] [(.int (2 : Int32)), (.int dd), (.ref b10), (.ref b10)])) (fun t_ k_ => XS.iconst X10.here hx rfl (hb hby at_334) k_) ?_
          refine own_by (T' := T10) (g' := (mkF m 336 #[.val (.int aa), .val (.int bb), .val (.int cc), .val (.int kk), .val (.int dd), .val (.int ee), .val (.int pA), .val (.int pB), .val (.int cm), .val (.double vv), .second, .val (.int qq), .val (.int pp), .val (.double rv), .second, .val (.long lh), .second, .val (.long rh), .second, .val (.int mm), .unset, .unset] [(.int ((dd.toUInt32 >>> ((2 : Int32) &&& 31).toUInt32).toInt32)), (.ref b10), (.ref b10)])) (fun t_ k_ => XS.iushr X10.here hx rfl (hb hby at_335) rfl k_) ?_
          refine own_by (T' := T10) (g' := (mkF m 338 #[.val (.int aa), .val (.int bb), .val (.int cc), .val (.int kk), .val (.int dd), .val (.int ee), .val (.int pA), .val (.int pB), .val (.int cm), .val (.double vv), .second, .val (.int qq), .val (.int pp), .val (.double rv), .second, .val (.long lh), .second, .val (.long rh), .second, .val (.int mm), .unset, .unset] [(.int pB), (.int ((dd.toUInt32 >>> ((2 : Int32) &&& 31).toUInt32).toInt32)), (.ref b10), (.ref b10)])) (fun t_ k_ => XS.iload X10.here hx rfl (hb hby at_336) rfl k_) ?_
          refine own_by (T' := T10) (g' := (mkF m 340 #[.val (.int aa), .val (.int bb), .val (.int cc), .val (.int kk), .val (.int dd), .val (.int ee), .val (.int pA), .val (.int pB), .val (.int cm), .val (.double vv), .second, .val (.int qq), .val (.int pp), .val (.double rv), .second, .val (.long lh), .second, .val (.long rh), .second, .val (.int mm), .unset, .unset] [(.int mm), (.int pB), (.int ((dd.toUInt32 >>> ((2 : Int32) &&& 31).toUInt32).toInt32)), (.ref b10), (.ref b10)])) (fun t_ k_ => XS.iload X10.here hx rfl (hb hby at_338) rfl k_) ?_
          refine own_by (T' := T10) (g' := (mkF m 341 #[.val (.int aa), .val (.int bb), .val (.int cc), .val (.int kk), .val (.int dd), .val (.int ee), .val (.int pA), .val (.int pB), .val (.int cm), .val (.double vv), .second, .val (.int qq), .val (.int pp), .val (.double rv), .second, .val (.long lh), .second, .val (.long rh), .second, .val (.int mm), .unset, .unset] [(.int (pB * mm)), (.int ((dd.toUInt32 >>> ((2 : Int32) &&& 31).toUInt32).toInt32)), (.ref b10), (.ref b10)])) (fun t_ k_ => XS.imul X10.here hx rfl (hb hby at_340) rfl k_) ?_
          refine own_by (T' := T10) (g' := (mkF m 343 #[.val (.int aa), .val (.int bb), .val (.int cc), .val (.int kk), .val (.int dd), .val (.int ee), .val (.int pA), .val (.int pB), .val (.int cm), .val (.double vv), .second, .val (.int qq), .val (.int pp), .val (.double rv), .second, .val (.long lh), .second, .val (.long rh), .second, .val (.int mm), .unset, .unset] [(.int cm), (.int (pB * mm)), (.int ((dd.toUInt32 >>> ((2 : Int32) &&& 31).toUInt32).toInt32)), (.ref b10), (.ref b10)])) (fun t_ k_ => XS.iload X10.here hx rfl (hb hby at_341) rfl k_) ?_
          refine own_by (T' := T10) (g' := (mkF m 345 #[.val (.int aa), .val (.int bb), .val (.int cc), .val (.int kk), .val (.int dd), .val (.int ee), .val (.int pA), .val (.int pB), .val (.int cm), .val (.double vv), .second, .val (.int qq), .val (.int pp), .val (.double rv), .second, .val (.long lh), .second, .val (.long rh), .second, .val (.int mm), .unset, .unset] [(.int mm), (.int cm), (.int (pB * mm)), (.int ((dd.toUInt32 >>> ((2 : Int32) &&& 31).toUInt32).toInt32)), (.ref b10), (.ref b10)])) (fun t_ k_ => XS.iload X10.here hx rfl (hb hby at_343) rfl k_) ?_
          refine own_by (T' := T10) (g' := (mkF m 346 #[.val (.int aa), .val (.int bb), .val (.int cc), .val (.int kk), .val (.int dd), .val (.int ee), .val (.int pA), .val (.int pB), .val (.int cm), .val (.double vv), .second, .val (.int qq), .val (.int pp), .val (.double rv), .second, .val (.long lh), .second, .val (.long rh), .second, .val (.int mm), .unset, .unset] [(.int (cm * mm)), (.int (pB * mm)), (.int ((dd.toUInt32 >>> ((2 : Int32) &&& 31).toUInt32).toInt32)), (.ref b10), (.ref b10)])) (fun t_ k_ => XS.imul X10.here hx rfl (hb hby at_345) rfl k_) ?_
          obtain ⟨_, T12, L12, X12, hQ12, st12⟩ := own_callI X10 hx hZ (y := (⟨"com/example/arcwright/arcwright/model/route/Similarity", "<init>", "(III)V"⟩ : MethodName)) rfl hown (hw _ (List.mem_of_getElem? (i := 5) rfl)) (hw _ (List.mem_of_getElem? (i := 6) rfl)) (hw _ (List.mem_of_getElem? (i := 4) rfl)) (hw _ (List.mem_of_getElem? (i := 7) rfl)) (by decide) (argsL := [(.int ((dd.toUInt32 >>> ((2 : Int32) &&& 31).toUInt32).toInt32)), (.int (pB * mm)), (.int (cm * mm))]) (rest := [(.ref b10)]) (own_rm_ini l Z a0 hw [] b10 ((dd.toUInt32 >>> ((2 : Int32) &&& 31).toUInt32).toInt32) (pB * mm) (cm * mm) h10 n0 f11 A10 g_b10 F10_pairsA F10_pairsB F10_common) e10 (W := 1) (by decide) (by decide) (by decide) (by decide) (g := (mkF m 346 #[.val (.int aa), .val (.int bb), .val (.int cc), .val (.int kk), .val (.int dd), .val (.int ee), .val (.int pA), .val (.int pB), .val (.int cm), .val (.double vv), .second, .val (.int qq), .val (.int pp), .val (.double rv), .second, .val (.long lh), .second, .val (.long rh), .second, .val (.int mm), .unset, .unset] [(.int (cm * mm)), (.int (pB * mm)), (.int ((dd.toUInt32 >>> ((2 : Int32) &&& 31).toUInt32).toInt32)), (.ref b10), (.ref b10)])) rfl (by rw [hml]; rfl) (lenOf own_pd1 rfl) rfl (by show 2 * 0 + _ ≤ _; exact Nat.le_of_eq rfl) (hb hby at_346)
          obtain ⟨rfl, Nq12, Kq12, Eq12, Fq12_pairsA, Fq12_pairsB, Fq12_common⟩ := hQ12
          have N12 := Fr.app N1 Nq12
          have f13 := Nat.le_trans f11 Kq12.1
          have f14 := Exa.keep A10 Kq12
          refine st12 _ ?_
          show own_Goes p e below _ T12 (mkF m 349 #[.val (.int aa), .val (.int bb), .val (.int cc), .val (.int kk), .val (.int dd), .val (.int ee), .val (.int pA), .val (.int pB), .val (.int cm), .val (.double vv), .second, .val (.int qq), .val (.int pp), .val (.double rv), .second, .val (.long lh), .second, .val (.long rh), .second, .val (.int mm), .unset, .unset] [(.ref b10)])
          obtain ⟨_, T15, L15, X15, hQ15, st15⟩ := own_callV X12 hx hZ (y := (⟨"com/example/arcwright/arcwright/model/route/Similarity", "value", "()D"⟩ : MethodName)) hown (hw _ (List.mem_of_getElem? (i := 22) rfl)) (hw _ (List.mem_of_getElem? (i := 23) rfl)) (hw _ (List.mem_of_getElem? (i := 25) rfl)) (hw _ (List.mem_of_getElem? (i := 24) rfl)) (hw _ (List.mem_of_getElem? (i := 4) rfl)) (hw _ (List.mem_of_getElem? (i := 26) rfl)) (by decide) (argsL := []) (rest := []) f14 (own_rm_val l Z a0 hw [] b10 ((dd.toUInt32 >>> ((2 : Int32) &&& 31).toUInt32).toInt32) (pB * mm) (cm * mm) T12.heap n0 f13 Fq12_pairsA Fq12_pairsB Fq12_common (own_mc hC pmm c325_9)) rfl (W := 0) (by decide) (by decide) (by decide) (by decide) (g := (mkF m 349 #[.val (.int aa), .val (.int bb), .val (.int cc), .val (.int kk), .val (.int dd), .val (.int ee), .val (.int pA), .val (.int pB), .val (.int cm), .val (.double vv), .second, .val (.int qq), .val (.int pp), .val (.double rv), .second, .val (.long lh), .second, .val (.long rh), .second, .val (.int mm), .unset, .unset] [(.ref b10)])) rfl (by rw [hml]; rfl) (lenOf own_pd2 rfl) rfl (by show 2 * 0 + _ ≤ _; exact Nat.le_of_eq rfl) (hb hby at_349)
          obtain ⟨rfl, Nq15, e15⟩ := hQ15
          have N15 := Fr.app N12 Nq15
          refine st15 _ ?_
          show own_Goes p e below _ T15 (mkF m 352 #[.val (.int aa), .val (.int bb), .val (.int cc), .val (.int kk), .val (.int dd), .val (.int ee), .val (.int pA), .val (.int pB), .val (.int cm), .val (.double vv), .second, .val (.int qq), .val (.int pp), .val (.double rv), .second, .val (.long lh), .second, .val (.long rh), .second, .val (.int mm), .unset, .unset] [(.double (own_v ((dd.toUInt32 >>> ((2 : Int32) &&& 31).toUInt32).toInt32) (pB * mm) (cm * mm)))])
          refine own_by (T' := T15) (g' := (mkF m 354 #[.val (.int aa), .val (.int bb), .val (.int cc), .val (.int kk), .val (.int dd), .val (.int ee), .val (.int pA), .val (.int pB), .val (.int cm), .val (.double vv), .second, .val (.int qq), .val (.int pp), .val (.double rv), .second, .val (.long lh), .second, .val (.long rh), .second, .val (.int mm), .val (.double (own_v ((dd.toUInt32 >>> ((2 : Int32) &&& 31).toUInt32).toInt32) (pB * mm) (cm * mm))), .second] [])) (fun t_ k_ => XS.dstore X15.here hx rfl (hb hby at_352) rfl (l' := #[.val (.int aa), .val (.int bb), .val (.int cc), .val (.int kk), .val (.int dd), .val (.int ee), .val (.int pA), .val (.int pB), .val (.int cm), .val (.double vv), .second, .val (.int qq), .val (.int pp), .val (.double rv), .second, .val (.long lh), .second, .val (.long rh), .second, .val (.int mm), .val (.double (own_v ((dd.toUInt32 >>> ((2 : Int32) &&& 31).toUInt32).toInt32) (pB * mm) (cm * mm))), .second]) rfl k_) ?_
          obtain ⟨sv, esv⟩ : ∃ z, z = (own_v ((dd.toUInt32 >>> ((2 : Int32) &&& 31).toUInt32).toInt32) (pB * mm) (cm * mm)) := ⟨_, rfl⟩
          rw [← esv]
          have hsv := esv.trans (own_vpos (own_mb hP hC pmm c325_9))
          refine own_by (T' := T15) (g' := (mkF m 356 #[.val (.int aa), .val (.int bb), .val (.int cc), .val (.int kk), .val (.int dd), .val (.int ee), .val (.int pA), .val (.int pB), .val (.int cm), .val (.double vv), .second, .val (.int qq), .val (.int pp), .val (.double rv), .second, .val (.long lh), .second, .val (.long rh), .second, .val (.int mm), .val (.double sv), .second] [(.double sv)])) (fun t_ k_ => XS.dload X15.here hx rfl (hb hby at_354) rfl k_) ?_
          refine own_by (T' := T15) (g' := (mkF m 358 #[.val (.int aa), .val (.int bb), .val (.int cc), .val (.int kk), .val (.int dd), .val (.int ee), .val (.int pA), .val (.int pB), .val (.int cm), .val (.double vv), .second, .val (.int qq), .val (.int pp), .val (.double rv), .second, .val (.long lh), .second, .val (.long rh), .second, .val (.int mm), .val (.double sv), .second] [(.double vv), (.double sv)])) (fun t_ k_ => XS.dload X15.here hx rfl (hb hby at_356) rfl k_) ?_
          refine own_by (T' := T15) (g' := (mkF m 359 #[.val (.int aa), .val (.int bb), .val (.int cc), .val (.int kk), .val (.int dd), .val (.int ee), .val (.int pA), .val (.int pB), .val (.int cm), .val (.double vv), .second, .val (.int qq), .val (.int pp), .val (.double rv), .second, .val (.long lh), .second, .val (.long rh), .second, .val (.int mm), .val (.double sv), .second] [(.int (cmpValue (FP.dcmp sv vv) .l))])) (fun t_ k_ => XS.dcmpS X15.here hx rfl (hb hby at_358) rfl rfl k_) ?_
          refine own_by (T' := T15) (g' := (mkF m 364 #[.val (.int aa), .val (.int bb), .val (.int cc), .val (.int kk), .val (.int dd), .val (.int ee), .val (.int pA), .val (.int pB), .val (.int cm), .val (.double vv), .second, .val (.int qq), .val (.int pp), .val (.double rv), .second, .val (.long lh), .second, .val (.long rh), .second, .val (.int mm), .val (.double sv), .second] [])) (fun t_ k_ => XS.ifYes X15.here hx rfl (pc0 := 359) (pc' := 364) rfl (hb hby at_359) rfl ((if0 _ _).trans (teq ((own_h359 hvv hP hC pmm c325_9 hsv) : (cmpValue (FP.dcmp sv vv) .l) = (0 : Int32))).1) (by decide) (by decide) k_) ?_
          refine own_by (T' := T15) (g' := (mkF m 365 #[.val (.int aa), .val (.int bb), .val (.int cc), .val (.int kk), .val (.int dd), .val (.int ee), .val (.int pA), .val (.int pB), .val (.int cm), .val (.double vv), .second, .val (.int qq), .val (.int pp), .val (.double rv), .second, .val (.long lh), .second, .val (.long rh), .second, .val (.int mm), .val (.double sv), .second] [(.int (1 : Int32))])) (fun t_ k_ => XS.iconst X15.here hx rfl (hb hby at_364) k_) ?_
          refine own_retN X15 hx (t := .boolean) Bd.returns hlk (by simp) (hb hby at_365) (by decide) (by decide) (v := (1 : Int32)) rfl ?_
          rw [e15]
          exact ⟨rfl, N15⟩
      have k200 : ∀  (T1 : State) (hh : Heap) (lo : List Loc), Stand p l e room_1 s m #[(.int aa), (.int bb), (.int cc), (.int kk), (.int dd), (.int ee)] below meth c T1 lo 1 3 → T1.heap = hh → Fr n0 lo → n0 ≤ hh.size → own_Goes p e below (own_K (own_Q_law Z aa bb cc kk dd ee h0 n0) s room_1.cells room_1.slots) T1 (mkF m 200 #[.val (.int aa), .val (.int bb), .val (.int cc), .val (.int kk), .val (.int dd), .val (.int ee), .val (.int pA), .val (.int pB), .val (.int cm), .val (.double vv), .second, .unset, .unset, .unset, .unset, .unset, .unset, .unset, .unset, .unset, .unset, .unset] []) := by
        intro  T1 hh lo X1 e1 N1 u0 
        refine own_by (T' := T1) (g' := (mkF m 201 #[.val (.int aa), .val (.int bb), .val (.int cc), .val (.int kk), .val (.int dd), .val (.int ee), .val (.int pA), .val (.int pB), .val (.int cm), .val (.double vv), .second, .unset, .unset, .unset, .unset, .unset, .unset, .unset, .unset, .unset, .unset, .unset] [(.int kk)])) (fun t_ k_ => XS.iloadN X1.here hx rfl (hb hby at_200) rfl k_) ?_
        refine own_by (T' := T1) (g' := (mkF m 203 #[.val (.int aa), .val (.int bb), .val (.int cc), .val (.int kk), .val (.int dd), .val (.int ee), .val (.int pA), .val (.int pB), .val (.int cm), .val (.double vv), .second, .unset, .unset, .unset, .unset, .unset, .unset, .unset, .unset, .unset, .unset, .unset] [(.int (15 : Int32)), (.int kk)])) (fun t_ k_ => XS.bipush X1.here hx rfl (hb hby at_201) k_) ?_
        refine own_by (T' := T1) (g' := (mkF m 204 #[.val (.int aa), .val (.int bb), .val (.int cc), .val (.int kk), .val (.int dd), .val (.int ee), .val (.int pA), .val (.int pB), .val (.int cm), .val (.double vv), .second, .unset, .unset, .unset, .unset, .unset, .unset, .unset, .unset, .unset, .unset, .unset] [(.int (kk &&& (15 : Int32)))])) (fun t_ k_ => XS.iand X1.here hx rfl (hb hby at_203) rfl k_) ?_
        refine own_by (T' := T1) (g' := (mkF m 205 #[.val (.int aa), .val (.int bb), .val (.int cc), .val (.int kk), .val (.int dd), .val (.int ee), .val (.int pA), .val (.int pB), .val (.int cm), .val (.double vv), .second, .unset, .unset, .unset, .unset, .unset, .unset, .unset, .unset, .unset, .unset, .unset] [(.int (1 : Int32)), (.int (kk &&& (15 : Int32)))])) (fun t_ k_ => XS.iconst X1.here hx rfl (hb hby at_204) k_) ?_
        refine own_by (T' := T1) (g' := (mkF m 206 #[.val (.int aa), .val (.int bb), .val (.int cc), .val (.int kk), .val (.int dd), .val (.int ee), .val (.int pA), .val (.int pB), .val (.int cm), .val (.double vv), .second, .unset, .unset, .unset, .unset, .unset, .unset, .unset, .unset, .unset, .unset, .unset] [(.int ((kk &&& (15 : Int32)) + (1 : Int32)))])) (fun t_ k_ => XS.iadd X1.here hx rfl (hb hby at_205) rfl k_) ?_
        refine own_by (T' := T1) (g' := (mkF m 208 #[.val (.int aa), .val (.int bb), .val (.int cc), .val (.int kk), .val (.int dd), .val (.int ee), .val (.int pA), .val (.int pB), .val (.int cm), .val (.double vv), .second, .val (.int ((kk &&& (15 : Int32)) + (1 : Int32))), .unset, .unset, .unset, .unset, .unset, .unset, .unset, .unset, .unset, .unset] [])) (fun t_ k_ => XS.istore X1.here hx rfl (hb hby at_206) rfl (l' := #[.val (.int aa), .val (.int bb), .val (.int cc), .val (.int kk), .val (.int dd), .val (.int ee), .val (.int pA), .val (.int pB), .val (.int cm), .val (.double vv), .second, .val (.int ((kk &&& (15 : Int32)) + (1 : Int32))), .unset, .unset, .unset, .unset, .unset, .unset, .unset, .unset, .unset, .unset]) rfl k_) ?_
        obtain ⟨qq, hqq⟩ : ∃ z, z = ((kk &&& (15 : Int32)) + (1 : Int32)) := ⟨_, rfl⟩
        rw [← hqq]
        have pqq := own_q16 kk
        rw [← hqq] at pqq
        refine own_by (T' := T1) (g' := (mkF m 209 #[.val (.int aa), .val (.int bb), .val (.int cc), .val (.int kk), .val (.int dd), .val (.int ee), .val (.int pA), .val (.int pB), .val (.int cm), .val (.double vv), .second, .val (.int qq), .unset, .unset, .unset, .unset, .unset, .unset, .unset, .unset, .unset, .unset] [(.int kk)])) (fun t_ k_ => XS.iloadN X1.here hx rfl (hb hby at_208) rfl k_) ?_
        refine own_by (T' := T1) (g' := (mkF m 210 #[.val (.int aa), .val (.int bb), .val (.int cc), .val (.int kk), .val (.int dd), .val (.int ee), .val (.int pA), .val (.int pB), .val (.int cm), .val (.double vv), .second, .val (.int qq), .unset, .unset, .unset, .unset, .unset, .unset, .unset, .unset, .unset, .unset] [(.int (4 : Int32)), (.int kk)])) (fun t_ k_ => XS.iconst X1.here hx rfl (hb hby at_209) k_) ?_
        refine own_by (T' := T1) (g' := (mkF m 211 #[.val (.int aa), .val (.int bb), .val (.int cc), .val (.int kk), .val (.int dd), .val (.int ee), .val (.int pA), .val (.int pB), .val (.int cm), .val (.double vv), .second, .val (.int qq), .unset, .unset, .unset, .unset, .unset, .unset, .unset, .unset, .unset, .unset] [(.int ((kk.toUInt32 >>> ((4 : Int32) &&& 31).toUInt32).toInt32))])) (fun t_ k_ => XS.iushr X1.here hx rfl (hb hby at_210) rfl k_) ?_
        refine own_by (T' := T1) (g' := (mkF m 213 #[.val (.int aa), .val (.int bb), .val (.int cc), .val (.int kk), .val (.int dd), .val (.int ee), .val (.int pA), .val (.int pB), .val (.int cm), .val (.double vv), .second, .val (.int qq), .unset, .unset, .unset, .unset, .unset, .unset, .unset, .unset, .unset, .unset] [(.int (31 : Int32)), (.int ((kk.toUInt32 >>> ((4 : Int32) &&& 31).toUInt32).toInt32))])) (fun t_ k_ => XS.bipush X1.here hx rfl (hb hby at_211) k_) ?_
        refine own_by (T' := T1) (g' := (mkF m 214 #[.val (.int aa), .val (.int bb), .val (.int cc), .val (.int kk), .val (.int dd), .val (.int ee), .val (.int pA), .val (.int pB), .val (.int cm), .val (.double vv), .second, .val (.int qq), .unset, .unset, .unset, .unset, .unset, .unset, .unset, .unset, .unset, .unset] [(.int (((kk.toUInt32 >>> ((4 : Int32) &&& 31).toUInt32).toInt32) &&& (31 : Int32)))])) (fun t_ k_ => XS.iand X1.here hx rfl (hb hby at_213) rfl k_) ?_
        refine own_by (T' := T1) (g' := (mkF m 216 #[.val (.int aa), .val (.int bb), .val (.int cc), .val (.int kk), .val (.int dd), .val (.int ee), .val (.int pA), .val (.int pB), .val (.int cm), .val (.double vv), .second, .val (.int qq), .unset, .unset, .unset, .unset, .unset, .unset, .unset, .unset, .unset, .unset] [(.int qq), (.int (((kk.toUInt32 >>> ((4 : Int32) &&& 31).toUInt32).toInt32) &&& (31 : Int32)))])) (fun t_ k_ => XS.iload X1.here hx rfl (hb hby at_214) rfl k_) ?_
        refine own_by (T' := T1) (g' := (mkF m 217 #[.val (.int aa), .val (.int bb), .val (.int cc), .val (.int kk), .val (.int dd), .val (.int ee), .val (.int pA), .val (.int pB), .val (.int cm), .val (.double vv), .second, .val (.int qq), .unset, .unset, .unset, .unset, .unset, .unset, .unset, .unset, .unset, .unset] [(.int (1 : Int32)), (.int qq), (.int (((kk.toUInt32 >>> ((4 : Int32) &&& 31).toUInt32).toInt32) &&& (31 : Int32)))])) (fun t_ k_ => XS.iconst X1.here hx rfl (hb hby at_216) k_) ?_
        refine own_by (T' := T1) (g' := (mkF m 218 #[.val (.int aa), .val (.int bb), .val (.int cc), .val (.int kk), .val (.int dd), .val (.int ee), .val (.int pA), .val (.int pB), .val (.int cm), .val (.double vv), .second, .val (.int qq), .unset, .unset, .unset, .unset, .unset, .unset, .unset, .unset, .unset, .unset] [(.int (qq + (1 : Int32))), (.int (((kk.toUInt32 >>> ((4 : Int32) &&& 31).toUInt32).toInt32) &&& (31 : Int32)))])) (fun t_ k_ => XS.iadd X1.here hx rfl (hb hby at_217) rfl k_) ?_
        refine own_by (T' := T1) (g' := (mkF m 219 #[.val (.int aa), .val (.int bb), .val (.int cc), .val (.int kk), .val (.int dd), .val (.int ee), .val (.int pA), .val (.int pB), .val (.int cm), .val (.double vv), .second, .val (.int qq), .unset, .unset, .unset, .unset, .unset, .unset, .unset, .unset, .unset, .unset] [(.int ((((kk.toUInt32 >>> ((4 : Int32) &&& 31).toUInt32).toInt32) &&& (31 : Int32)) % (qq + (1 : Int32))))])) (fun t_ k_ => Jvm.RoadKit.iremM X1 hx rfl (hb hby at_218) rfl (own_qnz pqq) k_) ?_
        refine own_by (T' := T1) (g' := (mkF m 221 #[.val (.int aa), .val (.int bb), .val (.int cc), .val (.int kk), .val (.int dd), .val (.int ee), .val (.int pA), .val (.int pB), .val (.int cm), .val (.double vv), .second, .val (.int qq), .val (.int ((((kk.toUInt32 >>> ((4 : Int32) &&& 31).toUInt32).toInt32) &&& (31 : Int32)) % (qq + (1 : Int32)))), .unset, .unset, .unset, .unset, .unset, .unset, .unset, .unset, .unset] [])) (fun t_ k_ => XS.istore X1.here hx rfl (hb hby at_219) rfl (l' := #[.val (.int aa), .val (.int bb), .val (.int cc), .val (.int kk), .val (.int dd), .val (.int ee), .val (.int pA), .val (.int pB), .val (.int cm), .val (.double vv), .second, .val (.int qq), .val (.int ((((kk.toUInt32 >>> ((4 : Int32) &&& 31).toUInt32).toInt32) &&& (31 : Int32)) % (qq + (1 : Int32)))), .unset, .unset, .unset, .unset, .unset, .unset, .unset, .unset, .unset]) rfl k_) ?_
        obtain ⟨pp, hpp⟩ : ∃ z, z = ((((kk.toUInt32 >>> ((4 : Int32) &&& 31).toUInt32).toInt32) &&& (31 : Int32)) % (qq + (1 : Int32))) := ⟨_, rfl⟩
        rw [← hpp]
        have ppp := own_pq ((kk.toUInt32 >>> ((4 : Int32) &&& 31).toUInt32).toInt32) pqq
        rw [← hpp] at ppp
        obtain ⟨T16, h16, X16, e16, E16, A16, D16, -, st16⟩ := newO X1 hx hZ hown (hw _ (List.mem_of_getElem? (i := 2) rfl)) (hw _ (List.mem_of_getElem? (i := 3) rfl)) (hw _ (List.mem_of_getElem? (i := 4) rfl)) e1 (g := (mkF m 221 #[.val (.int aa), .val (.int bb), .val (.int cc), .val (.int kk), .val (.int dd), .val (.int ee), .val (.int pA), .val (.int pB), .val (.int cm), .val (.double vv), .second, .val (.int qq), .val (.int pp), .unset, .unset, .unset, .unset, .unset, .unset, .unset, .unset, .unset] [])) rfl (hb hby at_221) (by decide) (by decide)
        obtain ⟨b16, g16⟩ : ∃ z, z = hh.size := ⟨_, rfl⟩
        rw [← g16] at A16 D16 st16
        have g_b16 : n0 ≤ b16 := Nat.le_trans u0 (Nat.le_of_eq g16.symm)
        have f17 := Nat.le_trans u0 E16.1
        have F16_pairsA : Fld Z h16 b16 "com/example/arcwright/arcwright/model/route/Similarity" "pairsA" "I" (.int (0 : Int32)) := D16 (Or.inr (hw _ (List.mem_of_getElem? (i := 17) rfl))) (ty := .int) (by decide)
        have F16_pairsB : Fld Z h16 b16 "com/example/arcwright/arcwright/model/route/Similarity" "pairsB" "I" (.int (0 : Int32)) := D16 (Or.inr (hw _ (List.mem_of_getElem? (i := 19) rfl))) (ty := .int) (by decide)
        have F16_common : Fld Z h16 b16 "com/example/arcwright/arcwright/model/route/Similarity" "common" "I" (.int (0 : Int32)) := D16 (Or.inr (hw _ (List.mem_of_getElem? (i := 21) rfl))) (ty := .int) (by decide)
        refine own_by (T' := T16) (g' := (mkF m 224 #[.val (.int aa), .val (.int bb), .val (.int cc), .val (.int kk), .val (.int dd), .val (.int ee), .val (.int pA), .val (.int pB), .val (.int cm), .val (.double vv), .second, .val (.int qq), .val (.int pp), .unset, .unset, .unset, .unset, .unset, .unset, .unset, .unset, .unset] [(.ref b16)])) st16 ?_
        refine own_by (T' := T16) (g' := (mkF m 225 #[.val (.int aa), .val (.int bb), .val (.int cc), .val (.int kk), .val (.int dd), .val (.int ee), .val (.int pA), .val (.int pB), .val (.int cm), .val (.double vv), .second, .val (.int qq), .val (.int pp), .unset, .unset, .unset, .unset, .unset, .unset, .unset, .unset, .unset] [(.ref b16), (.ref b16)])) (fun t_ k_ => XS.dup X16.here hx rfl (hb hby at_224) rfl rfl k_) ?_
        refine own_by (T' := T16) (g' := (mkF m 226 #[.val (.int aa), .val (.int bb), .val (.int cc), .val (.int kk), .val (.int dd), .val (.int ee), .val (.int pA), .val (.int pB), .val (.int cm), .val (.double vv), .second, .val (.int qq), .val (.int pp), .unset, .unset, .unset, .unset, .unset, .unset, .unset, .unset, .unset] [(.int (0 : Int32)), (.ref b16), (.ref b16)])) (fun t_ k_ => XS.iconst X16.here hx rfl (hb hby at_225) k_) ?_
        refine own_by (T' := T16) (g' := (mkF m 228 #[.val (.int aa), .val (.int bb), .val (.int cc), .val (.int kk), .val (.int dd), .val (.int ee), .val (.int pA), .val (.int pB), .val (.int cm), .val (.double vv), .second, .val (.int qq), .val (.int pp), .unset, .unset, .unset, .unset, .unset, .unset, .unset, .unset, .unset] [(.int qq), (.int (0 : Int32)), (.ref b16), (.ref b16)])) (fun t_ k_ => XS.iload X16.here hx rfl (hb hby at_226) rfl k_) ?_
        refine own_by (T' := T16) (g' := (mkF m 230 #[.val (.int aa), .val (.int bb), .val (.int cc), .val (.int kk), .val (.int dd), .val (.int ee), .val (.int pA), .val (.int pB), .val (.int cm), .val (.double vv), .second, .val (.int qq), .val (.int pp), .unset, .unset, .unset, .unset, .unset, .unset, .unset, .unset, .unset] [(.int pp), (.int qq), (.int (0 : Int32)), (.ref b16), (.ref b16)])) (fun t_ k_ => XS.iload X16.here hx rfl (hb hby at_228) rfl k_) ?_
        obtain ⟨_, T18, L18, X18, hQ18, st18⟩ := own_callI X16 hx hZ (y := (⟨"com/example/arcwright/arcwright/model/route/Similarity", "<init>", "(III)V"⟩ : MethodName)) rfl hown (hw _ (List.mem_of_getElem? (i := 5) rfl)) (hw _ (List.mem_of_getElem? (i := 6) rfl)) (hw _ (List.mem_of_getElem? (i := 4) rfl)) (hw _ (List.mem_of_getElem? (i := 7) rfl)) (by decide) (argsL := [(.int (0 : Int32)), (.int qq), (.int pp)]) (rest := [(.ref b16)]) (own_rm_ini l Z a0 hw [] b16 (0 : Int32) qq pp h16 n0 f17 A16 g_b16 F16_pairsA F16_pairsB F16_common) e16 (W := 1) (by decide) (by decide) (by decide) (by decide) (g := (mkF m 230 #[.val (.int aa), .val (.int bb), .val (.int cc), .val (.int kk), .val (.int dd), .val (.int ee), .val (.int pA), .val (.int pB), .val (.int cm), .val (.double vv), .second, .val (.int qq), .val (.int pp), .unset, .unset, .unset, .unset, .unset, .unset, .unset, .unset, .unset] [(.int pp), (.int qq), (.int (0 : Int32)), (.ref b16), (.ref b16)])) rfl (by rw [hml]; rfl) (lenOf own_pd1 rfl) rfl (by show 2 * 0 + _ ≤ _; exact Nat.le_of_eq rfl) (hb hby at_230)
        obtain ⟨rfl, Nq18, Kq18, Eq18, Fq18_pairsA, Fq18_pairsB, Fq18_common⟩ := hQ18
        have N18 := Fr.app N1 Nq18
        have f19 := Nat.le_trans f17 Kq18.1
        have f20 := Exa.keep A16 Kq18
        refine st18 _ ?_
        show own_Goes p e below _ T18 (mkF m 233 #[.val (.int aa), .val (.int bb), .val (.int cc), .val (.int kk), .val (.int dd), .val (.int ee), .val (.int pA), .val (.int pB), .val (.int cm), .val (.double vv), .second, .val (.int qq), .val (.int pp), .unset, .unset, .unset, .unset, .unset, .unset, .unset, .unset, .unset] [(.ref b16)])
        obtain ⟨_, T21, L21, X21, hQ21, st21⟩ := own_callV X18 hx hZ (y := (⟨"com/example/arcwright/arcwright/model/route/Similarity", "value", "()D"⟩ : MethodName)) hown (hw _ (List.mem_of_getElem? (i := 22) rfl)) (hw _ (List.mem_of_getElem? (i := 23) rfl)) (hw _ (List.mem_of_getElem? (i := 25) rfl)) (hw _ (List.mem_of_getElem? (i := 24) rfl)) (hw _ (List.mem_of_getElem? (i := 4) rfl)) (hw _ (List.mem_of_getElem? (i := 26) rfl)) (by decide) (argsL := []) (rest := []) f20 (own_rm_val l Z a0 hw [] b16 (0 : Int32) qq pp T18.heap n0 f19 Fq18_pairsA Fq18_pairsB Fq18_common ppp.1) rfl (W := 0) (by decide) (by decide) (by decide) (by decide) (g := (mkF m 233 #[.val (.int aa), .val (.int bb), .val (.int cc), .val (.int kk), .val (.int dd), .val (.int ee), .val (.int pA), .val (.int pB), .val (.int cm), .val (.double vv), .second, .val (.int qq), .val (.int pp), .unset, .unset, .unset, .unset, .unset, .unset, .unset, .unset, .unset] [(.ref b16)])) rfl (by rw [hml]; rfl) (lenOf own_pd2 rfl) rfl (by show 2 * 0 + _ ≤ _; exact Nat.le_of_eq rfl) (hb hby at_233)
        obtain ⟨rfl, Nq21, e21⟩ := hQ21
        have N21 := Fr.app N18 Nq21
        refine st21 _ ?_
        show own_Goes p e below _ T21 (mkF m 236 #[.val (.int aa), .val (.int bb), .val (.int cc), .val (.int kk), .val (.int dd), .val (.int ee), .val (.int pA), .val (.int pB), .val (.int cm), .val (.double vv), .second, .val (.int qq), .val (.int pp), .unset, .unset, .unset, .unset, .unset, .unset, .unset, .unset, .unset] [(.double (own_v (0 : Int32) qq pp))])
        refine own_by (T' := T21) (g' := (mkF m 238 #[.val (.int aa), .val (.int bb), .val (.int cc), .val (.int kk), .val (.int dd), .val (.int ee), .val (.int pA), .val (.int pB), .val (.int cm), .val (.double vv), .second, .val (.int qq), .val (.int pp), .val (.double (own_v (0 : Int32) qq pp)), .second, .unset, .unset, .unset, .unset, .unset, .unset, .unset] [])) (fun t_ k_ => XS.dstore X21.here hx rfl (hb hby at_236) rfl (l' := #[.val (.int aa), .val (.int bb), .val (.int cc), .val (.int kk), .val (.int dd), .val (.int ee), .val (.int pA), .val (.int pB), .val (.int cm), .val (.double vv), .second, .val (.int qq), .val (.int pp), .val (.double (own_v (0 : Int32) qq pp)), .second, .unset, .unset, .unset, .unset, .unset, .unset, .unset]) rfl k_) ?_
        obtain ⟨rv, erv⟩ : ∃ z, z = (own_v (0 : Int32) qq pp) := ⟨_, rfl⟩
        rw [← erv]
        have hrv := erv.trans (own_vpos (show 0 < qq.toInt by omega))
        refine own_by (T' := T21) (g' := (mkF m 240 #[.val (.int aa), .val (.int bb), .val (.int cc), .val (.int kk), .val (.int dd), .val (.int ee), .val (.int pA), .val (.int pB), .val (.int cm), .val (.double vv), .second, .val (.int qq), .val (.int pp), .val (.double rv), .second, .unset, .unset, .unset, .unset, .unset, .unset, .unset] [(.int cm)])) (fun t_ k_ => XS.iload X21.here hx rfl (hb hby at_238) rfl k_) ?_
        refine own_by (T' := T21) (g' := (mkF m 241 #[.val (.int aa), .val (.int bb), .val (.int cc), .val (.int kk), .val (.int dd), .val (.int ee), .val (.int pA), .val (.int pB), .val (.int cm), .val (.double vv), .second, .val (.int qq), .val (.int pp), .val (.double rv), .second, .unset, .unset, .unset, .unset, .unset, .unset, .unset] [(.long cm.toInt64)])) (fun t_ k_ => XS.i2l X21.here hx rfl (hb hby at_240) rfl k_) ?_
        refine own_by (T' := T21) (g' := (mkF m 243 #[.val (.int aa), .val (.int bb), .val (.int cc), .val (.int kk), .val (.int dd), .val (.int ee), .val (.int pA), .val (.int pB), .val (.int cm), .val (.double vv), .second, .val (.int qq), .val (.int pp), .val (.double rv), .second, .unset, .unset, .unset, .unset, .unset, .unset, .unset] [(.int qq), (.long cm.toInt64)])) (fun t_ k_ => XS.iload X21.here hx rfl (hb hby at_241) rfl k_) ?_
        refine own_by (T' := T21) (g' := (mkF m 244 #[.val (.int aa), .val (.int bb), .val (.int cc), .val (.int kk), .val (.int dd), .val (.int ee), .val (.int pA), .val (.int pB), .val (.int cm), .val (.double vv), .second, .val (.int qq), .val (.int pp), .val (.double rv), .second, .unset, .unset, .unset, .unset, .unset, .unset, .unset] [(.long qq.toInt64), (.long cm.toInt64)])) (fun t_ k_ => XS.i2l X21.here hx rfl (hb hby at_243) rfl k_) ?_
        refine own_by (T' := T21) (g' := (mkF m 245 #[.val (.int aa), .val (.int bb), .val (.int cc), .val (.int kk), .val (.int dd), .val (.int ee), .val (.int pA), .val (.int pB), .val (.int cm), .val (.double vv), .second, .val (.int qq), .val (.int pp), .val (.double rv), .second, .unset, .unset, .unset, .unset, .unset, .unset, .unset] [(.long (cm.toInt64 * qq.toInt64))])) (fun t_ k_ => XS.lmul X21.here hx rfl (hb hby at_244) rfl k_) ?_
        refine own_by (T' := T21) (g' := (mkF m 247 #[.val (.int aa), .val (.int bb), .val (.int cc), .val (.int kk), .val (.int dd), .val (.int ee), .val (.int pA), .val (.int pB), .val (.int cm), .val (.double vv), .second, .val (.int qq), .val (.int pp), .val (.double rv), .second, .val (.long (cm.toInt64 * qq.toInt64)), .second, .unset, .unset, .unset, .unset, .unset] [])) (fun t_ k_ => XS.lstore X21.here hx rfl (hb hby at_245) rfl (l' := #[.val (.int aa), .val (.int bb), .val (.int cc), .val (.int kk), .val (.int dd), .val (.int ee), .val (.int pA), .val (.int pB), .val (.int cm), .val (.double vv), .second, .val (.int qq), .val (.int pp), .val (.double rv), .second, .val (.long (cm.toInt64 * qq.toInt64)), .second, .unset, .unset, .unset, .unset, .unset]) rfl k_) ?_
        refine own_by (T' := T21) (g' := (mkF m 249 #[.val (.int aa), .val (.int bb), .val (.int cc), .val (.int kk), .val (.int dd), .val (.int ee), .val (.int pA), .val (.int pB), .val (.int cm), .val (.double vv), .second, .val (.int qq), .val (.int pp), .val (.double rv), .second, .val (.long (cm.toInt64 * qq.toInt64)), .second, .unset, .unset, .unset, .unset, .unset] [(.int pp)])) (fun t_ k_ => XS.iload X21.here hx rfl (hb hby at_247) rfl k_) ?_
        refine own_by (T' := T21) (g' := (mkF m 250 #[.val (.int aa), .val (.int bb), .val (.int cc), .val (.int kk), .val (.int dd), .val (.int ee), .val (.int pA), .val (.int pB), .val (.int cm), .val (.double vv), .second, .val (.int qq), .val (.int pp), .val (.double rv), .second, .val (.long (cm.toInt64 * qq.toInt64)), .second, .unset, .unset, .unset, .unset, .unset] [(.long pp.toInt64)])) (fun t_ k_ => XS.i2l X21.here hx rfl (hb hby at_249) rfl k_) ?_
        refine own_by (T' := T21) (g' := (mkF m 252 #[.val (.int aa), .val (.int bb), .val (.int cc), .val (.int kk), .val (.int dd), .val (.int ee), .val (.int pA), .val (.int pB), .val (.int cm), .val (.double vv), .second, .val (.int qq), .val (.int pp), .val (.double rv), .second, .val (.long (cm.toInt64 * qq.toInt64)), .second, .unset, .unset, .unset, .unset, .unset] [(.int pB), (.long pp.toInt64)])) (fun t_ k_ => XS.iload X21.here hx rfl (hb hby at_250) rfl k_) ?_
        refine own_by (T' := T21) (g' := (mkF m 253 #[.val (.int aa), .val (.int bb), .val (.int cc), .val (.int kk), .val (.int dd), .val (.int ee), .val (.int pA), .val (.int pB), .val (.int cm), .val (.double vv), .second, .val (.int qq), .val (.int pp), .val (.double rv), .second, .val (.long (cm.toInt64 * qq.toInt64)), .second, .unset, .unset, .unset, .unset, .unset] [(.long pB.toInt64), (.long pp.toInt64)])) (fun t_ k_ => XS.i2l X21.here hx rfl (hb hby at_252) rfl k_) ?_
        refine own_by (T' := T21) (g' := (mkF m 254 #[.val (.int aa), .val (.int bb), .val (.int cc), .val (.int kk), .val (.int dd), .val (.int ee), .val (.int pA), .val (.int pB), .val (.int cm), .val (.double vv), .second, .val (.int qq), .val (.int pp), .val (.double rv), .second, .val (.long (cm.toInt64 * qq.toInt64)), .second, .unset, .unset, .unset, .unset, .unset] [(.long (pp.toInt64 * pB.toInt64))])) (fun t_ k_ => XS.lmul X21.here hx rfl (hb hby at_253) rfl k_) ?_
        refine own_by (T' := T21) (g' := (mkF m 256 #[.val (.int aa), .val (.int bb), .val (.int cc), .val (.int kk), .val (.int dd), .val (.int ee), .val (.int pA), .val (.int pB), .val (.int cm), .val (.double vv), .second, .val (.int qq), .val (.int pp), .val (.double rv), .second, .val (.long (cm.toInt64 * qq.toInt64)), .second, .val (.long (pp.toInt64 * pB.toInt64)), .second, .unset, .unset, .unset] [])) (fun t_ k_ => XS.lstore X21.here hx rfl (hb hby at_254) rfl (l' := #[.val (.int aa), .val (.int bb), .val (.int cc), .val (.int kk), .val (.int dd), .val (.int ee), .val (.int pA), .val (.int pB), .val (.int cm), .val (.double vv), .second, .val (.int qq), .val (.int pp), .val (.double rv), .second, .val (.long (cm.toInt64 * qq.toInt64)), .second, .val (.long (pp.toInt64 * pB.toInt64)), .second, .unset, .unset, .unset]) rfl k_) ?_
        refine own_by (T' := T21) (g' := (mkF m 258 #[.val (.int aa), .val (.int bb), .val (.int cc), .val (.int kk), .val (.int dd), .val (.int ee), .val (.int pA), .val (.int pB), .val (.int cm), .val (.double vv), .second, .val (.int qq), .val (.int pp), .val (.double rv), .second, .val (.long (cm.toInt64 * qq.toInt64)), .second, .val (.long (pp.toInt64 * pB.toInt64)), .second, .unset, .unset, .unset] [(.long (cm.toInt64 * qq.toInt64))])) (fun t_ k_ => XS.lload X21.here hx rfl (hb hby at_256) rfl k_) ?_
        refine own_by (T' := T21) (g' := (mkF m 260 #[.val (.int aa), .val (.int bb), .val (.int cc), .val (.int kk), .val (.int dd), .val (.int ee), .val (.int pA), .val (.int pB), .val (.int cm), .val (.double vv), .second, .val (.int qq), .val (.int pp), .val (.double rv), .second, .val (.long (cm.toInt64 * qq.toInt64)), .second, .val (.long (pp.toInt64 * pB.toInt64)), .second, .unset, .unset, .unset] [(.long (pp.toInt64 * pB.toInt64)), (.long (cm.toInt64 * qq.toInt64))])) (fun t_ k_ => XS.lload X21.here hx rfl (hb hby at_258) rfl k_) ?_
        refine own_by (T' := T21) (g' := (mkF m 261 #[.val (.int aa), .val (.int bb), .val (.int cc), .val (.int kk), .val (.int dd), .val (.int ee), .val (.int pA), .val (.int pB), .val (.int cm), .val (.double vv), .second, .val (.int qq), .val (.int pp), .val (.double rv), .second, .val (.long (cm.toInt64 * qq.toInt64)), .second, .val (.long (pp.toInt64 * pB.toInt64)), .second, .unset, .unset, .unset] [(.int (lcmpW (cm.toInt64 * qq.toInt64) (pp.toInt64 * pB.toInt64)))])) (fun t_ k_ => XS.lcmp X21.here hx rfl (hb hby at_260) rfl k_) ?_
        by_cases c261_22 : (cm.toInt64 * qq.toInt64) < (pp.toInt64 * pB.toInt64)
        · skip
          refine own_by (T' := T21) (g' := (mkF m 264 #[.val (.int aa), .val (.int bb), .val (.int cc), .val (.int kk), .val (.int dd), .val (.int ee), .val (.int pA), .val (.int pB), .val (.int cm), .val (.double vv), .second, .val (.int qq), .val (.int pp), .val (.double rv), .second, .val (.long (cm.toInt64 * qq.toInt64)), .second, .val (.long (pp.toInt64 * pB.toInt64)), .second, .unset, .unset, .unset] [])) (fun t_ k_ => XS.ifNo X21.here hx rfl (hb hby at_261) rfl ((if0 _ _).trans (tlt (((lw_lt _ _).mpr c261_22) : (lcmpW (cm.toInt64 * qq.toInt64) (pp.toInt64 * pB.toInt64)) < (0 : Int32))).2.1) k_) ?_
          refine own_by (T' := T21) (g' := (mkF m 266 #[.val (.int aa), .val (.int bb), .val (.int cc), .val (.int kk), .val (.int dd), .val (.int ee), .val (.int pA), .val (.int pB), .val (.int cm), .val (.double vv), .second, .val (.int qq), .val (.int pp), .val (.double rv), .second, .val (.long (cm.toInt64 * qq.toInt64)), .second, .val (.long (pp.toInt64 * pB.toInt64)), .second, .unset, .unset, .unset] [(.double vv)])) (fun t_ k_ => XS.dload X21.here hx rfl (hb hby at_264) rfl k_) ?_
          refine own_by (T' := T21) (g' := (mkF m 268 #[.val (.int aa), .val (.int bb), .val (.int cc), .val (.int kk), .val (.int dd), .val (.int ee), .val (.int pA), .val (.int pB), .val (.int cm), .val (.double vv), .second, .val (.int qq), .val (.int pp), .val (.double rv), .second, .val (.long (cm.toInt64 * qq.toInt64)), .second, .val (.long (pp.toInt64 * pB.toInt64)), .second, .unset, .unset, .unset] [(.double rv), (.double vv)])) (fun t_ k_ => XS.dload X21.here hx rfl (hb hby at_266) rfl k_) ?_
          refine own_by (T' := T21) (g' := (mkF m 269 #[.val (.int aa), .val (.int bb), .val (.int cc), .val (.int kk), .val (.int dd), .val (.int ee), .val (.int pA), .val (.int pB), .val (.int cm), .val (.double vv), .second, .val (.int qq), .val (.int pp), .val (.double rv), .second, .val (.long (cm.toInt64 * qq.toInt64)), .second, .val (.long (pp.toInt64 * pB.toInt64)), .second, .unset, .unset, .unset] [(.int (cmpValue (FP.dcmp vv rv) .g))])) (fun t_ k_ => XS.dcmpS X21.here hx rfl (hb hby at_268) rfl rfl k_) ?_
          refine own_by (T' := T21) (g' := (mkF m 274 #[.val (.int aa), .val (.int bb), .val (.int cc), .val (.int kk), .val (.int dd), .val (.int ee), .val (.int pA), .val (.int pB), .val (.int cm), .val (.double vv), .second, .val (.int qq), .val (.int pp), .val (.double rv), .second, .val (.long (cm.toInt64 * qq.toInt64)), .second, .val (.long (pp.toInt64 * pB.toInt64)), .second, .unset, .unset, .unset] [])) (fun t_ k_ => XS.ifYes X21.here hx rfl (pc0 := 269) (pc' := 274) rfl (hb hby at_269) rfl ((if0 _ _).trans (tlt ((own_h269 hvv hP hC hrv pqq ppp c261_22) : (cmpValue (FP.dcmp vv rv) .g) < (0 : Int32))).1) (by decide) (by decide) k_) ?_
          refine own_by (T' := T21) (g' := (mkF m 276 #[.val (.int aa), .val (.int bb), .val (.int cc), .val (.int kk), .val (.int dd), .val (.int ee), .val (.int pA), .val (.int pB), .val (.int cm), .val (.double vv), .second, .val (.int qq), .val (.int pp), .val (.double rv), .second, .val (.long (cm.toInt64 * qq.toInt64)), .second, .val (.long (pp.toInt64 * pB.toInt64)), .second, .unset, .unset, .unset] [(.long (cm.toInt64 * qq.toInt64))])) (fun t_ k_ => XS.lload X21.here hx rfl (hb hby at_274) rfl k_) ?_
          refine own_by (T' := T21) (g' := (mkF m 278 #[.val (.int aa), .val (.int bb), .val (.int cc), .val (.int kk), .val (.int dd), .val (.int ee), .val (.int pA), .val (.int pB), .val (.int cm), .val (.double vv), .second, .val (.int qq), .val (.int pp), .val (.double rv), .second, .val (.long (cm.toInt64 * qq.toInt64)), .second, .val (.long (pp.toInt64 * pB.toInt64)), .second, .unset, .unset, .unset] [(.long (pp.toInt64 * pB.toInt64)), (.long (cm.toInt64 * qq.toInt64))])) (fun t_ k_ => XS.lload X21.here hx rfl (hb hby at_276) rfl k_) ?_
          refine own_by (T' := T21) (g' := (mkF m 279 #[.val (.int aa), .val (.int bb), .val (.int cc), .val (.int kk), .val (.int dd), .val (.int ee), .val (.int pA), .val (.int pB), .val (.int cm), .val (.double vv), .second, .val (.int qq), .val (.int pp), .val (.double rv), .second, .val (.long (cm.toInt64 * qq.toInt64)), .second, .val (.long (pp.toInt64 * pB.toInt64)), .second, .unset, .unset, .unset] [(.int (lcmpW (cm.toInt64 * qq.toInt64) (pp.toInt64 * pB.toInt64)))])) (fun t_ k_ => XS.lcmp X21.here hx rfl (hb hby at_278) rfl k_) ?_
          refine own_by (T' := T21) (g' := (mkF m 292 #[.val (.int aa), .val (.int bb), .val (.int cc), .val (.int kk), .val (.int dd), .val (.int ee), .val (.int pA), .val (.int pB), .val (.int cm), .val (.double vv), .second, .val (.int qq), .val (.int pp), .val (.double rv), .second, .val (.long (cm.toInt64 * qq.toInt64)), .second, .val (.long (pp.toInt64 * pB.toInt64)), .second, .unset, .unset, .unset] [])) (fun t_ k_ => XS.ifYes X21.here hx rfl (pc0 := 279) (pc' := 292) rfl (hb hby at_279) rfl ((if0 _ _).trans (feq ((fun q_ => (own_ltne c261_22) ((lw_eq _ _).mp q_)) : ¬ ((lcmpW (cm.toInt64 * qq.toInt64) (pp.toInt64 * pB.toInt64)) = (0 : Int32)))).2) (by decide) (by decide) k_) ?_
          refine own_by (T' := T21) (g' := (mkF m 294 #[.val (.int aa), .val (.int bb), .val (.int cc), .val (.int kk), .val (.int dd), .val (.int ee), .val (.int pA), .val (.int pB), .val (.int cm), .val (.double vv), .second, .val (.int qq), .val (.int pp), .val (.double rv), .second, .val (.long (cm.toInt64 * qq.toInt64)), .second, .val (.long (pp.toInt64 * pB.toInt64)), .second, .unset, .unset, .unset] [(.long (cm.toInt64 * qq.toInt64))])) (fun t_ k_ => XS.lload X21.here hx rfl (hb hby at_292) rfl k_) ?_
          refine own_by (T' := T21) (g' := (mkF m 296 #[.val (.int aa), .val (.int bb), .val (.int cc), .val (.int kk), .val (.int dd), .val (.int ee), .val (.int pA), .val (.int pB), .val (.int cm), .val (.double vv), .second, .val (.int qq), .val (.int pp), .val (.double rv), .second, .val (.long (cm.toInt64 * qq.toInt64)), .second, .val (.long (pp.toInt64 * pB.toInt64)), .second, .unset, .unset, .unset] [(.long (pp.toInt64 * pB.toInt64)), (.long (cm.toInt64 * qq.toInt64))])) (fun t_ k_ => XS.lload X21.here hx rfl (hb hby at_294) rfl k_) ?_
          refine own_by (T' := T21) (g' := (mkF m 297 #[.val (.int aa), .val (.int bb), .val (.int cc), .val (.int kk), .val (.int dd), .val (.int ee), .val (.int pA), .val (.int pB), .val (.int cm), .val (.double vv), .second, .val (.int qq), .val (.int pp), .val (.double rv), .second, .val (.long (cm.toInt64 * qq.toInt64)), .second, .val (.long (pp.toInt64 * pB.toInt64)), .second, .unset, .unset, .unset] [(.int (lcmpW (cm.toInt64 * qq.toInt64) (pp.toInt64 * pB.toInt64)))])) (fun t_ k_ => XS.lcmp X21.here hx rfl (hb hby at_296) rfl k_) ?_
          refine own_by (T' := T21) (g' := (mkF m 310 #[.val (.int aa), .val (.int bb), .val (.int cc), .val (.int kk), .val (.int dd), .val (.int ee), .val (.int pA), .val (.int pB), .val (.int cm), .val (.double vv), .second, .val (.int qq), .val (.int pp), .val (.double rv), .second, .val (.long (cm.toInt64 * qq.toInt64)), .second, .val (.long (pp.toInt64 * pB.toInt64)), .second, .unset, .unset, .unset] [])) (fun t_ k_ => XS.ifYes X21.here hx rfl (pc0 := 297) (pc' := 310) rfl (hb hby at_297) rfl ((if0 _ _).trans (flt ((fun q_ => (own_ltas c261_22) ((lw_gt _ _).mp q_)) : ¬ ((0 : Int32) < (lcmpW (cm.toInt64 * qq.toInt64) (pp.toInt64 * pB.toInt64))))).2.2.2) (by decide) (by decide) k_) ?_
          exact k310 qq pp rv (cm.toInt64 * qq.toInt64) (pp.toInt64 * pB.toInt64) T21 T18.heap _ X21 e21 N21 f19 
        · skip
          refine own_by (T' := T21) (g' := (mkF m 274 #[.val (.int aa), .val (.int bb), .val (.int cc), .val (.int kk), .val (.int dd), .val (.int ee), .val (.int pA), .val (.int pB), .val (.int cm), .val (.double vv), .second, .val (.int qq), .val (.int pp), .val (.double rv), .second, .val (.long (cm.toInt64 * qq.toInt64)), .second, .val (.long (pp.toInt64 * pB.toInt64)), .second, .unset, .unset, .unset] [])) (fun t_ k_ => XS.ifYes X21.here hx rfl (pc0 := 261) (pc' := 274) rfl (hb hby at_261) rfl ((if0 _ _).trans (flt ((fun q_ => c261_22 ((lw_lt _ _).mp q_)) : ¬ ((lcmpW (cm.toInt64 * qq.toInt64) (pp.toInt64 * pB.toInt64)) < (0 : Int32)))).2.1) (by decide) (by decide) k_) ?_
          refine own_by (T' := T21) (g' := (mkF m 276 #[.val (.int aa), .val (.int bb), .val (.int cc), .val (.int kk), .val (.int dd), .val (.int ee), .val (.int pA), .val (.int pB), .val (.int cm), .val (.double vv), .second, .val (.int qq), .val (.int pp), .val (.double rv), .second, .val (.long (cm.toInt64 * qq.toInt64)), .second, .val (.long (pp.toInt64 * pB.toInt64)), .second, .unset, .unset, .unset] [(.long (cm.toInt64 * qq.toInt64))])) (fun t_ k_ => XS.lload X21.here hx rfl (hb hby at_274) rfl k_) ?_
          refine own_by (T' := T21) (g' := (mkF m 278 #[.val (.int aa), .val (.int bb), .val (.int cc), .val (.int kk), .val (.int dd), .val (.int ee), .val (.int pA), .val (.int pB), .val (.int cm), .val (.double vv), .second, .val (.int qq), .val (.int pp), .val (.double rv), .second, .val (.long (cm.toInt64 * qq.toInt64)), .second, .val (.long (pp.toInt64 * pB.toInt64)), .second, .unset, .unset, .unset] [(.long (pp.toInt64 * pB.toInt64)), (.long (cm.toInt64 * qq.toInt64))])) (fun t_ k_ => XS.lload X21.here hx rfl (hb hby at_276) rfl k_) ?_
          refine own_by (T' := T21) (g' := (mkF m 279 #[.val (.int aa), .val (.int bb), .val (.int cc), .val (.int kk), .val (.int dd), .val (.int ee), .val (.int pA), .val (.int pB), .val (.int cm), .val (.double vv), .second, .val (.int qq), .val (.int pp), .val (.double rv), .second, .val (.long (cm.toInt64 * qq.toInt64)), .second, .val (.long (pp.toInt64 * pB.toInt64)), .second, .unset, .unset, .unset] [(.int (lcmpW (cm.toInt64 * qq.toInt64) (pp.toInt64 * pB.toInt64)))])) (fun t_ k_ => XS.lcmp X21.here hx rfl (hb hby at_278) rfl k_) ?_
          by_cases c279_23 : (cm.toInt64 * qq.toInt64) = (pp.toInt64 * pB.toInt64)
          · skip
            refine own_by (T' := T21) (g' := (mkF m 282 #[.val (.int aa), .val (.int bb), .val (.int cc), .val (.int kk), .val (.int dd), .val (.int ee), .val (.int pA), .val (.int pB), .val (.int cm), .val (.double vv), .second, .val (.int qq), .val (.int pp), .val (.double rv), .second, .val (.long (cm.toInt64 * qq.toInt64)), .second, .val (.long (pp.toInt64 * pB.toInt64)), .second, .unset, .unset, .unset] [])) (fun t_ k_ => XS.ifNo X21.here hx rfl (hb hby at_279) rfl ((if0 _ _).trans (teq (((lw_eq _ _).mpr c279_23) : (lcmpW (cm.toInt64 * qq.toInt64) (pp.toInt64 * pB.toInt64)) = (0 : Int32))).2) k_) ?_
            refine own_by (T' := T21) (g' := (mkF m 284 #[.val (.int aa), .val (.int bb), .val (.int cc), .val (.int kk), .val (.int dd), .val (.int ee), .val (.int pA), .val (.int pB), .val (.int cm), .val (.double vv), .second, .val (.int qq), .val (.int pp), .val (.double rv), .second, .val (.long (cm.toInt64 * qq.toInt64)), .second, .val (.long (pp.toInt64 * pB.toInt64)), .second, .unset, .unset, .unset] [(.double vv)])) (fun t_ k_ => XS.dload X21.here hx rfl (hb hby at_282) rfl k_) ?_
            refine own_by (T' := T21) (g' := (mkF m 286 #[.val (.int aa), .val (.int bb), .val (.int cc), .val (.int kk), .val (.int dd), .val (.int ee), .val (.int pA), .val (.int pB), .val (.int cm), .val (.double vv), .second, .val (.int qq), .val (.int pp), .val (.double rv), .second, .val (.long (cm.toInt64 * qq.toInt64)), .second, .val (.long (pp.toInt64 * pB.toInt64)), .second, .unset, .unset, .unset] [(.double rv), (.double vv)])) (fun t_ k_ => XS.dload X21.here hx rfl (hb hby at_284) rfl k_) ?_
            refine own_by (T' := T21) (g' := (mkF m 287 #[.val (.int aa), .val (.int bb), .val (.int cc), .val (.int kk), .val (.int dd), .val (.int ee), .val (.int pA), .val (.int pB), .val (.int cm), .val (.double vv), .second, .val (.int qq), .val (.int pp), .val (.double rv), .second, .val (.long (cm.toInt64 * qq.toInt64)), .second, .val (.long (pp.toInt64 * pB.toInt64)), .second, .unset, .unset, .unset] [(.int (cmpValue (FP.dcmp vv rv) .l))])) (fun t_ k_ => XS.dcmpS X21.here hx rfl (hb hby at_286) rfl rfl k_) ?_
            refine own_by (T' := T21) (g' := (mkF m 292 #[.val (.int aa), .val (.int bb), .val (.int cc), .val (.int kk), .val (.int dd), .val (.int ee), .val (.int pA), .val (.int pB), .val (.int cm), .val (.double vv), .second, .val (.int qq), .val (.int pp), .val (.double rv), .second, .val (.long (cm.toInt64 * qq.toInt64)), .second, .val (.long (pp.toInt64 * pB.toInt64)), .second, .unset, .unset, .unset] [])) (fun t_ k_ => XS.ifYes X21.here hx rfl (pc0 := 287) (pc' := 292) rfl (hb hby at_287) rfl ((if0 _ _).trans (teq ((own_h287 hvv hP hC hrv pqq ppp c279_23) : (cmpValue (FP.dcmp vv rv) .l) = (0 : Int32))).1) (by decide) (by decide) k_) ?_
            refine own_by (T' := T21) (g' := (mkF m 294 #[.val (.int aa), .val (.int bb), .val (.int cc), .val (.int kk), .val (.int dd), .val (.int ee), .val (.int pA), .val (.int pB), .val (.int cm), .val (.double vv), .second, .val (.int qq), .val (.int pp), .val (.double rv), .second, .val (.long (cm.toInt64 * qq.toInt64)), .second, .val (.long (pp.toInt64 * pB.toInt64)), .second, .unset, .unset, .unset] [(.long (cm.toInt64 * qq.toInt64))])) (fun t_ k_ => XS.lload X21.here hx rfl (hb hby at_292) rfl k_) ?_
            refine own_by (T' := T21) (g' := (mkF m 296 #[.val (.int aa), .val (.int bb), .val (.int cc), .val (.int kk), .val (.int dd), .val (.int ee), .val (.int pA), .val (.int pB), .val (.int cm), .val (.double vv), .second, .val (.int qq), .val (.int pp), .val (.double rv), .second, .val (.long (cm.toInt64 * qq.toInt64)), .second, .val (.long (pp.toInt64 * pB.toInt64)), .second, .unset, .unset, .unset] [(.long (pp.toInt64 * pB.toInt64)), (.long (cm.toInt64 * qq.toInt64))])) (fun t_ k_ => XS.lload X21.here hx rfl (hb hby at_294) rfl k_) ?_
            refine own_by (T' := T21) (g' := (mkF m 297 #[.val (.int aa), .val (.int bb), .val (.int cc), .val (.int kk), .val (.int dd), .val (.int ee), .val (.int pA), .val (.int pB), .val (.int cm), .val (.double vv), .second, .val (.int qq), .val (.int pp), .val (.double rv), .second, .val (.long (cm.toInt64 * qq.toInt64)), .second, .val (.long (pp.toInt64 * pB.toInt64)), .second, .unset, .unset, .unset] [(.int (lcmpW (cm.toInt64 * qq.toInt64) (pp.toInt64 * pB.toInt64)))])) (fun t_ k_ => XS.lcmp X21.here hx rfl (hb hby at_296) rfl k_) ?_
            refine own_by (T' := T21) (g' := (mkF m 310 #[.val (.int aa), .val (.int bb), .val (.int cc), .val (.int kk), .val (.int dd), .val (.int ee), .val (.int pA), .val (.int pB), .val (.int cm), .val (.double vv), .second, .val (.int qq), .val (.int pp), .val (.double rv), .second, .val (.long (cm.toInt64 * qq.toInt64)), .second, .val (.long (pp.toInt64 * pB.toInt64)), .second, .unset, .unset, .unset] [])) (fun t_ k_ => XS.ifYes X21.here hx rfl (pc0 := 297) (pc' := 310) rfl (hb hby at_297) rfl ((if0 _ _).trans (flt ((fun q_ => (own_eqnl c279_23) ((lw_gt _ _).mp q_)) : ¬ ((0 : Int32) < (lcmpW (cm.toInt64 * qq.toInt64) (pp.toInt64 * pB.toInt64))))).2.2.2) (by decide) (by decide) k_) ?_
            exact k310 qq pp rv (cm.toInt64 * qq.toInt64) (pp.toInt64 * pB.toInt64) T21 T18.heap _ X21 e21 N21 f19 
          · skip
            refine own_by (T' := T21) (g' := (mkF m 292 #[.val (.int aa), .val (.int bb), .val (.int cc), .val (.int kk), .val (.int dd), .val (.int ee), .val (.int pA), .val (.int pB), .val (.int cm), .val (.double vv), .second, .val (.int qq), .val (.int pp), .val (.double rv), .second, .val (.long (cm.toInt64 * qq.toInt64)), .second, .val (.long (pp.toInt64 * pB.toInt64)), .second, .unset, .unset, .unset] [])) (fun t_ k_ => XS.ifYes X21.here hx rfl (pc0 := 279) (pc' := 292) rfl (hb hby at_279) rfl ((if0 _ _).trans (feq ((fun q_ => c279_23 ((lw_eq _ _).mp q_)) : ¬ ((lcmpW (cm.toInt64 * qq.toInt64) (pp.toInt64 * pB.toInt64)) = (0 : Int32)))).2) (by decide) (by decide) k_) ?_
            refine own_by (T' := T21) (g' := (mkF m 294 #[.val (.int aa), .val (.int bb), .val (.int cc), .val (.int kk), .val (.int dd), .val (.int ee), .val (.int pA), .val (.int pB), .val (.int cm), .val (.double vv), .second, .val (.int qq), .val (.int pp), .val (.double rv), .second, .val (.long (cm.toInt64 * qq.toInt64)), .second, .val (.long (pp.toInt64 * pB.toInt64)), .second, .unset, .unset, .unset] [(.long (cm.toInt64 * qq.toInt64))])) (fun t_ k_ => XS.lload X21.here hx rfl (hb hby at_292) rfl k_) ?_
            refine own_by (T' := T21) (g' := (mkF m 296 #[.val (.int aa), .val (.int bb), .val (.int cc), .val (.int kk), .val (.int dd), .val (.int ee), .val (.int pA), .val (.int pB), .val (.int cm), .val (.double vv), .second, .val (.int qq), .val (.int pp), .val (.double rv), .second, .val (.long (cm.toInt64 * qq.toInt64)), .second, .val (.long (pp.toInt64 * pB.toInt64)), .second, .unset, .unset, .unset] [(.long (pp.toInt64 * pB.toInt64)), (.long (cm.toInt64 * qq.toInt64))])) (fun t_ k_ => XS.lload X21.here hx rfl (hb hby at_294) rfl k_) ?_
            refine own_by (T' := T21) (g' := (mkF m 297 #[.val (.int aa), .val (.int bb), .val (.int cc), .val (.int kk), .val (.int dd), .val (.int ee), .val (.int pA), .val (.int pB), .val (.int cm), .val (.double vv), .second, .val (.int qq), .val (.int pp), .val (.double rv), .second, .val (.long (cm.toInt64 * qq.toInt64)), .second, .val (.long (pp.toInt64 * pB.toInt64)), .second, .unset, .unset, .unset] [(.int (lcmpW (cm.toInt64 * qq.toInt64) (pp.toInt64 * pB.toInt64)))])) (fun t_ k_ => XS.lcmp X21.here hx rfl (hb hby at_296) rfl k_) ?_
            refine own_by (T' := T21) (g' := (mkF m 300 #[.val (.int aa), .val (.int bb), .val (.int cc), .val (.int kk), .val (.int dd), .val (.int ee), .val (.int pA), .val (.int pB), .val (.int cm), .val (.double vv), .second, .val (.int qq), .val (.int pp), .val (.double rv), .second, .val (.long (cm.toInt64 * qq.toInt64)), .second, .val (.long (pp.toInt64 * pB.toInt64)), .second, .unset, .unset, .unset] [])) (fun t_ k_ => XS.ifNo X21.here hx rfl (hb hby at_297) rfl ((if0 _ _).trans (tlt (((lw_gt _ _).mpr (own_gt3 c261_22 c279_23)) : (0 : Int32) < (lcmpW (cm.toInt64 * qq.toInt64) (pp.toInt64 * pB.toInt64)))).2.2.2) k_) ?_
            refine own_by (T' := T21) (g' := (mkF m 302 #[.val (.int aa), .val (.int bb), .val (.int cc), .val (.int kk), .val (.int dd), .val (.int ee), .val (.int pA), .val (.int pB), .val (.int cm), .val (.double vv), .second, .val (.int qq), .val (.int pp), .val (.double rv), .second, .val (.long (cm.toInt64 * qq.toInt64)), .second, .val (.long (pp.toInt64 * pB.toInt64)), .second, .unset, .unset, .unset] [(.double vv)])) (fun t_ k_ => XS.dload X21.here hx rfl (hb hby at_300) rfl k_) ?_
            refine own_by (T' := T21) (g' := (mkF m 304 #[.val (.int aa), .val (.int bb), .val (.int cc), .val (.int kk), .val (.int dd), .val (.int ee), .val (.int pA), .val (.int pB), .val (.int cm), .val (.double vv), .second, .val (.int qq), .val (.int pp), .val (.double rv), .second, .val (.long (cm.toInt64 * qq.toInt64)), .second, .val (.long (pp.toInt64 * pB.toInt64)), .second, .unset, .unset, .unset] [(.double rv), (.double vv)])) (fun t_ k_ => XS.dload X21.here hx rfl (hb hby at_302) rfl k_) ?_
            refine own_by (T' := T21) (g' := (mkF m 305 #[.val (.int aa), .val (.int bb), .val (.int cc), .val (.int kk), .val (.int dd), .val (.int ee), .val (.int pA), .val (.int pB), .val (.int cm), .val (.double vv), .second, .val (.int qq), .val (.int pp), .val (.double rv), .second, .val (.long (cm.toInt64 * qq.toInt64)), .second, .val (.long (pp.toInt64 * pB.toInt64)), .second, .unset, .unset, .unset] [(.int (cmpValue (FP.dcmp vv rv) .l))])) (fun t_ k_ => XS.dcmpS X21.here hx rfl (hb hby at_304) rfl rfl k_) ?_
            refine own_by (T' := T21) (g' := (mkF m 310 #[.val (.int aa), .val (.int bb), .val (.int cc), .val (.int kk), .val (.int dd), .val (.int ee), .val (.int pA), .val (.int pB), .val (.int cm), .val (.double vv), .second, .val (.int qq), .val (.int pp), .val (.double rv), .second, .val (.long (cm.toInt64 * qq.toInt64)), .second, .val (.long (pp.toInt64 * pB.toInt64)), .second, .unset, .unset, .unset] [])) (fun t_ k_ => XS.ifYes X21.here hx rfl (pc0 := 305) (pc' := 310) rfl (hb hby at_305) rfl ((if0 _ _).trans (tlt ((own_h305 hvv hP hC hrv pqq ppp (own_gt3 c261_22 c279_23)) : (0 : Int32) < (cmpValue (FP.dcmp vv rv) .l))).2.2.1) (by decide) (by decide) k_) ?_
            exact k310 qq pp rv (cm.toInt64 * qq.toInt64) (pp.toInt64 * pB.toInt64) T21 T18.heap _ X21 e21 N21 f19 
      have k175 : ∀  (T1 : State) (hh : Heap) (lo : List Loc), Stand p l e room_1 s m #[(.int aa), (.int bb), (.int cc), (.int kk), (.int dd), (.int ee)] below meth c T1 lo 1 3 → T1.heap = hh → Fr n0 lo → n0 ≤ hh.size → own_Goes p e below (own_K (own_Q_law Z aa bb cc kk dd ee h0 n0) s room_1.cells room_1.slots) T1 (mkF m 175 #[.val (.int aa), .val (.int bb), .val (.int cc), .val (.int kk), .val (.int dd), .val (.int ee), .val (.int pA), .val (.int pB), .val (.int cm), .val (.double vv), .second, .unset, .unset, .unset, .unset, .unset, .unset, .unset, .unset, .unset, .unset, .unset] []) := by
        intro  T1 hh lo X1 e1 N1 u0 
        refine own_by (T' := T1) (g' := (mkF m 177 #[.val (.int aa), .val (.int bb), .val (.int cc), .val (.int kk), .val (.int dd), .val (.int ee), .val (.int pA), .val (.int pB), .val (.int cm), .val (.double vv), .second, .unset, .unset, .unset, .unset, .unset, .unset, .unset, .unset, .unset, .unset, .unset] [(.int pB)])) (fun t_ k_ => XS.iload X1.here hx rfl (hb hby at_175) rfl k_) ?_
        refine own_by (T' := T1) (g' := (mkF m 179 #[.val (.int aa), .val (.int bb), .val (.int cc), .val (.int kk), .val (.int dd), .val (.int ee), .val (.int pA), .val (.int pB), .val (.int cm), .val (.double vv), .second, .unset, .unset, .unset, .unset, .unset, .unset, .unset, .unset, .unset, .unset, .unset] [(.int pB), (.int pB)])) (fun t_ k_ => XS.iload X1.here hx rfl (hb hby at_177) rfl k_) ?_
        refine own_by (T' := T1) (g' := (mkF m 180 #[.val (.int aa), .val (.int bb), .val (.int cc), .val (.int kk), .val (.int dd), .val (.int ee), .val (.int pA), .val (.int pB), .val (.int cm), .val (.double vv), .second, .unset, .unset, .unset, .unset, .unset, .unset, .unset, .unset, .unset, .unset, .unset] [(.int (1 : Int32)), (.int pB), (.int pB)])) (fun t_ k_ => XS.iconst X1.here hx rfl (hb hby at_179) k_) ?_
        refine own_by (T' := T1) (g' := (mkF m 181 #[.val (.int aa), .val (.int bb), .val (.int cc), .val (.int kk), .val (.int dd), .val (.int ee), .val (.int pA), .val (.int pB), .val (.int cm), .val (.double vv), .second, .unset, .unset, .unset, .unset, .unset, .unset, .unset, .unset, .unset, .unset, .unset] [(.int (pB - (1 : Int32))), (.int pB)])) (fun t_ k_ => XS.isub X1.here hx rfl (hb hby at_180) rfl k_) ?_
        refine own_by (T' := T1) (g' := (mkF m 182 #[.val (.int aa), .val (.int bb), .val (.int cc), .val (.int kk), .val (.int dd), .val (.int ee), .val (.int pA), .val (.int pB), .val (.int cm), .val (.double vv), .second, .unset, .unset, .unset, .unset, .unset, .unset, .unset, .unset, .unset, .unset, .unset] [(.int (pB &&& (pB - (1 : Int32))))])) (fun t_ k_ => XS.iand X1.here hx rfl (hb hby at_181) rfl k_) ?_
        by_cases c182_24 : (pB &&& (pB - (1 : Int32))) = (0 : Int32)
        · skip
          refine own_by (T' := T1) (g' := (mkF m 185 #[.val (.int aa), .val (.int bb), .val (.int cc), .val (.int kk), .val (.int dd), .val (.int ee), .val (.int pA), .val (.int pB), .val (.int cm), .val (.double vv), .second, .unset, .unset, .unset, .unset, .unset, .unset, .unset, .unset, .unset, .unset, .unset] [])) (fun t_ k_ => XS.ifNo X1.here hx rfl (hb hby at_182) rfl ((if0 _ _).trans (teq (c182_24 : (pB &&& (pB - (1 : Int32))) = (0 : Int32))).2) k_) ?_
          refine own_by (T' := T1) (g' := (mkF m 187 #[.val (.int aa), .val (.int bb), .val (.int cc), .val (.int kk), .val (.int dd), .val (.int ee), .val (.int pA), .val (.int pB), .val (.int cm), .val (.double vv), .second, .unset, .unset, .unset, .unset, .unset, .unset, .unset, .unset, .unset, .unset, .unset] [(.double vv)])) (fun t_ k_ => XS.dload X1.here hx rfl (hb hby at_185) rfl k_) ?_
          refine own_by (T' := T1) (g' := (mkF m 189 #[.val (.int aa), .val (.int bb), .val (.int cc), .val (.int kk), .val (.int dd), .val (.int ee), .val (.int pA), .val (.int pB), .val (.int cm), .val (.double vv), .second, .unset, .unset, .unset, .unset, .unset, .unset, .unset, .unset, .unset, .unset, .unset] [(.int pB), (.double vv)])) (fun t_ k_ => XS.iload X1.here hx rfl (hb hby at_187) rfl k_) ?_
          refine own_by (T' := T1) (g' := (mkF m 190 #[.val (.int aa), .val (.int bb), .val (.int cc), .val (.int kk), .val (.int dd), .val (.int ee), .val (.int pA), .val (.int pB), .val (.int cm), .val (.double vv), .second, .unset, .unset, .unset, .unset, .unset, .unset, .unset, .unset, .unset, .unset, .unset] [(.double (FP.i2d pB)), (.double vv)])) (fun t_ k_ => XS.i2dS X1.here hx rfl (hb hby at_189) rfl rfl k_) ?_
          refine own_by (T' := T1) (g' := (mkF m 191 #[.val (.int aa), .val (.int bb), .val (.int cc), .val (.int kk), .val (.int dd), .val (.int ee), .val (.int pA), .val (.int pB), .val (.int cm), .val (.double vv), .second, .unset, .unset, .unset, .unset, .unset, .unset, .unset, .unset, .unset, .unset, .unset] [(.double (FP.dmul vv (FP.i2d pB)))])) (fun t_ k_ => XS.dmulS X1.here hx rfl (hb hby at_190) rfl (own_okc (own_h195 hvv hP hC c182_24)) rfl k_) ?_
          refine own_by (T' := T1) (g' := (mkF m 193 #[.val (.int aa), .val (.int bb), .val (.int cc), .val (.int kk), .val (.int dd), .val (.int ee), .val (.int pA), .val (.int pB), .val (.int cm), .val (.double vv), .second, .unset, .unset, .unset, .unset, .unset, .unset, .unset, .unset, .unset, .unset, .unset] [(.int cm), (.double (FP.dmul vv (FP.i2d pB)))])) (fun t_ k_ => XS.iload X1.here hx rfl (hb hby at_191) rfl k_) ?_
          refine own_by (T' := T1) (g' := (mkF m 194 #[.val (.int aa), .val (.int bb), .val (.int cc), .val (.int kk), .val (.int dd), .val (.int ee), .val (.int pA), .val (.int pB), .val (.int cm), .val (.double vv), .second, .unset, .unset, .unset, .unset, .unset, .unset, .unset, .unset, .unset, .unset, .unset] [(.double (FP.i2d cm)), (.double (FP.dmul vv (FP.i2d pB)))])) (fun t_ k_ => XS.i2dS X1.here hx rfl (hb hby at_193) rfl rfl k_) ?_
          refine own_by (T' := T1) (g' := (mkF m 195 #[.val (.int aa), .val (.int bb), .val (.int cc), .val (.int kk), .val (.int dd), .val (.int ee), .val (.int pA), .val (.int pB), .val (.int cm), .val (.double vv), .second, .unset, .unset, .unset, .unset, .unset, .unset, .unset, .unset, .unset, .unset, .unset] [(.int (cmpValue (FP.dcmp (FP.dmul vv (FP.i2d pB)) (FP.i2d cm)) .l))])) (fun t_ k_ => XS.dcmpS X1.here hx rfl (hb hby at_194) rfl rfl k_) ?_
          refine own_by (T' := T1) (g' := (mkF m 200 #[.val (.int aa), .val (.int bb), .val (.int cc), .val (.int kk), .val (.int dd), .val (.int ee), .val (.int pA), .val (.int pB), .val (.int cm), .val (.double vv), .second, .unset, .unset, .unset, .unset, .unset, .unset, .unset, .unset, .unset, .unset, .unset] [])) (fun t_ k_ => XS.ifYes X1.here hx rfl (pc0 := 195) (pc' := 200) rfl (hb hby at_195) rfl ((if0 _ _).trans (teq ((own_eqc (own_h195 hvv hP hC c182_24)) : (cmpValue (FP.dcmp (FP.dmul vv (FP.i2d pB)) (FP.i2d cm)) .l) = (0 : Int32))).1) (by decide) (by decide) k_) ?_
          exact k200  T1 hh _ X1 e1 N1 u0 
        · skip
          refine own_by (T' := T1) (g' := (mkF m 200 #[.val (.int aa), .val (.int bb), .val (.int cc), .val (.int kk), .val (.int dd), .val (.int ee), .val (.int pA), .val (.int pB), .val (.int cm), .val (.double vv), .second, .unset, .unset, .unset, .unset, .unset, .unset, .unset, .unset, .unset, .unset, .unset] [])) (fun t_ k_ => XS.ifYes X1.here hx rfl (pc0 := 182) (pc' := 200) rfl (hb hby at_182) rfl ((if0 _ _).trans (feq (c182_24 : ¬ ((pB &&& (pB - (1 : Int32))) = (0 : Int32)))).2) (by decide) (by decide) k_) ?_
          exact k200  T1 hh _ X1 e1 N1 u0 
      have k146 : ∀  (T1 : State) (hh : Heap) (lo : List Loc), Stand p l e room_1 s m #[(.int aa), (.int bb), (.int cc), (.int kk), (.int dd), (.int ee)] below meth c T1 lo 1 3 → T1.heap = hh → Fr n0 lo → n0 ≤ hh.size → own_Goes p e below (own_K (own_Q_law Z aa bb cc kk dd ee h0 n0) s room_1.cells room_1.slots) T1 (mkF m 146 #[.val (.int aa), .val (.int bb), .val (.int cc), .val (.int kk), .val (.int dd), .val (.int ee), .val (.int pA), .val (.int pB), .val (.int cm), .val (.double vv), .second, .unset, .unset, .unset, .unset, .unset, .unset, .unset, .unset, .unset, .unset, .unset] []) := by
        intro  T1 hh lo X1 e1 N1 u0 
        refine own_by (T' := T1) (g' := (mkF m 148 #[.val (.int aa), .val (.int bb), .val (.int cc), .val (.int kk), .val (.int dd), .val (.int ee), .val (.int pA), .val (.int pB), .val (.int cm), .val (.double vv), .second, .unset, .unset, .unset, .unset, .unset, .unset, .unset, .unset, .unset, .unset, .unset] [(.double vv)])) (fun t_ k_ => XS.dload X1.here hx rfl (hb hby at_146) rfl k_) ?_
        refine own_by (T' := T1) (g' := (mkF m 149 #[.val (.int aa), .val (.int bb), .val (.int cc), .val (.int kk), .val (.int dd), .val (.int ee), .val (.int pA), .val (.int pB), .val (.int cm), .val (.double vv), .second, .unset, .unset, .unset, .unset, .unset, .unset, .unset, .unset, .unset, .unset, .unset] [(.double FP.dconst1), (.double vv)])) (fun t_ k_ => XS.dconst1 X1.here hx rfl (hb hby at_148) rfl k_) ?_
        refine own_by (T' := T1) (g' := (mkF m 150 #[.val (.int aa), .val (.int bb), .val (.int cc), .val (.int kk), .val (.int dd), .val (.int ee), .val (.int pA), .val (.int pB), .val (.int cm), .val (.double vv), .second, .unset, .unset, .unset, .unset, .unset, .unset, .unset, .unset, .unset, .unset, .unset] [(.int (cmpValue (FP.dcmp vv FP.dconst1) .l))])) (fun t_ k_ => XS.dcmpS X1.here hx rfl (hb hby at_149) rfl rfl k_) ?_
        by_cases c150_25 : (cmpValue (FP.dcmp vv FP.dconst1) .l) = (0 : Int32)
        · skip
          refine own_by (T' := T1) (g' := (mkF m 153 #[.val (.int aa), .val (.int bb), .val (.int cc), .val (.int kk), .val (.int dd), .val (.int ee), .val (.int pA), .val (.int pB), .val (.int cm), .val (.double vv), .second, .unset, .unset, .unset, .unset, .unset, .unset, .unset, .unset, .unset, .unset, .unset] [])) (fun t_ k_ => XS.ifNo X1.here hx rfl (hb hby at_150) rfl ((if0 _ _).trans (teq (c150_25 : (cmpValue (FP.dcmp vv FP.dconst1) .l) = (0 : Int32))).2) k_) ?_
          refine own_by (T' := T1) (g' := (mkF m 154 #[.val (.int aa), .val (.int bb), .val (.int cc), .val (.int kk), .val (.int dd), .val (.int ee), .val (.int pA), .val (.int pB), .val (.int cm), .val (.double vv), .second, .unset, .unset, .unset, .unset, .unset, .unset, .unset, .unset, .unset, .unset, .unset] [(.int (1 : Int32))])) (fun t_ k_ => XS.iconst X1.here hx rfl (hb hby at_153) k_) ?_
          refine own_by (T' := T1) (g' := (mkF m 158 #[.val (.int aa), .val (.int bb), .val (.int cc), .val (.int kk), .val (.int dd), .val (.int ee), .val (.int pA), .val (.int pB), .val (.int cm), .val (.double vv), .second, .unset, .unset, .unset, .unset, .unset, .unset, .unset, .unset, .unset, .unset, .unset] [(.int (1 : Int32))])) (fun t_ k_ => XS.goto X1.here hx rfl (pc0 := 154) (pc' := 158) rfl (hb hby at_154) (by decide) (by decide) k_) ?_
          refine own_by (T' := T1) (g' := (mkF m 160 #[.val (.int aa), .val (.int bb), .val (.int cc), .val (.int kk), .val (.int dd), .val (.int ee), .val (.int pA), .val (.int pB), .val (.int cm), .val (.double vv), .second, .unset, .unset, .unset, .unset, .unset, .unset, .unset, .unset, .unset, .unset, .unset] [(.int cm), (.int (1 : Int32))])) (fun t_ k_ => XS.iload X1.here hx rfl (hb hby at_158) rfl k_) ?_
          refine own_by (T' := T1) (g' := (mkF m 162 #[.val (.int aa), .val (.int bb), .val (.int cc), .val (.int kk), .val (.int dd), .val (.int ee), .val (.int pA), .val (.int pB), .val (.int cm), .val (.double vv), .second, .unset, .unset, .unset, .unset, .unset, .unset, .unset, .unset, .unset, .unset, .unset] [(.int pB), (.int cm), (.int (1 : Int32))])) (fun t_ k_ => XS.iload X1.here hx rfl (hb hby at_160) rfl k_) ?_
          refine own_by (T' := T1) (g' := (mkF m 165 #[.val (.int aa), .val (.int bb), .val (.int cc), .val (.int kk), .val (.int dd), .val (.int ee), .val (.int pA), .val (.int pB), .val (.int cm), .val (.double vv), .second, .unset, .unset, .unset, .unset, .unset, .unset, .unset, .unset, .unset, .unset, .unset] [(.int (1 : Int32))])) (fun t_ k_ => XS.icmpNo X1.here hx rfl (hb hby at_162) rfl (teq (((own_h150 hvv hP hC).mp c150_25) : cm = pB)).2 k_) ?_
          refine own_by (T' := T1) (g' := (mkF m 166 #[.val (.int aa), .val (.int bb), .val (.int cc), .val (.int kk), .val (.int dd), .val (.int ee), .val (.int pA), .val (.int pB), .val (.int cm), .val (.double vv), .second, .unset, .unset, .unset, .unset, .unset, .unset, .unset, .unset, .unset, .unset, .unset] [(.int (1 : Int32)), (.int (1 : Int32))])) (fun t_ k_ => XS.iconst X1.here hx rfl (hb hby at_165) k_) ?_
          refine own_by (T' := T1) (g' := (mkF m 170 #[.val (.int aa), .val (.int bb), .val (.int cc), .val (.int kk), .val (.int dd), .val (.int ee), .val (.int pA), .val (.int pB), .val (.int cm), .val (.double vv), .second, .unset, .unset, .unset, .unset, .unset, .unset, .unset, .unset, .unset, .unset, .unset] [(.int (1 : Int32)), (.int (1 : Int32))])) (fun t_ k_ => XS.goto X1.here hx rfl (pc0 := 166) (pc' := 170) rfl (hb hby at_166) (by decide) (by decide) k_) ?_
          refine own_by (T' := T1) (g' := (mkF m 175 #[.val (.int aa), .val (.int bb), .val (.int cc), .val (.int kk), .val (.int dd), .val (.int ee), .val (.int pA), .val (.int pB), .val (.int cm), .val (.double vv), .second, .unset, .unset, .unset, .unset, .unset, .unset, .unset, .unset, .unset, .unset, .unset] [])) (fun t_ k_ => XS.icmpYes X1.here hx rfl (pc0 := 170) (pc' := 175) rfl (hb hby at_170) rfl (teq ((by decide) : (1 : Int32) = (1 : Int32))).1 (by decide) (by decide) k_) ?_
          exact k175  T1 hh _ X1 e1 N1 u0 
        · skip
          refine own_by (T' := T1) (g' := (mkF m 157 #[.val (.int aa), .val (.int bb), .val (.int cc), .val (.int kk), .val (.int dd), .val (.int ee), .val (.int pA), .val (.int pB), .val (.int cm), .val (.double vv), .second, .unset, .unset, .unset, .unset, .unset, .unset, .unset, .unset, .unset, .unset, .unset] [])) (fun t_ k_ => XS.ifYes X1.here hx rfl (pc0 := 150) (pc' := 157) rfl (hb hby at_150) rfl ((if0 _ _).trans (feq (c150_25 : ¬ ((cmpValue (FP.dcmp vv FP.dconst1) .l) = (0 : Int32)))).2) (by decide) (by decide) k_) ?_
          refine own_by (T' := T1) (g' := (mkF m 158 #[.val (.int aa), .val (.int bb), .val (.int cc), .val (.int kk), .val (.int dd), .val (.int ee), .val (.int pA), .val (.int pB), .val (.int cm), .val (.double vv), .second, .unset, .unset, .unset, .unset, .unset, .unset, .unset, .unset, .unset, .unset, .unset] [(.int (0 : Int32))])) (fun t_ k_ => XS.iconst X1.here hx rfl (hb hby at_157) k_) ?_
          refine own_by (T' := T1) (g' := (mkF m 160 #[.val (.int aa), .val (.int bb), .val (.int cc), .val (.int kk), .val (.int dd), .val (.int ee), .val (.int pA), .val (.int pB), .val (.int cm), .val (.double vv), .second, .unset, .unset, .unset, .unset, .unset, .unset, .unset, .unset, .unset, .unset, .unset] [(.int cm), (.int (0 : Int32))])) (fun t_ k_ => XS.iload X1.here hx rfl (hb hby at_158) rfl k_) ?_
          refine own_by (T' := T1) (g' := (mkF m 162 #[.val (.int aa), .val (.int bb), .val (.int cc), .val (.int kk), .val (.int dd), .val (.int ee), .val (.int pA), .val (.int pB), .val (.int cm), .val (.double vv), .second, .unset, .unset, .unset, .unset, .unset, .unset, .unset, .unset, .unset, .unset, .unset] [(.int pB), (.int cm), (.int (0 : Int32))])) (fun t_ k_ => XS.iload X1.here hx rfl (hb hby at_160) rfl k_) ?_
          refine own_by (T' := T1) (g' := (mkF m 169 #[.val (.int aa), .val (.int bb), .val (.int cc), .val (.int kk), .val (.int dd), .val (.int ee), .val (.int pA), .val (.int pB), .val (.int cm), .val (.double vv), .second, .unset, .unset, .unset, .unset, .unset, .unset, .unset, .unset, .unset, .unset, .unset] [(.int (0 : Int32))])) (fun t_ k_ => XS.icmpYes X1.here hx rfl (pc0 := 162) (pc' := 169) rfl (hb hby at_162) rfl (feq ((fun q_ => c150_25 ((own_h150 hvv hP hC).mpr q_)) : ¬ (cm = pB))).2 (by decide) (by decide) k_) ?_
          refine own_by (T' := T1) (g' := (mkF m 170 #[.val (.int aa), .val (.int bb), .val (.int cc), .val (.int kk), .val (.int dd), .val (.int ee), .val (.int pA), .val (.int pB), .val (.int cm), .val (.double vv), .second, .unset, .unset, .unset, .unset, .unset, .unset, .unset, .unset, .unset, .unset, .unset] [(.int (0 : Int32)), (.int (0 : Int32))])) (fun t_ k_ => XS.iconst X1.here hx rfl (hb hby at_169) k_) ?_
          refine own_by (T' := T1) (g' := (mkF m 175 #[.val (.int aa), .val (.int bb), .val (.int cc), .val (.int kk), .val (.int dd), .val (.int ee), .val (.int pA), .val (.int pB), .val (.int cm), .val (.double vv), .second, .unset, .unset, .unset, .unset, .unset, .unset, .unset, .unset, .unset, .unset, .unset] [])) (fun t_ k_ => XS.icmpYes X1.here hx rfl (pc0 := 170) (pc' := 175) rfl (hb hby at_170) rfl (teq ((by decide) : (0 : Int32) = (0 : Int32))).1 (by decide) (by decide) k_) ?_
          exact k175  T1 hh _ X1 e1 N1 u0 
      refine own_by (T' := T6) (g' := (mkF m 121 #[.val (.int aa), .val (.int bb), .val (.int cc), .val (.int kk), .val (.int dd), .val (.int ee), .val (.int pA), .val (.int pB), .val (.int cm), .val (.double vv), .second, .unset, .unset, .unset, .unset, .unset, .unset, .unset, .unset, .unset, .unset, .unset] [(.double vv)])) (fun t_ k_ => XS.dload X6.here hx rfl (hb hby at_119) rfl k_) ?_
      refine own_by (T' := T6) (g' := (mkF m 122 #[.val (.int aa), .val (.int bb), .val (.int cc), .val (.int kk), .val (.int dd), .val (.int ee), .val (.int pA), .val (.int pB), .val (.int cm), .val (.double vv), .second, .unset, .unset, .unset, .unset, .unset, .unset, .unset, .unset, .unset, .unset, .unset] [(.double FP.dconst0), (.double vv)])) (fun t_ k_ => XS.dconst0 X6.here hx rfl (hb hby at_121) rfl k_) ?_
      refine own_by (T' := T6) (g' := (mkF m 123 #[.val (.int aa), .val (.int bb), .val (.int cc), .val (.int kk), .val (.int dd), .val (.int ee), .val (.int pA), .val (.int pB), .val (.int cm), .val (.double vv), .second, .unset, .unset, .unset, .unset, .unset, .unset, .unset, .unset, .unset, .unset, .unset] [(.int (cmpValue (FP.dcmp vv FP.dconst0) .l))])) (fun t_ k_ => XS.dcmpS X6.here hx rfl (hb hby at_122) rfl rfl k_) ?_
      by_cases c123_26 : (cmpValue (FP.dcmp vv FP.dconst0) .l) = (0 : Int32)
      · skip
        refine own_by (T' := T6) (g' := (mkF m 126 #[.val (.int aa), .val (.int bb), .val (.int cc), .val (.int kk), .val (.int dd), .val (.int ee), .val (.int pA), .val (.int pB), .val (.int cm), .val (.double vv), .second, .unset, .unset, .unset, .unset, .unset, .unset, .unset, .unset, .unset, .unset, .unset] [])) (fun t_ k_ => XS.ifNo X6.here hx rfl (hb hby at_123) rfl ((if0 _ _).trans (teq (c123_26 : (cmpValue (FP.dcmp vv FP.dconst0) .l) = (0 : Int32))).2) k_) ?_
        refine own_by (T' := T6) (g' := (mkF m 127 #[.val (.int aa), .val (.int bb), .val (.int cc), .val (.int kk), .val (.int dd), .val (.int ee), .val (.int pA), .val (.int pB), .val (.int cm), .val (.double vv), .second, .unset, .unset, .unset, .unset, .unset, .unset, .unset, .unset, .unset, .unset, .unset] [(.int (1 : Int32))])) (fun t_ k_ => XS.iconst X6.here hx rfl (hb hby at_126) k_) ?_
        refine own_by (T' := T6) (g' := (mkF m 131 #[.val (.int aa), .val (.int bb), .val (.int cc), .val (.int kk), .val (.int dd), .val (.int ee), .val (.int pA), .val (.int pB), .val (.int cm), .val (.double vv), .second, .unset, .unset, .unset, .unset, .unset, .unset, .unset, .unset, .unset, .unset, .unset] [(.int (1 : Int32))])) (fun t_ k_ => XS.goto X6.here hx rfl (pc0 := 127) (pc' := 131) rfl (hb hby at_127) (by decide) (by decide) k_) ?_
        refine own_by (T' := T6) (g' := (mkF m 133 #[.val (.int aa), .val (.int bb), .val (.int cc), .val (.int kk), .val (.int dd), .val (.int ee), .val (.int pA), .val (.int pB), .val (.int cm), .val (.double vv), .second, .unset, .unset, .unset, .unset, .unset, .unset, .unset, .unset, .unset, .unset, .unset] [(.int cm), (.int (1 : Int32))])) (fun t_ k_ => XS.iload X6.here hx rfl (hb hby at_131) rfl k_) ?_
        refine own_by (T' := T6) (g' := (mkF m 136 #[.val (.int aa), .val (.int bb), .val (.int cc), .val (.int kk), .val (.int dd), .val (.int ee), .val (.int pA), .val (.int pB), .val (.int cm), .val (.double vv), .second, .unset, .unset, .unset, .unset, .unset, .unset, .unset, .unset, .unset, .unset, .unset] [(.int (1 : Int32))])) (fun t_ k_ => XS.ifNo X6.here hx rfl (hb hby at_133) rfl ((if0 _ _).trans (teq (((own_h123 hvv hP hC).mp c123_26) : cm = (0 : Int32))).2) k_) ?_
        refine own_by (T' := T6) (g' := (mkF m 137 #[.val (.int aa), .val (.int bb), .val (.int cc), .val (.int kk), .val (.int dd), .val (.int ee), .val (.int pA), .val (.int pB), .val (.int cm), .val (.double vv), .second, .unset, .unset, .unset, .unset, .unset, .unset, .unset, .unset, .unset, .unset, .unset] [(.int (1 : Int32)), (.int (1 : Int32))])) (fun t_ k_ => XS.iconst X6.here hx rfl (hb hby at_136) k_) ?_
        refine own_by (T' := T6) (g' := (mkF m 141 #[.val (.int aa), .val (.int bb), .val (.int cc), .val (.int kk), .val (.int dd), .val (.int ee), .val (.int pA), .val (.int pB), .val (.int cm), .val (.double vv), .second, .unset, .unset, .unset, .unset, .unset, .unset, .unset, .unset, .unset, .unset, .unset] [(.int (1 : Int32)), (.int (1 : Int32))])) (fun t_ k_ => XS.goto X6.here hx rfl (pc0 := 137) (pc' := 141) rfl (hb hby at_137) (by decide) (by decide) k_) ?_
        refine own_by (T' := T6) (g' := (mkF m 146 #[.val (.int aa), .val (.int bb), .val (.int cc), .val (.int kk), .val (.int dd), .val (.int ee), .val (.int pA), .val (.int pB), .val (.int cm), .val (.double vv), .second, .unset, .unset, .unset, .unset, .unset, .unset, .unset, .unset, .unset, .unset, .unset] [])) (fun t_ k_ => XS.icmpYes X6.here hx rfl (pc0 := 141) (pc' := 146) rfl (hb hby at_141) rfl (teq ((by decide) : (1 : Int32) = (1 : Int32))).1 (by decide) (by decide) k_) ?_
        exact k146  T6 T3.heap _ X6 e6 N6 f4 
      · skip
        refine own_by (T' := T6) (g' := (mkF m 130 #[.val (.int aa), .val (.int bb), .val (.int cc), .val (.int kk), .val (.int dd), .val (.int ee), .val (.int pA), .val (.int pB), .val (.int cm), .val (.double vv), .second, .unset, .unset, .unset, .unset, .unset, .unset, .unset, .unset, .unset, .unset, .unset] [])) (fun t_ k_ => XS.ifYes X6.here hx rfl (pc0 := 123) (pc' := 130) rfl (hb hby at_123) rfl ((if0 _ _).trans (feq (c123_26 : ¬ ((cmpValue (FP.dcmp vv FP.dconst0) .l) = (0 : Int32)))).2) (by decide) (by decide) k_) ?_
        refine own_by (T' := T6) (g' := (mkF m 131 #[.val (.int aa), .val (.int bb), .val (.int cc), .val (.int kk), .val (.int dd), .val (.int ee), .val (.int pA), .val (.int pB), .val (.int cm), .val (.double vv), .second, .unset, .unset, .unset, .unset, .unset, .unset, .unset, .unset, .unset, .unset, .unset] [(.int (0 : Int32))])) (fun t_ k_ => XS.iconst X6.here hx rfl (hb hby at_130) k_) ?_
        refine own_by (T' := T6) (g' := (mkF m 133 #[.val (.int aa), .val (.int bb), .val (.int cc), .val (.int kk), .val (.int dd), .val (.int ee), .val (.int pA), .val (.int pB), .val (.int cm), .val (.double vv), .second, .unset, .unset, .unset, .unset, .unset, .unset, .unset, .unset, .unset, .unset, .unset] [(.int cm), (.int (0 : Int32))])) (fun t_ k_ => XS.iload X6.here hx rfl (hb hby at_131) rfl k_) ?_
        refine own_by (T' := T6) (g' := (mkF m 140 #[.val (.int aa), .val (.int bb), .val (.int cc), .val (.int kk), .val (.int dd), .val (.int ee), .val (.int pA), .val (.int pB), .val (.int cm), .val (.double vv), .second, .unset, .unset, .unset, .unset, .unset, .unset, .unset, .unset, .unset, .unset, .unset] [(.int (0 : Int32))])) (fun t_ k_ => XS.ifYes X6.here hx rfl (pc0 := 133) (pc' := 140) rfl (hb hby at_133) rfl ((if0 _ _).trans (feq ((fun q_ => c123_26 ((own_h123 hvv hP hC).mpr q_)) : ¬ (cm = (0 : Int32)))).2) (by decide) (by decide) k_) ?_
        refine own_by (T' := T6) (g' := (mkF m 141 #[.val (.int aa), .val (.int bb), .val (.int cc), .val (.int kk), .val (.int dd), .val (.int ee), .val (.int pA), .val (.int pB), .val (.int cm), .val (.double vv), .second, .unset, .unset, .unset, .unset, .unset, .unset, .unset, .unset, .unset, .unset, .unset] [(.int (0 : Int32)), (.int (0 : Int32))])) (fun t_ k_ => XS.iconst X6.here hx rfl (hb hby at_140) k_) ?_
        refine own_by (T' := T6) (g' := (mkF m 146 #[.val (.int aa), .val (.int bb), .val (.int cc), .val (.int kk), .val (.int dd), .val (.int ee), .val (.int pA), .val (.int pB), .val (.int cm), .val (.double vv), .second, .unset, .unset, .unset, .unset, .unset, .unset, .unset, .unset, .unset, .unset, .unset] [])) (fun t_ k_ => XS.icmpYes X6.here hx rfl (pc0 := 141) (pc' := 146) rfl (hb hby at_141) rfl (teq ((by decide) : (0 : Int32) = (0 : Int32))).1 (by decide) (by decide) k_) ?_
        exact k146  T6 T3.heap _ X6 e6 N6 f4 
  refine own_by (T' := s₁) (g' := (mkF m 2 #[.val (.int aa), .val (.int bb), .val (.int cc), .val (.int kk), .val (.int dd), .val (.int ee), .unset, .unset, .unset, .unset, .unset, .unset, .unset, .unset, .unset, .unset, .unset, .unset, .unset, .unset, .unset, .unset] [(.int ee)])) (fun t_ k_ => XS.iload X0.here hx rfl (hb hby at_0) rfl k_) ?_
  refine own_by (T' := s₁) (g' := (mkF m 3 #[.val (.int aa), .val (.int bb), .val (.int cc), .val (.int kk), .val (.int dd), .val (.int ee), .unset, .unset, .unset, .unset, .unset, .unset, .unset, .unset, .unset, .unset, .unset, .unset, .unset, .unset, .unset, .unset] [(.int (4 : Int32)), (.int ee)])) (fun t_ k_ => XS.iconst X0.here hx rfl (hb hby at_2) k_) ?_
  refine own_by (T' := s₁) (g' := (mkF m 4 #[.val (.int aa), .val (.int bb), .val (.int cc), .val (.int kk), .val (.int dd), .val (.int ee), .unset, .unset, .unset, .unset, .unset, .unset, .unset, .unset, .unset, .unset, .unset, .unset, .unset, .unset, .unset, .unset] [(.int (ee &&& (4 : Int32)))])) (fun t_ k_ => XS.iand X0.here hx rfl (hb hby at_3) rfl k_) ?_
  by_cases c4_27 : (ee &&& (4 : Int32)) = (0 : Int32)
  · skip
    refine own_by (T' := s₁) (g' := (mkF m 11 #[.val (.int aa), .val (.int bb), .val (.int cc), .val (.int kk), .val (.int dd), .val (.int ee), .unset, .unset, .unset, .unset, .unset, .unset, .unset, .unset, .unset, .unset, .unset, .unset, .unset, .unset, .unset, .unset] [])) (fun t_ k_ => XS.ifYes X0.here hx rfl (pc0 := 4) (pc' := 11) rfl (hb hby at_4) rfl ((if0 _ _).trans (teq (c4_27 : (ee &&& (4 : Int32)) = (0 : Int32))).1) (by decide) (by decide) k_) ?_
    refine own_by (T' := s₁) (g' := (mkF m 12 #[.val (.int aa), .val (.int bb), .val (.int cc), .val (.int kk), .val (.int dd), .val (.int ee), .unset, .unset, .unset, .unset, .unset, .unset, .unset, .unset, .unset, .unset, .unset, .unset, .unset, .unset, .unset, .unset] [(.int aa)])) (fun t_ k_ => XS.iloadN X0.here hx rfl (hb hby at_11) rfl k_) ?_
    refine own_by (T' := s₁) (g' := (mkF m 14 #[.val (.int aa), .val (.int bb), .val (.int cc), .val (.int kk), .val (.int dd), .val (.int ee), .unset, .unset, .unset, .unset, .unset, .unset, .unset, .unset, .unset, .unset, .unset, .unset, .unset, .unset, .unset, .unset] [(.int (2147483647 : Int32)), (.int aa)])) (fun t_ k_ => X0.ldcInt hx hown (mvT hZ (hw _ (List.mem_of_getElem? (i := 0) rfl))) (g := (mkF m 12 #[.val (.int aa), .val (.int bb), .val (.int cc), .val (.int kk), .val (.int dd), .val (.int ee), .unset, .unset, .unset, .unset, .unset, .unset, .unset, .unset, .unset, .unset, .unset, .unset, .unset, .unset, .unset, .unset] [(.int aa)])) rfl (hb hby at_12) _ k_) ?_
    refine own_by (T' := s₁) (g' := (mkF m 15 #[.val (.int aa), .val (.int bb), .val (.int cc), .val (.int kk), .val (.int dd), .val (.int ee), .unset, .unset, .unset, .unset, .unset, .unset, .unset, .unset, .unset, .unset, .unset, .unset, .unset, .unset, .unset, .unset] [(.int (aa &&& (2147483647 : Int32)))])) (fun t_ k_ => XS.iand X0.here hx rfl (hb hby at_14) rfl k_) ?_
    refine own_by (T' := s₁) (g' := (mkF m 17 #[.val (.int aa), .val (.int bb), .val (.int cc), .val (.int kk), .val (.int dd), .val (.int ee), .val (.int (aa &&& (2147483647 : Int32))), .unset, .unset, .unset, .unset, .unset, .unset, .unset, .unset, .unset, .unset, .unset, .unset, .unset, .unset, .unset] [])) (fun t_ k_ => XS.istore X0.here hx rfl (hb hby at_15) rfl (l' := #[.val (.int aa), .val (.int bb), .val (.int cc), .val (.int kk), .val (.int dd), .val (.int ee), .val (.int (aa &&& (2147483647 : Int32))), .unset, .unset, .unset, .unset, .unset, .unset, .unset, .unset, .unset, .unset, .unset, .unset, .unset, .unset, .unset]) rfl k_) ?_
    refine own_by (T' := s₁) (g' := (mkF m 19 #[.val (.int aa), .val (.int bb), .val (.int cc), .val (.int kk), .val (.int dd), .val (.int ee), .val (.int (aa &&& (2147483647 : Int32))), .unset, .unset, .unset, .unset, .unset, .unset, .unset, .unset, .unset, .unset, .unset, .unset, .unset, .unset, .unset] [(.int ee)])) (fun t_ k_ => XS.iload X0.here hx rfl (hb hby at_17) rfl k_) ?_
    refine own_by (T' := s₁) (g' := (mkF m 20 #[.val (.int aa), .val (.int bb), .val (.int cc), .val (.int kk), .val (.int dd), .val (.int ee), .val (.int (aa &&& (2147483647 : Int32))), .unset, .unset, .unset, .unset, .unset, .unset, .unset, .unset, .unset, .unset, .unset, .unset, .unset, .unset, .unset] [(.int (3 : Int32)), (.int ee)])) (fun t_ k_ => XS.iconst X0.here hx rfl (hb hby at_19) k_) ?_
    refine own_by (T' := s₁) (g' := (mkF m 21 #[.val (.int aa), .val (.int bb), .val (.int cc), .val (.int kk), .val (.int dd), .val (.int ee), .val (.int (aa &&& (2147483647 : Int32))), .unset, .unset, .unset, .unset, .unset, .unset, .unset, .unset, .unset, .unset, .unset, .unset, .unset, .unset, .unset] [(.int (ee &&& (3 : Int32)))])) (fun t_ k_ => XS.iand X0.here hx rfl (hb hby at_20) rfl k_) ?_
    by_cases c21_28 : (ee &&& (3 : Int32)) = (0 : Int32)
    · skip
      refine own_by (T' := s₁) (g' := (mkF m 24 #[.val (.int aa), .val (.int bb), .val (.int cc), .val (.int kk), .val (.int dd), .val (.int ee), .val (.int (aa &&& (2147483647 : Int32))), .unset, .unset, .unset, .unset, .unset, .unset, .unset, .unset, .unset, .unset, .unset, .unset, .unset, .unset, .unset] [])) (fun t_ k_ => XS.ifNo X0.here hx rfl (hb hby at_21) rfl ((if0 _ _).trans (teq (c21_28 : (ee &&& (3 : Int32)) = (0 : Int32))).2) k_) ?_
      refine own_by (T' := s₁) (g' := (mkF m 25 #[.val (.int aa), .val (.int bb), .val (.int cc), .val (.int kk), .val (.int dd), .val (.int ee), .val (.int (aa &&& (2147483647 : Int32))), .unset, .unset, .unset, .unset, .unset, .unset, .unset, .unset, .unset, .unset, .unset, .unset, .unset, .unset, .unset] [(.int (0 : Int32))])) (fun t_ k_ => XS.iconst X0.here hx rfl (hb hby at_24) k_) ?_
      refine own_by (T' := s₁) (g' := (mkF m 32 #[.val (.int aa), .val (.int bb), .val (.int cc), .val (.int kk), .val (.int dd), .val (.int ee), .val (.int (aa &&& (2147483647 : Int32))), .unset, .unset, .unset, .unset, .unset, .unset, .unset, .unset, .unset, .unset, .unset, .unset, .unset, .unset, .unset] [(.int (0 : Int32))])) (fun t_ k_ => XS.goto X0.here hx rfl (pc0 := 25) (pc' := 32) rfl (hb hby at_25) (by decide) (by decide) k_) ?_
      refine own_by (T' := s₁) (g' := (mkF m 34 #[.val (.int aa), .val (.int bb), .val (.int cc), .val (.int kk), .val (.int dd), .val (.int ee), .val (.int (aa &&& (2147483647 : Int32))), .val (.int (0 : Int32)), .unset, .unset, .unset, .unset, .unset, .unset, .unset, .unset, .unset, .unset, .unset, .unset, .unset, .unset] [])) (fun t_ k_ => XS.istore X0.here hx rfl (hb hby at_32) rfl (l' := #[.val (.int aa), .val (.int bb), .val (.int cc), .val (.int kk), .val (.int dd), .val (.int ee), .val (.int (aa &&& (2147483647 : Int32))), .val (.int (0 : Int32)), .unset, .unset, .unset, .unset, .unset, .unset, .unset, .unset, .unset, .unset, .unset, .unset, .unset, .unset]) rfl k_) ?_
      refine own_by (T' := s₁) (g' := (mkF m 36 #[.val (.int aa), .val (.int bb), .val (.int cc), .val (.int kk), .val (.int dd), .val (.int ee), .val (.int (aa &&& (2147483647 : Int32))), .val (.int (0 : Int32)), .unset, .unset, .unset, .unset, .unset, .unset, .unset, .unset, .unset, .unset, .unset, .unset, .unset, .unset] [(.int (0 : Int32))])) (fun t_ k_ => XS.iload X0.here hx rfl (hb hby at_34) rfl k_) ?_
      refine own_by (T' := s₁) (g' := (mkF m 39 #[.val (.int aa), .val (.int bb), .val (.int cc), .val (.int kk), .val (.int dd), .val (.int ee), .val (.int (aa &&& (2147483647 : Int32))), .val (.int (0 : Int32)), .unset, .unset, .unset, .unset, .unset, .unset, .unset, .unset, .unset, .unset, .unset, .unset, .unset, .unset] [])) (fun t_ k_ => XS.ifNo X0.here hx rfl (hb hby at_36) rfl ((if0 _ _).trans (teq ((by decide) : (0 : Int32) = (0 : Int32))).2) k_) ?_
      refine own_by (T' := s₁) (g' := (mkF m 40 #[.val (.int aa), .val (.int bb), .val (.int cc), .val (.int kk), .val (.int dd), .val (.int ee), .val (.int (aa &&& (2147483647 : Int32))), .val (.int (0 : Int32)), .unset, .unset, .unset, .unset, .unset, .unset, .unset, .unset, .unset, .unset, .unset, .unset, .unset, .unset] [(.int (0 : Int32))])) (fun t_ k_ => XS.iconst X0.here hx rfl (hb hby at_39) k_) ?_
      refine own_by (T' := s₁) (g' := (mkF m 56 #[.val (.int aa), .val (.int bb), .val (.int cc), .val (.int kk), .val (.int dd), .val (.int ee), .val (.int (aa &&& (2147483647 : Int32))), .val (.int (0 : Int32)), .unset, .unset, .unset, .unset, .unset, .unset, .unset, .unset, .unset, .unset, .unset, .unset, .unset, .unset] [(.int (0 : Int32))])) (fun t_ k_ => XS.goto X0.here hx rfl (pc0 := 40) (pc' := 56) rfl (hb hby at_40) (by decide) (by decide) k_) ?_
      refine own_by (T' := s₁) (g' := (mkF m 58 #[.val (.int aa), .val (.int bb), .val (.int cc), .val (.int kk), .val (.int dd), .val (.int ee), .val (.int (aa &&& (2147483647 : Int32))), .val (.int (0 : Int32)), .val (.int (0 : Int32)), .unset, .unset, .unset, .unset, .unset, .unset, .unset, .unset, .unset, .unset, .unset, .unset, .unset] [])) (fun t_ k_ => XS.istore X0.here hx rfl (hb hby at_56) rfl (l' := #[.val (.int aa), .val (.int bb), .val (.int cc), .val (.int kk), .val (.int dd), .val (.int ee), .val (.int (aa &&& (2147483647 : Int32))), .val (.int (0 : Int32)), .val (.int (0 : Int32)), .unset, .unset, .unset, .unset, .unset, .unset, .unset, .unset, .unset, .unset, .unset, .unset, .unset]) rfl k_) ?_
      exact k58 (aa &&& (2147483647 : Int32)) (0 : Int32) (0 : Int32) s₁ h0 _ X0 e0 N0 Z0 (by decide) (own_hc0 (by decide))
    · skip
      refine own_by (T' := s₁) (g' := (mkF m 28 #[.val (.int aa), .val (.int bb), .val (.int cc), .val (.int kk), .val (.int dd), .val (.int ee), .val (.int (aa &&& (2147483647 : Int32))), .unset, .unset, .unset, .unset, .unset, .unset, .unset, .unset, .unset, .unset, .unset, .unset, .unset, .unset, .unset] [])) (fun t_ k_ => XS.ifYes X0.here hx rfl (pc0 := 21) (pc' := 28) rfl (hb hby at_21) rfl ((if0 _ _).trans (feq (c21_28 : ¬ ((ee &&& (3 : Int32)) = (0 : Int32)))).2) (by decide) (by decide) k_) ?_
      refine own_by (T' := s₁) (g' := (mkF m 29 #[.val (.int aa), .val (.int bb), .val (.int cc), .val (.int kk), .val (.int dd), .val (.int ee), .val (.int (aa &&& (2147483647 : Int32))), .unset, .unset, .unset, .unset, .unset, .unset, .unset, .unset, .unset, .unset, .unset, .unset, .unset, .unset, .unset] [(.int bb)])) (fun t_ k_ => XS.iloadN X0.here hx rfl (hb hby at_28) rfl k_) ?_
      refine own_by (T' := s₁) (g' := (mkF m 31 #[.val (.int aa), .val (.int bb), .val (.int cc), .val (.int kk), .val (.int dd), .val (.int ee), .val (.int (aa &&& (2147483647 : Int32))), .unset, .unset, .unset, .unset, .unset, .unset, .unset, .unset, .unset, .unset, .unset, .unset, .unset, .unset, .unset] [(.int (2147483647 : Int32)), (.int bb)])) (fun t_ k_ => X0.ldcInt hx hown (mvT hZ (hw _ (List.mem_of_getElem? (i := 0) rfl))) (g := (mkF m 29 #[.val (.int aa), .val (.int bb), .val (.int cc), .val (.int kk), .val (.int dd), .val (.int ee), .val (.int (aa &&& (2147483647 : Int32))), .unset, .unset, .unset, .unset, .unset, .unset, .unset, .unset, .unset, .unset, .unset, .unset, .unset, .unset, .unset] [(.int bb)])) rfl (hb hby at_29) _ k_) ?_
      refine own_by (T' := s₁) (g' := (mkF m 32 #[.val (.int aa), .val (.int bb), .val (.int cc), .val (.int kk), .val (.int dd), .val (.int ee), .val (.int (aa &&& (2147483647 : Int32))), .unset, .unset, .unset, .unset, .unset, .unset, .unset, .unset, .unset, .unset, .unset, .unset, .unset, .unset, .unset] [(.int (bb &&& (2147483647 : Int32)))])) (fun t_ k_ => XS.iand X0.here hx rfl (hb hby at_31) rfl k_) ?_
      refine own_by (T' := s₁) (g' := (mkF m 34 #[.val (.int aa), .val (.int bb), .val (.int cc), .val (.int kk), .val (.int dd), .val (.int ee), .val (.int (aa &&& (2147483647 : Int32))), .val (.int (bb &&& (2147483647 : Int32))), .unset, .unset, .unset, .unset, .unset, .unset, .unset, .unset, .unset, .unset, .unset, .unset, .unset, .unset] [])) (fun t_ k_ => XS.istore X0.here hx rfl (hb hby at_32) rfl (l' := #[.val (.int aa), .val (.int bb), .val (.int cc), .val (.int kk), .val (.int dd), .val (.int ee), .val (.int (aa &&& (2147483647 : Int32))), .val (.int (bb &&& (2147483647 : Int32))), .unset, .unset, .unset, .unset, .unset, .unset, .unset, .unset, .unset, .unset, .unset, .unset, .unset, .unset]) rfl k_) ?_
      refine own_by (T' := s₁) (g' := (mkF m 36 #[.val (.int aa), .val (.int bb), .val (.int cc), .val (.int kk), .val (.int dd), .val (.int ee), .val (.int (aa &&& (2147483647 : Int32))), .val (.int (bb &&& (2147483647 : Int32))), .unset, .unset, .unset, .unset, .unset, .unset, .unset, .unset, .unset, .unset, .unset, .unset, .unset, .unset] [(.int (bb &&& (2147483647 : Int32)))])) (fun t_ k_ => XS.iload X0.here hx rfl (hb hby at_34) rfl k_) ?_
      by_cases c36_29 : (bb &&& (2147483647 : Int32)) = (0 : Int32)
      · skip
        refine own_by (T' := s₁) (g' := (mkF m 39 #[.val (.int aa), .val (.int bb), .val (.int cc), .val (.int kk), .val (.int dd), .val (.int ee), .val (.int (aa &&& (2147483647 : Int32))), .val (.int (bb &&& (2147483647 : Int32))), .unset, .unset, .unset, .unset, .unset, .unset, .unset, .unset, .unset, .unset, .unset, .unset, .unset, .unset] [])) (fun t_ k_ => XS.ifNo X0.here hx rfl (hb hby at_36) rfl ((if0 _ _).trans (teq (c36_29 : (bb &&& (2147483647 : Int32)) = (0 : Int32))).2) k_) ?_
        refine own_by (T' := s₁) (g' := (mkF m 40 #[.val (.int aa), .val (.int bb), .val (.int cc), .val (.int kk), .val (.int dd), .val (.int ee), .val (.int (aa &&& (2147483647 : Int32))), .val (.int (bb &&& (2147483647 : Int32))), .unset, .unset, .unset, .unset, .unset, .unset, .unset, .unset, .unset, .unset, .unset, .unset, .unset, .unset] [(.int (0 : Int32))])) (fun t_ k_ => XS.iconst X0.here hx rfl (hb hby at_39) k_) ?_
        refine own_by (T' := s₁) (g' := (mkF m 56 #[.val (.int aa), .val (.int bb), .val (.int cc), .val (.int kk), .val (.int dd), .val (.int ee), .val (.int (aa &&& (2147483647 : Int32))), .val (.int (bb &&& (2147483647 : Int32))), .unset, .unset, .unset, .unset, .unset, .unset, .unset, .unset, .unset, .unset, .unset, .unset, .unset, .unset] [(.int (0 : Int32))])) (fun t_ k_ => XS.goto X0.here hx rfl (pc0 := 40) (pc' := 56) rfl (hb hby at_40) (by decide) (by decide) k_) ?_
        refine own_by (T' := s₁) (g' := (mkF m 58 #[.val (.int aa), .val (.int bb), .val (.int cc), .val (.int kk), .val (.int dd), .val (.int ee), .val (.int (aa &&& (2147483647 : Int32))), .val (.int (bb &&& (2147483647 : Int32))), .val (.int (0 : Int32)), .unset, .unset, .unset, .unset, .unset, .unset, .unset, .unset, .unset, .unset, .unset, .unset, .unset] [])) (fun t_ k_ => XS.istore X0.here hx rfl (hb hby at_56) rfl (l' := #[.val (.int aa), .val (.int bb), .val (.int cc), .val (.int kk), .val (.int dd), .val (.int ee), .val (.int (aa &&& (2147483647 : Int32))), .val (.int (bb &&& (2147483647 : Int32))), .val (.int (0 : Int32)), .unset, .unset, .unset, .unset, .unset, .unset, .unset, .unset, .unset, .unset, .unset, .unset, .unset]) rfl k_) ?_
        exact k58 (aa &&& (2147483647 : Int32)) (bb &&& (2147483647 : Int32)) (0 : Int32) s₁ h0 _ X0 e0 N0 Z0 (own_m31 bb) (own_hc0 (own_m31 bb))
      · skip
        refine own_by (T' := s₁) (g' := (mkF m 43 #[.val (.int aa), .val (.int bb), .val (.int cc), .val (.int kk), .val (.int dd), .val (.int ee), .val (.int (aa &&& (2147483647 : Int32))), .val (.int (bb &&& (2147483647 : Int32))), .unset, .unset, .unset, .unset, .unset, .unset, .unset, .unset, .unset, .unset, .unset, .unset, .unset, .unset] [])) (fun t_ k_ => XS.ifYes X0.here hx rfl (pc0 := 36) (pc' := 43) rfl (hb hby at_36) rfl ((if0 _ _).trans (feq (c36_29 : ¬ ((bb &&& (2147483647 : Int32)) = (0 : Int32)))).2) (by decide) (by decide) k_) ?_
        refine own_by (T' := s₁) (g' := (mkF m 44 #[.val (.int aa), .val (.int bb), .val (.int cc), .val (.int kk), .val (.int dd), .val (.int ee), .val (.int (aa &&& (2147483647 : Int32))), .val (.int (bb &&& (2147483647 : Int32))), .unset, .unset, .unset, .unset, .unset, .unset, .unset, .unset, .unset, .unset, .unset, .unset, .unset, .unset] [(.int cc)])) (fun t_ k_ => XS.iloadN X0.here hx rfl (hb hby at_43) rfl k_) ?_
        refine own_by (T' := s₁) (g' := (mkF m 45 #[.val (.int aa), .val (.int bb), .val (.int cc), .val (.int kk), .val (.int dd), .val (.int ee), .val (.int (aa &&& (2147483647 : Int32))), .val (.int (bb &&& (2147483647 : Int32))), .unset, .unset, .unset, .unset, .unset, .unset, .unset, .unset, .unset, .unset, .unset, .unset, .unset, .unset] [(.long cc.toInt64)])) (fun t_ k_ => XS.i2l X0.here hx rfl (hb hby at_44) rfl k_) ?_
        refine own_by (T' := s₁) (g' := (mkF m 48 #[.val (.int aa), .val (.int bb), .val (.int cc), .val (.int kk), .val (.int dd), .val (.int ee), .val (.int (aa &&& (2147483647 : Int32))), .val (.int (bb &&& (2147483647 : Int32))), .unset, .unset, .unset, .unset, .unset, .unset, .unset, .unset, .unset, .unset, .unset, .unset, .unset, .unset] [(.long (2147483647 : Int64)), (.long cc.toInt64)])) (fun t_ k_ => X0.ldc2Long hx hown (mvT hZ (hw _ (List.mem_of_getElem? (i := 1) rfl))) (g := (mkF m 45 #[.val (.int aa), .val (.int bb), .val (.int cc), .val (.int kk), .val (.int dd), .val (.int ee), .val (.int (aa &&& (2147483647 : Int32))), .val (.int (bb &&& (2147483647 : Int32))), .unset, .unset, .unset, .unset, .unset, .unset, .unset, .unset, .unset, .unset, .unset, .unset, .unset, .unset] [(.long cc.toInt64)])) rfl (hb hby at_45) _ k_) ?_
        refine own_by (T' := s₁) (g' := (mkF m 49 #[.val (.int aa), .val (.int bb), .val (.int cc), .val (.int kk), .val (.int dd), .val (.int ee), .val (.int (aa &&& (2147483647 : Int32))), .val (.int (bb &&& (2147483647 : Int32))), .unset, .unset, .unset, .unset, .unset, .unset, .unset, .unset, .unset, .unset, .unset, .unset, .unset, .unset] [(.long (cc.toInt64 &&& (2147483647 : Int64)))])) (fun t_ k_ => XS.land X0.here hx rfl (hb hby at_48) rfl k_) ?_
        refine own_by (T' := s₁) (g' := (mkF m 51 #[.val (.int aa), .val (.int bb), .val (.int cc), .val (.int kk), .val (.int dd), .val (.int ee), .val (.int (aa &&& (2147483647 : Int32))), .val (.int (bb &&& (2147483647 : Int32))), .unset, .unset, .unset, .unset, .unset, .unset, .unset, .unset, .unset, .unset, .unset, .unset, .unset, .unset] [(.int (bb &&& (2147483647 : Int32))), (.long (cc.toInt64 &&& (2147483647 : Int64)))])) (fun t_ k_ => XS.iload X0.here hx rfl (hb hby at_49) rfl k_) ?_
        refine own_by (T' := s₁) (g' := (mkF m 52 #[.val (.int aa), .val (.int bb), .val (.int cc), .val (.int kk), .val (.int dd), .val (.int ee), .val (.int (aa &&& (2147483647 : Int32))), .val (.int (bb &&& (2147483647 : Int32))), .unset, .unset, .unset, .unset, .unset, .unset, .unset, .unset, .unset, .unset, .unset, .unset, .unset, .unset] [(.long (bb &&& (2147483647 : Int32)).toInt64), (.long (cc.toInt64 &&& (2147483647 : Int64)))])) (fun t_ k_ => XS.i2l X0.here hx rfl (hb hby at_51) rfl k_) ?_
        refine own_by (T' := s₁) (g' := (mkF m 53 #[.val (.int aa), .val (.int bb), .val (.int cc), .val (.int kk), .val (.int dd), .val (.int ee), .val (.int (aa &&& (2147483647 : Int32))), .val (.int (bb &&& (2147483647 : Int32))), .unset, .unset, .unset, .unset, .unset, .unset, .unset, .unset, .unset, .unset, .unset, .unset, .unset, .unset] [(.long (1 : Int64)), (.long (bb &&& (2147483647 : Int32)).toInt64), (.long (cc.toInt64 &&& (2147483647 : Int64)))])) (fun t_ k_ => XS.lconst X0.here hx rfl (hb hby at_52) k_) ?_
        refine own_by (T' := s₁) (g' := (mkF m 54 #[.val (.int aa), .val (.int bb), .val (.int cc), .val (.int kk), .val (.int dd), .val (.int ee), .val (.int (aa &&& (2147483647 : Int32))), .val (.int (bb &&& (2147483647 : Int32))), .unset, .unset, .unset, .unset, .unset, .unset, .unset, .unset, .unset, .unset, .unset, .unset, .unset, .unset] [(.long ((bb &&& (2147483647 : Int32)).toInt64 + (1 : Int64))), (.long (cc.toInt64 &&& (2147483647 : Int64)))])) (fun t_ k_ => XS.ladd X0.here hx rfl (hb hby at_53) rfl k_) ?_
        refine own_by (T' := s₁) (g' := (mkF m 55 #[.val (.int aa), .val (.int bb), .val (.int cc), .val (.int kk), .val (.int dd), .val (.int ee), .val (.int (aa &&& (2147483647 : Int32))), .val (.int (bb &&& (2147483647 : Int32))), .unset, .unset, .unset, .unset, .unset, .unset, .unset, .unset, .unset, .unset, .unset, .unset, .unset, .unset] [(.long ((cc.toInt64 &&& (2147483647 : Int64)) % ((bb &&& (2147483647 : Int32)).toInt64 + (1 : Int64))))])) (fun t_ k_ => own_lrem X0 hx rfl (hb hby at_54) rfl (own_nz64 _ (own_m31 bb)) k_) ?_
        refine own_by (T' := s₁) (g' := (mkF m 56 #[.val (.int aa), .val (.int bb), .val (.int cc), .val (.int kk), .val (.int dd), .val (.int ee), .val (.int (aa &&& (2147483647 : Int32))), .val (.int (bb &&& (2147483647 : Int32))), .unset, .unset, .unset, .unset, .unset, .unset, .unset, .unset, .unset, .unset, .unset, .unset, .unset, .unset] [(.int (((cc.toInt64 &&& (2147483647 : Int64)) % ((bb &&& (2147483647 : Int32)).toInt64 + (1 : Int64)))).toInt32)])) (fun t_ k_ => XS.l2i X0.here hx rfl (hb hby at_55) rfl k_) ?_
        refine own_by (T' := s₁) (g' := (mkF m 58 #[.val (.int aa), .val (.int bb), .val (.int cc), .val (.int kk), .val (.int dd), .val (.int ee), .val (.int (aa &&& (2147483647 : Int32))), .val (.int (bb &&& (2147483647 : Int32))), .val (.int (((cc.toInt64 &&& (2147483647 : Int64)) % ((bb &&& (2147483647 : Int32)).toInt64 + (1 : Int64)))).toInt32), .unset, .unset, .unset, .unset, .unset, .unset, .unset, .unset, .unset, .unset, .unset, .unset, .unset] [])) (fun t_ k_ => XS.istore X0.here hx rfl (hb hby at_56) rfl (l' := #[.val (.int aa), .val (.int bb), .val (.int cc), .val (.int kk), .val (.int dd), .val (.int ee), .val (.int (aa &&& (2147483647 : Int32))), .val (.int (bb &&& (2147483647 : Int32))), .val (.int (((cc.toInt64 &&& (2147483647 : Int64)) % ((bb &&& (2147483647 : Int32)).toInt64 + (1 : Int64)))).toInt32), .unset, .unset, .unset, .unset, .unset, .unset, .unset, .unset, .unset, .unset, .unset, .unset, .unset]) rfl k_) ?_
        exact k58 (aa &&& (2147483647 : Int32)) (bb &&& (2147483647 : Int32)) ((((cc.toInt64 &&& (2147483647 : Int64)) % ((bb &&& (2147483647 : Int32)).toInt64 + (1 : Int64)))).toInt32) s₁ h0 _ X0 e0 N0 Z0 (own_m31 bb) (own_hc1 cc _ (own_m31 bb))
  · skip
    refine own_by (T' := s₁) (g' := (mkF m 7 #[.val (.int aa), .val (.int bb), .val (.int cc), .val (.int kk), .val (.int dd), .val (.int ee), .unset, .unset, .unset, .unset, .unset, .unset, .unset, .unset, .unset, .unset, .unset, .unset, .unset, .unset, .unset, .unset] [])) (fun t_ k_ => XS.ifNo X0.here hx rfl (hb hby at_4) rfl ((if0 _ _).trans (feq (c4_27 : ¬ ((ee &&& (4 : Int32)) = (0 : Int32)))).1) k_) ?_
    refine own_by (T' := s₁) (g' := (mkF m 8 #[.val (.int aa), .val (.int bb), .val (.int cc), .val (.int kk), .val (.int dd), .val (.int ee), .unset, .unset, .unset, .unset, .unset, .unset, .unset, .unset, .unset, .unset, .unset, .unset, .unset, .unset, .unset, .unset] [(.int (0 : Int32))])) (fun t_ k_ => XS.iconst X0.here hx rfl (hb hby at_7) k_) ?_
    refine own_by (T' := s₁) (g' := (mkF m 15 #[.val (.int aa), .val (.int bb), .val (.int cc), .val (.int kk), .val (.int dd), .val (.int ee), .unset, .unset, .unset, .unset, .unset, .unset, .unset, .unset, .unset, .unset, .unset, .unset, .unset, .unset, .unset, .unset] [(.int (0 : Int32))])) (fun t_ k_ => XS.goto X0.here hx rfl (pc0 := 8) (pc' := 15) rfl (hb hby at_8) (by decide) (by decide) k_) ?_
    refine own_by (T' := s₁) (g' := (mkF m 17 #[.val (.int aa), .val (.int bb), .val (.int cc), .val (.int kk), .val (.int dd), .val (.int ee), .val (.int (0 : Int32)), .unset, .unset, .unset, .unset, .unset, .unset, .unset, .unset, .unset, .unset, .unset, .unset, .unset, .unset, .unset] [])) (fun t_ k_ => XS.istore X0.here hx rfl (hb hby at_15) rfl (l' := #[.val (.int aa), .val (.int bb), .val (.int cc), .val (.int kk), .val (.int dd), .val (.int ee), .val (.int (0 : Int32)), .unset, .unset, .unset, .unset, .unset, .unset, .unset, .unset, .unset, .unset, .unset, .unset, .unset, .unset, .unset]) rfl k_) ?_
    refine own_by (T' := s₁) (g' := (mkF m 19 #[.val (.int aa), .val (.int bb), .val (.int cc), .val (.int kk), .val (.int dd), .val (.int ee), .val (.int (0 : Int32)), .unset, .unset, .unset, .unset, .unset, .unset, .unset, .unset, .unset, .unset, .unset, .unset, .unset, .unset, .unset] [(.int ee)])) (fun t_ k_ => XS.iload X0.here hx rfl (hb hby at_17) rfl k_) ?_
    refine own_by (T' := s₁) (g' := (mkF m 20 #[.val (.int aa), .val (.int bb), .val (.int cc), .val (.int kk), .val (.int dd), .val (.int ee), .val (.int (0 : Int32)), .unset, .unset, .unset, .unset, .unset, .unset, .unset, .unset, .unset, .unset, .unset, .unset, .unset, .unset, .unset] [(.int (3 : Int32)), (.int ee)])) (fun t_ k_ => XS.iconst X0.here hx rfl (hb hby at_19) k_) ?_
    refine own_by (T' := s₁) (g' := (mkF m 21 #[.val (.int aa), .val (.int bb), .val (.int cc), .val (.int kk), .val (.int dd), .val (.int ee), .val (.int (0 : Int32)), .unset, .unset, .unset, .unset, .unset, .unset, .unset, .unset, .unset, .unset, .unset, .unset, .unset, .unset, .unset] [(.int (ee &&& (3 : Int32)))])) (fun t_ k_ => XS.iand X0.here hx rfl (hb hby at_20) rfl k_) ?_
    by_cases c21_30 : (ee &&& (3 : Int32)) = (0 : Int32)
    · skip
      refine own_by (T' := s₁) (g' := (mkF m 24 #[.val (.int aa), .val (.int bb), .val (.int cc), .val (.int kk), .val (.int dd), .val (.int ee), .val (.int (0 : Int32)), .unset, .unset, .unset, .unset, .unset, .unset, .unset, .unset, .unset, .unset, .unset, .unset, .unset, .unset, .unset] [])) (fun t_ k_ => XS.ifNo X0.here hx rfl (hb hby at_21) rfl ((if0 _ _).trans (teq (c21_30 : (ee &&& (3 : Int32)) = (0 : Int32))).2) k_) ?_
      refine own_by (T' := s₁) (g' := (mkF m 25 #[.val (.int aa), .val (.int bb), .val (.int cc), .val (.int kk), .val (.int dd), .val (.int ee), .val (.int (0 : Int32)), .unset, .unset, .unset, .unset, .unset, .unset, .unset, .unset, .unset, .unset, .unset, .unset, .unset, .unset, .unset] [(.int (0 : Int32))])) (fun t_ k_ => XS.iconst X0.here hx rfl (hb hby at_24) k_) ?_
      refine own_by (T' := s₁) (g' := (mkF m 32 #[.val (.int aa), .val (.int bb), .val (.int cc), .val (.int kk), .val (.int dd), .val (.int ee), .val (.int (0 : Int32)), .unset, .unset, .unset, .unset, .unset, .unset, .unset, .unset, .unset, .unset, .unset, .unset, .unset, .unset, .unset] [(.int (0 : Int32))])) (fun t_ k_ => XS.goto X0.here hx rfl (pc0 := 25) (pc' := 32) rfl (hb hby at_25) (by decide) (by decide) k_) ?_
      refine own_by (T' := s₁) (g' := (mkF m 34 #[.val (.int aa), .val (.int bb), .val (.int cc), .val (.int kk), .val (.int dd), .val (.int ee), .val (.int (0 : Int32)), .val (.int (0 : Int32)), .unset, .unset, .unset, .unset, .unset, .unset, .unset, .unset, .unset, .unset, .unset, .unset, .unset, .unset] [])) (fun t_ k_ => XS.istore X0.here hx rfl (hb hby at_32) rfl (l' := #[.val (.int aa), .val (.int bb), .val (.int cc), .val (.int kk), .val (.int dd), .val (.int ee), .val (.int (0 : Int32)), .val (.int (0 : Int32)), .unset, .unset, .unset, .unset, .unset, .unset, .unset, .unset, .unset, .unset, .unset, .unset, .unset, .unset]) rfl k_) ?_
      refine own_by (T' := s₁) (g' := (mkF m 36 #[.val (.int aa), .val (.int bb), .val (.int cc), .val (.int kk), .val (.int dd), .val (.int ee), .val (.int (0 : Int32)), .val (.int (0 : Int32)), .unset, .unset, .unset, .unset, .unset, .unset, .unset, .unset, .unset, .unset, .unset, .unset, .unset, .unset] [(.int (0 : Int32))])) (fun t_ k_ => XS.iload X0.here hx rfl (hb hby at_34) rfl k_) ?_
      refine own_by (T' := s₁) (g' := (mkF m 39 #[.val (.int aa), .val (.int bb), .val (.int cc), .val (.int kk), .val (.int dd), .val (.int ee), .val (.int (0 : Int32)), .val (.int (0 : Int32)), .unset, .unset, .unset, .unset, .unset, .unset, .unset, .unset, .unset, .unset, .unset, .unset, .unset, .unset] [])) (fun t_ k_ => XS.ifNo X0.here hx rfl (hb hby at_36) rfl ((if0 _ _).trans (teq ((by decide) : (0 : Int32) = (0 : Int32))).2) k_) ?_
      refine own_by (T' := s₁) (g' := (mkF m 40 #[.val (.int aa), .val (.int bb), .val (.int cc), .val (.int kk), .val (.int dd), .val (.int ee), .val (.int (0 : Int32)), .val (.int (0 : Int32)), .unset, .unset, .unset, .unset, .unset, .unset, .unset, .unset, .unset, .unset, .unset, .unset, .unset, .unset] [(.int (0 : Int32))])) (fun t_ k_ => XS.iconst X0.here hx rfl (hb hby at_39) k_) ?_
      refine own_by (T' := s₁) (g' := (mkF m 56 #[.val (.int aa), .val (.int bb), .val (.int cc), .val (.int kk), .val (.int dd), .val (.int ee), .val (.int (0 : Int32)), .val (.int (0 : Int32)), .unset, .unset, .unset, .unset, .unset, .unset, .unset, .unset, .unset, .unset, .unset, .unset, .unset, .unset] [(.int (0 : Int32))])) (fun t_ k_ => XS.goto X0.here hx rfl (pc0 := 40) (pc' := 56) rfl (hb hby at_40) (by decide) (by decide) k_) ?_
      refine own_by (T' := s₁) (g' := (mkF m 58 #[.val (.int aa), .val (.int bb), .val (.int cc), .val (.int kk), .val (.int dd), .val (.int ee), .val (.int (0 : Int32)), .val (.int (0 : Int32)), .val (.int (0 : Int32)), .unset, .unset, .unset, .unset, .unset, .unset, .unset, .unset, .unset, .unset, .unset, .unset, .unset] [])) (fun t_ k_ => XS.istore X0.here hx rfl (hb hby at_56) rfl (l' := #[.val (.int aa), .val (.int bb), .val (.int cc), .val (.int kk), .val (.int dd), .val (.int ee), .val (.int (0 : Int32)), .val (.int (0 : Int32)), .val (.int (0 : Int32)), .unset, .unset, .unset, .unset, .unset, .unset, .unset, .unset, .unset, .unset, .unset, .unset, .unset]) rfl k_) ?_
      exact k58 (0 : Int32) (0 : Int32) (0 : Int32) s₁ h0 _ X0 e0 N0 Z0 (by decide) (own_hc0 (by decide))
    · skip
      refine own_by (T' := s₁) (g' := (mkF m 28 #[.val (.int aa), .val (.int bb), .val (.int cc), .val (.int kk), .val (.int dd), .val (.int ee), .val (.int (0 : Int32)), .unset, .unset, .unset, .unset, .unset, .unset, .unset, .unset, .unset, .unset, .unset, .unset, .unset, .unset, .unset] [])) (fun t_ k_ => XS.ifYes X0.here hx rfl (pc0 := 21) (pc' := 28) rfl (hb hby at_21) rfl ((if0 _ _).trans (feq (c21_30 : ¬ ((ee &&& (3 : Int32)) = (0 : Int32)))).2) (by decide) (by decide) k_) ?_
      refine own_by (T' := s₁) (g' := (mkF m 29 #[.val (.int aa), .val (.int bb), .val (.int cc), .val (.int kk), .val (.int dd), .val (.int ee), .val (.int (0 : Int32)), .unset, .unset, .unset, .unset, .unset, .unset, .unset, .unset, .unset, .unset, .unset, .unset, .unset, .unset, .unset] [(.int bb)])) (fun t_ k_ => XS.iloadN X0.here hx rfl (hb hby at_28) rfl k_) ?_
      refine own_by (T' := s₁) (g' := (mkF m 31 #[.val (.int aa), .val (.int bb), .val (.int cc), .val (.int kk), .val (.int dd), .val (.int ee), .val (.int (0 : Int32)), .unset, .unset, .unset, .unset, .unset, .unset, .unset, .unset, .unset, .unset, .unset, .unset, .unset, .unset, .unset] [(.int (2147483647 : Int32)), (.int bb)])) (fun t_ k_ => X0.ldcInt hx hown (mvT hZ (hw _ (List.mem_of_getElem? (i := 0) rfl))) (g := (mkF m 29 #[.val (.int aa), .val (.int bb), .val (.int cc), .val (.int kk), .val (.int dd), .val (.int ee), .val (.int (0 : Int32)), .unset, .unset, .unset, .unset, .unset, .unset, .unset, .unset, .unset, .unset, .unset, .unset, .unset, .unset, .unset] [(.int bb)])) rfl (hb hby at_29) _ k_) ?_
      refine own_by (T' := s₁) (g' := (mkF m 32 #[.val (.int aa), .val (.int bb), .val (.int cc), .val (.int kk), .val (.int dd), .val (.int ee), .val (.int (0 : Int32)), .unset, .unset, .unset, .unset, .unset, .unset, .unset, .unset, .unset, .unset, .unset, .unset, .unset, .unset, .unset] [(.int (bb &&& (2147483647 : Int32)))])) (fun t_ k_ => XS.iand X0.here hx rfl (hb hby at_31) rfl k_) ?_
      refine own_by (T' := s₁) (g' := (mkF m 34 #[.val (.int aa), .val (.int bb), .val (.int cc), .val (.int kk), .val (.int dd), .val (.int ee), .val (.int (0 : Int32)), .val (.int (bb &&& (2147483647 : Int32))), .unset, .unset, .unset, .unset, .unset, .unset, .unset, .unset, .unset, .unset, .unset, .unset, .unset, .unset] [])) (fun t_ k_ => XS.istore X0.here hx rfl (hb hby at_32) rfl (l' := #[.val (.int aa), .val (.int bb), .val (.int cc), .val (.int kk), .val (.int dd), .val (.int ee), .val (.int (0 : Int32)), .val (.int (bb &&& (2147483647 : Int32))), .unset, .unset, .unset, .unset, .unset, .unset, .unset, .unset, .unset, .unset, .unset, .unset, .unset, .unset]) rfl k_) ?_
      refine own_by (T' := s₁) (g' := (mkF m 36 #[.val (.int aa), .val (.int bb), .val (.int cc), .val (.int kk), .val (.int dd), .val (.int ee), .val (.int (0 : Int32)), .val (.int (bb &&& (2147483647 : Int32))), .unset, .unset, .unset, .unset, .unset, .unset, .unset, .unset, .unset, .unset, .unset, .unset, .unset, .unset] [(.int (bb &&& (2147483647 : Int32)))])) (fun t_ k_ => XS.iload X0.here hx rfl (hb hby at_34) rfl k_) ?_
      by_cases c36_31 : (bb &&& (2147483647 : Int32)) = (0 : Int32)
      · skip
        refine own_by (T' := s₁) (g' := (mkF m 39 #[.val (.int aa), .val (.int bb), .val (.int cc), .val (.int kk), .val (.int dd), .val (.int ee), .val (.int (0 : Int32)), .val (.int (bb &&& (2147483647 : Int32))), .unset, .unset, .unset, .unset, .unset, .unset, .unset, .unset, .unset, .unset, .unset, .unset, .unset, .unset] [])) (fun t_ k_ => XS.ifNo X0.here hx rfl (hb hby at_36) rfl ((if0 _ _).trans (teq (c36_31 : (bb &&& (2147483647 : Int32)) = (0 : Int32))).2) k_) ?_
        refine own_by (T' := s₁) (g' := (mkF m 40 #[.val (.int aa), .val (.int bb), .val (.int cc), .val (.int kk), .val (.int dd), .val (.int ee), .val (.int (0 : Int32)), .val (.int (bb &&& (2147483647 : Int32))), .unset, .unset, .unset, .unset, .unset, .unset, .unset, .unset, .unset, .unset, .unset, .unset, .unset, .unset] [(.int (0 : Int32))])) (fun t_ k_ => XS.iconst X0.here hx rfl (hb hby at_39) k_) ?_
        refine own_by (T' := s₁) (g' := (mkF m 56 #[.val (.int aa), .val (.int bb), .val (.int cc), .val (.int kk), .val (.int dd), .val (.int ee), .val (.int (0 : Int32)), .val (.int (bb &&& (2147483647 : Int32))), .unset, .unset, .unset, .unset, .unset, .unset, .unset, .unset, .unset, .unset, .unset, .unset, .unset, .unset] [(.int (0 : Int32))])) (fun t_ k_ => XS.goto X0.here hx rfl (pc0 := 40) (pc' := 56) rfl (hb hby at_40) (by decide) (by decide) k_) ?_
        refine own_by (T' := s₁) (g' := (mkF m 58 #[.val (.int aa), .val (.int bb), .val (.int cc), .val (.int kk), .val (.int dd), .val (.int ee), .val (.int (0 : Int32)), .val (.int (bb &&& (2147483647 : Int32))), .val (.int (0 : Int32)), .unset, .unset, .unset, .unset, .unset, .unset, .unset, .unset, .unset, .unset, .unset, .unset, .unset] [])) (fun t_ k_ => XS.istore X0.here hx rfl (hb hby at_56) rfl (l' := #[.val (.int aa), .val (.int bb), .val (.int cc), .val (.int kk), .val (.int dd), .val (.int ee), .val (.int (0 : Int32)), .val (.int (bb &&& (2147483647 : Int32))), .val (.int (0 : Int32)), .unset, .unset, .unset, .unset, .unset, .unset, .unset, .unset, .unset, .unset, .unset, .unset, .unset]) rfl k_) ?_
        exact k58 (0 : Int32) (bb &&& (2147483647 : Int32)) (0 : Int32) s₁ h0 _ X0 e0 N0 Z0 (own_m31 bb) (own_hc0 (own_m31 bb))
      · skip
        refine own_by (T' := s₁) (g' := (mkF m 43 #[.val (.int aa), .val (.int bb), .val (.int cc), .val (.int kk), .val (.int dd), .val (.int ee), .val (.int (0 : Int32)), .val (.int (bb &&& (2147483647 : Int32))), .unset, .unset, .unset, .unset, .unset, .unset, .unset, .unset, .unset, .unset, .unset, .unset, .unset, .unset] [])) (fun t_ k_ => XS.ifYes X0.here hx rfl (pc0 := 36) (pc' := 43) rfl (hb hby at_36) rfl ((if0 _ _).trans (feq (c36_31 : ¬ ((bb &&& (2147483647 : Int32)) = (0 : Int32)))).2) (by decide) (by decide) k_) ?_
        refine own_by (T' := s₁) (g' := (mkF m 44 #[.val (.int aa), .val (.int bb), .val (.int cc), .val (.int kk), .val (.int dd), .val (.int ee), .val (.int (0 : Int32)), .val (.int (bb &&& (2147483647 : Int32))), .unset, .unset, .unset, .unset, .unset, .unset, .unset, .unset, .unset, .unset, .unset, .unset, .unset, .unset] [(.int cc)])) (fun t_ k_ => XS.iloadN X0.here hx rfl (hb hby at_43) rfl k_) ?_
        refine own_by (T' := s₁) (g' := (mkF m 45 #[.val (.int aa), .val (.int bb), .val (.int cc), .val (.int kk), .val (.int dd), .val (.int ee), .val (.int (0 : Int32)), .val (.int (bb &&& (2147483647 : Int32))), .unset, .unset, .unset, .unset, .unset, .unset, .unset, .unset, .unset, .unset, .unset, .unset, .unset, .unset] [(.long cc.toInt64)])) (fun t_ k_ => XS.i2l X0.here hx rfl (hb hby at_44) rfl k_) ?_
        refine own_by (T' := s₁) (g' := (mkF m 48 #[.val (.int aa), .val (.int bb), .val (.int cc), .val (.int kk), .val (.int dd), .val (.int ee), .val (.int (0 : Int32)), .val (.int (bb &&& (2147483647 : Int32))), .unset, .unset, .unset, .unset, .unset, .unset, .unset, .unset, .unset, .unset, .unset, .unset, .unset, .unset] [(.long (2147483647 : Int64)), (.long cc.toInt64)])) (fun t_ k_ => X0.ldc2Long hx hown (mvT hZ (hw _ (List.mem_of_getElem? (i := 1) rfl))) (g := (mkF m 45 #[.val (.int aa), .val (.int bb), .val (.int cc), .val (.int kk), .val (.int dd), .val (.int ee), .val (.int (0 : Int32)), .val (.int (bb &&& (2147483647 : Int32))), .unset, .unset, .unset, .unset, .unset, .unset, .unset, .unset, .unset, .unset, .unset, .unset, .unset, .unset] [(.long cc.toInt64)])) rfl (hb hby at_45) _ k_) ?_
        refine own_by (T' := s₁) (g' := (mkF m 49 #[.val (.int aa), .val (.int bb), .val (.int cc), .val (.int kk), .val (.int dd), .val (.int ee), .val (.int (0 : Int32)), .val (.int (bb &&& (2147483647 : Int32))), .unset, .unset, .unset, .unset, .unset, .unset, .unset, .unset, .unset, .unset, .unset, .unset, .unset, .unset] [(.long (cc.toInt64 &&& (2147483647 : Int64)))])) (fun t_ k_ => XS.land X0.here hx rfl (hb hby at_48) rfl k_) ?_
        refine own_by (T' := s₁) (g' := (mkF m 51 #[.val (.int aa), .val (.int bb), .val (.int cc), .val (.int kk), .val (.int dd), .val (.int ee), .val (.int (0 : Int32)), .val (.int (bb &&& (2147483647 : Int32))), .unset, .unset, .unset, .unset, .unset, .unset, .unset, .unset, .unset, .unset, .unset, .unset, .unset, .unset] [(.int (bb &&& (2147483647 : Int32))), (.long (cc.toInt64 &&& (2147483647 : Int64)))])) (fun t_ k_ => XS.iload X0.here hx rfl (hb hby at_49) rfl k_) ?_
        refine own_by (T' := s₁) (g' := (mkF m 52 #[.val (.int aa), .val (.int bb), .val (.int cc), .val (.int kk), .val (.int dd), .val (.int ee), .val (.int (0 : Int32)), .val (.int (bb &&& (2147483647 : Int32))), .unset, .unset, .unset, .unset, .unset, .unset, .unset, .unset, .unset, .unset, .unset, .unset, .unset, .unset] [(.long (bb &&& (2147483647 : Int32)).toInt64), (.long (cc.toInt64 &&& (2147483647 : Int64)))])) (fun t_ k_ => XS.i2l X0.here hx rfl (hb hby at_51) rfl k_) ?_
        refine own_by (T' := s₁) (g' := (mkF m 53 #[.val (.int aa), .val (.int bb), .val (.int cc), .val (.int kk), .val (.int dd), .val (.int ee), .val (.int (0 : Int32)), .val (.int (bb &&& (2147483647 : Int32))), .unset, .unset, .unset, .unset, .unset, .unset, .unset, .unset, .unset, .unset, .unset, .unset, .unset, .unset] [(.long (1 : Int64)), (.long (bb &&& (2147483647 : Int32)).toInt64), (.long (cc.toInt64 &&& (2147483647 : Int64)))])) (fun t_ k_ => XS.lconst X0.here hx rfl (hb hby at_52) k_) ?_
        refine own_by (T' := s₁) (g' := (mkF m 54 #[.val (.int aa), .val (.int bb), .val (.int cc), .val (.int kk), .val (.int dd), .val (.int ee), .val (.int (0 : Int32)), .val (.int (bb &&& (2147483647 : Int32))), .unset, .unset, .unset, .unset, .unset, .unset, .unset, .unset, .unset, .unset, .unset, .unset, .unset, .unset] [(.long ((bb &&& (2147483647 : Int32)).toInt64 + (1 : Int64))), (.long (cc.toInt64 &&& (2147483647 : Int64)))])) (fun t_ k_ => XS.ladd X0.here hx rfl (hb hby at_53) rfl k_) ?_
        refine own_by (T' := s₁) (g' := (mkF m 55 #[.val (.int aa), .val (.int bb), .val (.int cc), .val (.int kk), .val (.int dd), .val (.int ee), .val (.int (0 : Int32)), .val (.int (bb &&& (2147483647 : Int32))), .unset, .unset, .unset, .unset, .unset, .unset, .unset, .unset, .unset, .unset, .unset, .unset, .unset, .unset] [(.long ((cc.toInt64 &&& (2147483647 : Int64)) % ((bb &&& (2147483647 : Int32)).toInt64 + (1 : Int64))))])) (fun t_ k_ => own_lrem X0 hx rfl (hb hby at_54) rfl (own_nz64 _ (own_m31 bb)) k_) ?_
        refine own_by (T' := s₁) (g' := (mkF m 56 #[.val (.int aa), .val (.int bb), .val (.int cc), .val (.int kk), .val (.int dd), .val (.int ee), .val (.int (0 : Int32)), .val (.int (bb &&& (2147483647 : Int32))), .unset, .unset, .unset, .unset, .unset, .unset, .unset, .unset, .unset, .unset, .unset, .unset, .unset, .unset] [(.int (((cc.toInt64 &&& (2147483647 : Int64)) % ((bb &&& (2147483647 : Int32)).toInt64 + (1 : Int64)))).toInt32)])) (fun t_ k_ => XS.l2i X0.here hx rfl (hb hby at_55) rfl k_) ?_
        refine own_by (T' := s₁) (g' := (mkF m 58 #[.val (.int aa), .val (.int bb), .val (.int cc), .val (.int kk), .val (.int dd), .val (.int ee), .val (.int (0 : Int32)), .val (.int (bb &&& (2147483647 : Int32))), .val (.int (((cc.toInt64 &&& (2147483647 : Int64)) % ((bb &&& (2147483647 : Int32)).toInt64 + (1 : Int64)))).toInt32), .unset, .unset, .unset, .unset, .unset, .unset, .unset, .unset, .unset, .unset, .unset, .unset, .unset] [])) (fun t_ k_ => XS.istore X0.here hx rfl (hb hby at_56) rfl (l' := #[.val (.int aa), .val (.int bb), .val (.int cc), .val (.int kk), .val (.int dd), .val (.int ee), .val (.int (0 : Int32)), .val (.int (bb &&& (2147483647 : Int32))), .val (.int (((cc.toInt64 &&& (2147483647 : Int64)) % ((bb &&& (2147483647 : Int32)).toInt64 + (1 : Int64)))).toInt32), .unset, .unset, .unset, .unset, .unset, .unset, .unset, .unset, .unset, .unset, .unset, .unset, .unset]) rfl k_) ?_
        exact k58 (0 : Int32) (bb &&& (2147483647 : Int32)) ((((cc.toInt64 &&& (2147483647 : Int64)) % ((bb &&& (2147483647 : Int32)).toInt64 + (1 : Int64)))).toInt32) s₁ h0 _ X0 e0 N0 Z0 (own_m31 bb) (own_hc1 cc _ (own_m31 bb))
set_option maxRecDepth 65536 in
set_option maxHeartbeats 40000000 in
theorem own_comes {Post : Tables → Env → Array Value → State → Outcome → State → Prop} (hpost : ∀ tb e args s v u, (limb_1_1.after args s (.returned v) u = true ∧ limb_1_2.after args s (.returned v) u = true ∧ True) → FrameEnd s (.returned v) u (Jvm.fieldLocs frame_1_writes args s ++ Jvm.arrayLocs frame_1_arrays args s ++ Jvm.staticLocs frame_1_statics s) 16 128 → Post tb e args s (.returned v) u) :
    ArmFor flags0 classFile x code maxLocals ret World_1 tables_1 room_1 Calls_1 rest_1 Pre_1 Post := by
  intro l hfl _ _ p e ha hc hk s m args below hf hA hF happ hP
  obtain ⟨hcalls, hrest, hpre⟩ := hP
  obtain ⟨-, -, -, hnamed, -, -, -, hat⟩ := (Spec.applies_iff hf).mp happ
  obtain ⟨hg, hn⟩ := and_e (Cond.before_iff.mp (show (Jvm.Cond.and given_1 narrow_1).before args s = true from hpre))
  obtain ⟨g0, gr0⟩ := and_e hg
  obtain ⟨w0, w1, w2, w3, w4, w5, rfl⟩ : ∃ w0 w1 w2 w3 w4 w5 : Value, args = #[w0, w1, w2, w3, w4, w5] := by
    have hs : args.size = 6 := by simpa [Cond.value, given_1] using g0
    obtain ⟨L⟩ := args
    match L, hs with
    | [w0, w1, w2, w3, w4, w5], _ => exact ⟨w0, w1, w2, w3, w4, w5, rfl⟩
  have hw := fun d (hd : d ∈ tables_1) => atoms_spec (ws := Jvm.Cond.code x code maxLocals ret :: tables_1) hat d (List.mem_cons_of_mem _ hd)
  have hfit : Fit s := fun {y c} hc i hi => by
    obtain ⟨ha, rfl⟩ := Array.getElem?_eq_some_iff.mp hc
    have q := List.all_eq_true.mp ((Array.all_eq_true_iff_forall_mem.mp hF) _ (Array.getElem_mem ha)) i (List.mem_range.mpr hi)
    simpa [Array.getElem?_eq_getElem hi] using q
  obtain ⟨q0, gr1⟩ := and_e gr0
  obtain ⟨q1, gr2⟩ := and_e gr1
  obtain ⟨q2, gr3⟩ := and_e gr2
  obtain ⟨q3, gr4⟩ := and_e gr3
  obtain ⟨q4, gr5⟩ := and_e gr4
  obtain ⟨i0, ei0⟩ := is_v q0
  obtain rfl : w0 = (.int i0) := Option.some.inj ei0
  obtain ⟨i1, ei1⟩ := is_v q1
  obtain rfl : w1 = (.int i1) := Option.some.inj ei1
  obtain ⟨i2, ei2⟩ := is_v q2
  obtain rfl : w2 = (.int i2) := Option.some.inj ei2
  obtain ⟨i3, ei3⟩ := is_v q3
  obtain rfl : w3 = (.int i3) := Option.some.inj ei3
  obtain ⟨i4, ei4⟩ := is_v q4
  obtain rfl : w4 = (.int i4) := Option.some.inj ei4
  obtain ⟨i5, ei5⟩ := is_v gr5
  obtain rfl : w5 = (.int i5) := Option.some.inj ei5
  obtain ⟨n, o, h1, h2, h3, _, L, rfl, ⟨rfl, N⟩, hq⟩ := own_rm_law l s _ hw tables_1 i0 i1 i2 i3 i4 i5  s.heap s.heap.size (Nat.le_refl _)  p e ha hc hk s m _ below hf ((Spec.applies_iff_loose hf).mp happ).1 ⟨rfl, State.Warmed39.refl s, rfl⟩ trivial
  refine ⟨n, _, h1, h2, h3, hpost _ _ _ _ _ _ ⟨Cond.after_iff.mpr rfl, Cond.after_iff.mpr (eq_i res_at (Term.int_eval (1)) rfl), trivial⟩ ⟨hq.1, hq.2.1, (hq.2.2.sift fun y hy => Or.inr (N y hy)).mono (by decide) (by decide)⟩⟩
theorem main_1_1 : Claimed_1_1 := own_comes fun _ _ _ _ _ _ h hF => ⟨h.1, hF⟩
theorem main_1_2 : Claimed_1_2 := own_comes fun _ _ _ _ _ _ h hF => ⟨h.2.1, hF⟩
end Jvm.Pilot.@@N@@
namespace Jvm.Pilot.@@N@@
open Jvm Jvm.ClassFile Sem Op Lib Jvm.Free Jvm.Stand Jvm.Pilot.@@N@@.Jvm.D
/-! MADE BY PROGRAM (witnessworld.py) out of the Statement's table words and the real class files: 10 classes; the members and pool entries that the words name. The judged class is class 1, her method 1. -/
namespace start1
open Jvm.ClassFile
def u (s : String) : CpInfo := .utf8 (stringToUtf16 s)
/-- a pool by its gaps: so many unusable entries, then the entry; so many at the end -/
def gap : Nat → List CpInfo → List CpInfo
  | 0, r => r
  | n + 1, r => .unusable :: gap n r
def poolList (es : List (Nat × CpInfo)) (last : Nat) : List CpInfo := es.foldr (fun e r => gap e.1 (e.2 :: r)) (gap last [])
def pool (es : List (Nat × CpInfo)) (last : Nat) : Array CpInfo := ⟨poolList es last⟩
def fileOf (pool : Array CpInfo) (this : Nat) (attrs : Array Attribute := #[]) (ms : Array MethodInfo := #[]) (fl : Nat := 33) (sup : Nat := 0) (ifs : Array Nat := #[]) (fds : Array FieldInfo := #[]) : ClassFile where
  minorVersion := 0
  majorVersion := 65
  constantPool := pool
  accessFlags := fl
  thisClass := this
  superClass := sup
  interfaces := ifs
  fields := fds
  methods := ms
  attributes := attrs
def plain (name : String) (sup : Option ClassId) : Class where
  name := name
  kind := .ordinary
  loader := none
  accessFlags := 33
  super := sup
  interfaces := #[]
  cf := none
  fields := #[]
  methods := #[]
  instanceTypes := #[]
  staticTypes := #[]
  resolved := #[]
  callSites := []
  init := .initialized
  statics := none
  mirror := none

def pool0 : Array CpInfo := pool [(5, u "<init>"), (0, u "()V"), (1, .class_ 10), (1, u "java/lang/Object")] 113

def k0c0 : Code := { maxStack := 0, maxLocals := 1, code := object_method_1_code, exceptionTable := #[], attributes := #[] }
def k0m0 : Method := { name := "<init>", desc := "()V", sig := { parameters := [], returnType := none }, accessFlags := 1, code := some k0c0 }
/-- java/lang/Object -/
def k0 : Class := { plain "java/lang/Object" none with
  accessFlags := 33
  interfaces := #[]
  cf := some (fileOf pool0 8 #[] #[{ accessFlags := 1, nameIndex := 5, descriptorIndex := 6, attributes := #[] }] 33 0 #[] #[])
  fields := #[]
  methods := #[k0m0]
  instanceTypes := #[]
  staticTypes := #[]
  resolved := Array.replicate 124 none
  statics := none }

def pool1 : Array CpInfo := pool [(2, .class_ 4), (1, u "java/lang/Object"), (0, u "<init>"), (0, u "()V"), (0, .integer 2147483647), (0, .long 2147483647), (1, .class_ 11), (0, u "com/example/arcwright/arcwright/model/route/Similarity"), (0, .methodref 10 13), (0, .nameAndType 5 14), (0, u "(III)V"), (0, .methodref 10 16), (0, .nameAndType 17 18), (0, u "value"), (0, u "()D"), (2, .class_ 22), (0, u "com/example/arcwright/arcwright/model/route/SimilarityValuePinLaw"), (2, u "law"), (0, u "(IIIIII)Z")] 3

def k1m0 : Method := { name := "<init>", desc := "()V", sig := { parameters := [], returnType := none }, accessFlags := 1, code := none }
def k1c1 : Code := { maxStack := 6, maxLocals := 22, code := code, exceptionTable := #[], attributes := #[] }
def k1m1 : Method := { name := "law", desc := "(IIIIII)Z", sig := { parameters := [.int, .int, .int, .int, .int, .int], returnType := some .boolean }, accessFlags := 9, code := some k1c1 }
/-- com/example/arcwright/arcwright/model/route/SimilarityValuePinLaw -/
def k1 : Class := { plain "com/example/arcwright/arcwright/model/route/SimilarityValuePinLaw" (some 0) with
  accessFlags := 49
  interfaces := #[]
  cf := some (fileOf pool1 21 #[] #[{ accessFlags := 1, nameIndex := 5, descriptorIndex := 6, attributes := #[] }, { accessFlags := 9, nameIndex := 25, descriptorIndex := 26, attributes := #[] }] 49 2 #[] #[])
  fields := #[]
  methods := #[k1m0, k1m1]
  instanceTypes := #[]
  staticTypes := #[]
  resolved := Array.replicate 30 none
  statics := none }

def pool2 : Array CpInfo := pool [(1, .methodref 2 3), (0, .class_ 4), (0, .nameAndType 5 6), (0, u "java/lang/Object"), (0, u "<init>"), (0, u "()V"), (0, .class_ 8), (0, u "java/lang/Record")] 13

def k2c0 : Code := { maxStack := 1, maxLocals := 1, code := jdk_30_method_1_code, exceptionTable := #[], attributes := #[] }
def k2m0 : Method := { name := "<init>", desc := "()V", sig := { parameters := [], returnType := none }, accessFlags := 4, code := some k2c0 }
/-- java/lang/Record -/
def k2 : Class := { plain "java/lang/Record" (some 0) with
  accessFlags := 1057
  interfaces := #[]
  cf := some (fileOf pool2 7 #[] #[{ accessFlags := 4, nameIndex := 5, descriptorIndex := 6, attributes := #[] }] 1057 2 #[] #[])
  fields := #[]
  methods := #[k2m0]
  instanceTypes := #[]
  staticTypes := #[]
  resolved := Array.replicate 22 none
  statics := none }

def pool3 : Array CpInfo := pool [(1, .methodref 2 3), (0, .class_ 4), (0, .nameAndType 5 6), (0, u "java/lang/Record"), (0, u "<init>"), (0, u "()V"), (0, .fieldref 8 9), (0, .class_ 10), (0, .nameAndType 11 12), (0, u "com/example/arcwright/arcwright/model/route/Similarity"), (0, u "pairsA"), (0, u "I"), (0, .fieldref 8 14), (0, .nameAndType 15 12), (0, u "pairsB"), (0, .fieldref 8 17), (0, .nameAndType 18 12), (0, u "common"), (32, u "(III)V"), (21, u "value"), (0, u "()D")] 40

def k3c0 : Code := { maxStack := 2, maxLocals := 4, code := prog_45_method_1_code, exceptionTable := #[], attributes := #[] }
def k3m0 : Method := { name := "<init>", desc := "(III)V", sig := { parameters := [.int, .int, .int], returnType := none }, accessFlags := 1, code := some k3c0 }
def k3c1 : Code := { maxStack := 4, maxLocals := 3, code := prog_45_method_3_code, exceptionTable := #[], attributes := #[] }
def k3m1 : Method := { name := "value", desc := "()D", sig := { parameters := [], returnType := some .double }, accessFlags := 1, code := some k3c1 }
/-- com/example/arcwright/arcwright/model/route/Similarity -/
def k3 : Class := { plain "com/example/arcwright/arcwright/model/route/Similarity" (some 2) with
  accessFlags := 49
  interfaces := #[]
  cf := some (fileOf pool3 8 #[] #[{ accessFlags := 1, nameIndex := 5, descriptorIndex := 51, attributes := #[] }, { accessFlags := 1, nameIndex := 73, descriptorIndex := 74, attributes := #[] }] 49 2 #[] #[{ accessFlags := 18, nameIndex := 11, descriptorIndex := 12, attributes := #[] }, { accessFlags := 18, nameIndex := 15, descriptorIndex := 12, attributes := #[] }, { accessFlags := 18, nameIndex := 18, descriptorIndex := 12, attributes := #[] }])
  fields := #[{ name := "pairsA", type := .int, accessFlags := 18, slot := 0, constantValue := 0 }, { name := "pairsB", type := .int, accessFlags := 18, slot := 1, constantValue := 0 }, { name := "common", type := .int, accessFlags := 18, slot := 2, constantValue := 0 }]
  methods := #[k3m0, k3m1]
  instanceTypes := #[.int, .int, .int]
  staticTypes := #[]
  resolved := Array.replicate 115 none
  statics := none }

def pool4 : Array CpInfo := pool [(1, u "java/lang/Cloneable"), (0, .class_ 1), (0, u "java/lang/Object"), (0, .class_ 3)] 3

/-- java/lang/Cloneable -/
def k4 : Class := { plain "java/lang/Cloneable" (some 0) with
  accessFlags := 1537
  interfaces := #[]
  cf := some (fileOf pool4 2 #[] #[] 1537 4 #[] #[])
  fields := #[]
  methods := #[]
  instanceTypes := #[]
  staticTypes := #[]
  resolved := Array.replicate 8 none
  statics := none }

def pool5 : Array CpInfo := pool [(1, u "java/io/Serializable"), (0, .class_ 1), (0, u "java/lang/Object"), (0, .class_ 3)] 3

/-- java/io/Serializable -/
def k5 : Class := { plain "java/io/Serializable" (some 0) with
  accessFlags := 1537
  interfaces := #[]
  cf := some (fileOf pool5 2 #[] #[] 1537 4 #[] #[])
  fields := #[]
  methods := #[]
  instanceTypes := #[]
  staticTypes := #[]
  resolved := Array.replicate 8 none
  statics := none }

/-- the primitive byte -/
def k6 : Class := { plain "byte" none with kind := .primitive 'B', accessFlags := 0x411 }
/-- [B -/
def k7 : Class := { plain "[B" (some 0) with kind := .array 6 .byte, interfaces := #[4, 5], accessFlags := 1041 }

/-- the primitive int -/
def k8 : Class := { plain "int" none with kind := .primitive 'I', accessFlags := 0x411 }
/-- [I -/
def k9 : Class := { plain "[I" (some 0) with kind := .array 8 .int, interfaces := #[4, 5], accessFlags := 1041 }

def heap : Heap := #[]
def classes : Array Class := #[k0, k1, k2, k3, k4, k5, k6, k7, k8, k9]
def interned : List (Array UInt16 × Addr) := []
def slotsUsed : Nat := 0
def theMethod : MethodId := ⟨1, 1⟩
def args0 : Array Value := #[.int 5, .int 7, .int 3, .int 21, .int 2, .int 1]
def aboutOver (below : List Frame) : State where
  vm := { classes := classes, interned := interned.toArray }
  heap := heap
  slotsUsed := slotsUsed
  threads := #[{ frames := .invoking theMethod args0 :: below }]
def below0 : List Frame := [.native { method := ⟨0, 0⟩, args := #[] }]
def about1 : State := aboutOver below0
def p0 : Program := .bare "" "" ""
def e0 : Env := launch0.env 0 0 0
theorem w_frames : about1.frames = Frame.invoking theMethod args0 :: below0 := rfl
set_option maxRecDepth 65536 in
theorem w_args : argsFit about1.vm theMethod args0 = true := by decide +kernel
set_option maxRecDepth 65536 in
theorem w_heap : heapFits about1 = true := by decide +kernel
set_option maxRecDepth 65536 in
theorem w_runnable : about1.curStatus? = some .runnable := by decide +kernel
set_option maxRecDepth 65536 in
theorem w_alone : about1.alone = true := by decide +kernel
set_option maxRecDepth 65536 in
theorem w_named : about1.methodNamed? x = some theMethod := by decide +kernel
set_option maxRecDepth 65536 in
theorem w_hears : about1.hears theMethod below0 = true := by decide +kernel
set_option maxRecDepth 65536 in
theorem w_ripe : about1.ripe theMethod args0 below0 = true := by decide +kernel
theorem w_running : about1.status = .running := rfl
set_option maxRecDepth 65536 in
theorem w_room : about1.hasRoom e0.platform room_1 = true :=
  launch0.hasRoom_least _ room_1 (by decide +kernel) (by decide +kernel) (by decide +kernel) (by decide +kernel) (by decide +kernel) (by decide +kernel)
theorem allAtoms_all (ts : List Jvm.Cond) (a : Array Jvm.Value) (st : Jvm.State) : (allAtoms ts).before a st = ts.all (fun c => c.before a st) := by
  induction ts with
  | nil => rfl
  | cons c t ih =>
    show (Jvm.Cond.and c (allAtoms t)).before a st = _
    rw [Jvm.Cond.before_and, ih, List.all_cons]
def words1 : List Jvm.Cond := Jvm.Cond.code x code maxLocals ret :: tables_1
/-- a 'code' word, met by the world's own term for the bytes: nothing is compared byte by byte -/
theorem code_word {y : MethodName} {bytes : ByteArray} {mx : Nat} {rt : Option FieldType} {a : Array Value} {s : State} {m : MethodId} {meth : Method} {c : Code} (h1 : s.methodNamed? y = some m) (h2 : s.vm.method? m = some meth) (h3 : meth.code = some c) (h4 : c.code = bytes)
    (h5 : (c.maxLocals == mx && c.exceptionTable.isEmpty && decide (c.maxStack ≤ mostOperands) && decide (meth.sig.returnType = rt) && !meth.locks && decide (parseMethodDescriptor y.desc = some meth.sig)) = true) : (Jvm.Cond.code y bytes mx rt).before a s = true := by
  simp only [Bool.and_eq_true, beq_iff_eq, Bool.not_eq_true', decide_eq_true_eq] at h5
  obtain ⟨⟨⟨⟨⟨g1, g2⟩, g3⟩, g4⟩, g5⟩, g6⟩ := h5
  simp [Cond.before, Cond.holds, Cond.value, h1, h2, h3, h4, g1, g2, g3, g4, g5, g6]
def isCode : Jvm.Cond → Bool
  | .code _ _ _ _ => true
  | _ => false
theorem all_split {L : List Jvm.Cond} {P : Jvm.Cond → Bool} (h1 : L.all (fun c => isCode c || P c) = true) (h2 : ∀ c ∈ L.filter isCode, P c = true) : L.all P = true := by
  refine List.all_eq_true.mpr fun c hc => ?_
  have h := List.all_eq_true.mp h1 c hc
  rcases Bool.eq_false_or_eq_true (isCode c) with hi | hi
  · exact h2 c (List.mem_filter.mpr ⟨hc, hi⟩)
  · simpa [hi] using h
set_option maxRecDepth 65536 in
theorem w_c0 : (Jvm.Cond.code x code maxLocals ret).before args0 about1 = true := code_word (m := ⟨1, 1⟩) (meth := k1m1) (c := k1c1) (by decide +kernel) rfl rfl rfl (by decide +kernel)
set_option maxRecDepth 65536 in
theorem w_c1 : (Jvm.Cond.code ({ cls := "com/example/arcwright/arcwright/model/route/Similarity", name := "<init>", desc := "(III)V" } : Jvm.MethodName) prog_45_method_1_code (4 : Nat) (Option.none : Option Jvm.ClassFile.FieldType)).before args0 about1 = true := code_word (m := ⟨3, 0⟩) (meth := k3m0) (c := k3c0) (by decide +kernel) rfl rfl rfl (by decide +kernel)
set_option maxRecDepth 65536 in
theorem w_c2 : (Jvm.Cond.code ({ cls := "java/lang/Record", name := "<init>", desc := "()V" } : Jvm.MethodName) jdk_30_method_1_code (1 : Nat) (Option.none : Option Jvm.ClassFile.FieldType)).before args0 about1 = true := code_word (m := ⟨2, 0⟩) (meth := k2m0) (c := k2c0) (by decide +kernel) rfl rfl rfl (by decide +kernel)
set_option maxRecDepth 65536 in
theorem w_c3 : (Jvm.Cond.code ({ cls := "java/lang/Object", name := "<init>", desc := "()V" } : Jvm.MethodName) object_method_1_code (1 : Nat) (Option.none : Option Jvm.ClassFile.FieldType)).before args0 about1 = true := code_word (m := ⟨0, 0⟩) (meth := k0m0) (c := k0c0) (by decide +kernel) rfl rfl rfl (by decide +kernel)
set_option maxRecDepth 65536 in
theorem w_c4 : (Jvm.Cond.code ({ cls := "com/example/arcwright/arcwright/model/route/Similarity", name := "value", desc := "()D" } : Jvm.MethodName) prog_45_method_3_code (3 : Nat) (Option.some Jvm.ClassFile.FieldType.double)).before args0 about1 = true := code_word (m := ⟨3, 1⟩) (meth := k3m1) (c := k3c1) (by decide +kernel) rfl rfl rfl (by decide +kernel)
def codes1 : List Jvm.Cond := [Jvm.Cond.code x code maxLocals ret, Jvm.Cond.code ({ cls := "com/example/arcwright/arcwright/model/route/Similarity", name := "<init>", desc := "(III)V" } : Jvm.MethodName) prog_45_method_1_code (4 : Nat) (Option.none : Option Jvm.ClassFile.FieldType), Jvm.Cond.code ({ cls := "java/lang/Record", name := "<init>", desc := "()V" } : Jvm.MethodName) jdk_30_method_1_code (1 : Nat) (Option.none : Option Jvm.ClassFile.FieldType), Jvm.Cond.code ({ cls := "java/lang/Object", name := "<init>", desc := "()V" } : Jvm.MethodName) object_method_1_code (1 : Nat) (Option.none : Option Jvm.ClassFile.FieldType), Jvm.Cond.code ({ cls := "com/example/arcwright/arcwright/model/route/Similarity", name := "value", desc := "()D" } : Jvm.MethodName) prog_45_method_3_code (3 : Nat) (Option.some Jvm.ClassFile.FieldType.double)]
set_option maxRecDepth 65536 in
theorem codes_eq : words1.filter isCode = codes1 := rfl
theorem w_codes : ∀ c ∈ words1.filter isCode, c.before args0 about1 = true := by
  rw [codes_eq]
  intro c hc
  simp only [codes1, List.mem_cons, List.not_mem_nil, or_false] at hc
  rcases hc with rfl | rfl | rfl | rfl | rfl
  · exact w_c0
  · exact w_c1
  · exact w_c2
  · exact w_c3
  · exact w_c4
set_option maxRecDepth 65536 in
theorem w_t1 : (words1.take 24).all (fun c => isCode c || c.before args0 about1) = true := by decide +kernel
set_option maxRecDepth 65536 in
theorem w_t2 : (words1.drop 24).all (fun c => isCode c || c.before args0 about1) = true := by decide +kernel
theorem w_tables : (allAtoms (Jvm.Cond.code x code maxLocals ret :: tables_1)).before args0 about1 = true := by
  rw [allAtoms_all]
  show words1.all (fun c => c.before args0 about1) = true
  refine all_split ?_ w_codes
  rw [← List.take_append_drop 24 words1, List.all_append, w_t1, w_t2]
  rfl
set_option maxRecDepth 65536 in
theorem w_case : (Jvm.Cond.and given_1 narrow_1).before args0 about1 = true := by decide +kernel
theorem w_applies : (headSpec (Jvm.Cond.code x code maxLocals ret :: tables_1) room_1).applies x e0.platform about1 = true :=
  (Spec.applies_iff w_frames).mpr ⟨w_running, w_runnable, w_alone, w_named, w_hears, w_ripe, w_room, w_tables⟩
theorem atStart : AtStart classFile x code maxLocals ret World_1 tables_1 room_1 Calls_1 rest_1 Pre_1 launch0 p0 e0 about1 theMethod args0 below0 :=
  ⟨lists_1, trivial, launch0.admits_env _ _ _, launch0.least_env, fairChoices_fair.cas, fairChoices_fair.clock, w_frames, w_args, w_heap, w_applies, trivial, trivial, w_case⟩
end start1
theorem witness_1 : WitnessClaimed_1 := ⟨start1.p0, start1.e0, start1.about1, start1.theMethod, start1.args0, start1.below0, start1.atStart⟩
end Jvm.Pilot.@@N@@
