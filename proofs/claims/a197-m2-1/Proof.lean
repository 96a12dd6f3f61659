import JvmDerived
import JvmDerived.Pilot.@@N@@Statement
import JvmDerived.Pilot.@@N@@Code
set_option linter.unusedVariables false
set_option linter.unusedSimpArgs false
namespace Jvm.Pilot.@@N@@
open Jvm Jvm.ClassFile Sem Op Lib Jvm.Free Jvm.Stand Jvm.LawKit Jvm.RoadKit Bundle Jvm.Pilot.@@N@@.Jvm.D
/-! A walk in the backward style: 'own_Goes K T g': from the frame g over T the run comes to an end of which K holds. -/
def own_Goes (p : Program) (e : Env) (below : List Frame) (K : Outcome → State → Prop) (T : State) (g : JFrame) : Prop :=
  ∃ s₂ o, Steps p.tables e below (T.setTop g) s₂ ∧ s₂.status = .running ∧ Ended s₂ below o ∧ K o s₂
def own_K (Q : Option Value → Heap → List Loc → Prop) (U : State) (C S : Nat) : Outcome → State → Prop :=
  fun o U' => ∃ v L, o = .returned v ∧ Q v U'.heap L ∧ FrameEnd U o U' L C S
section OwnKit
variable {p : Program} {l : Launch} {e : Env} {R : Room} {s : State} {m : MethodId} {args : Array Value} {below : List Frame} {meth : Method} {c : Code} {T T' : State} {locs : List Loc} {cells slots : Nat} {Z : State} {a0 : Array Value} {h : Heap} {K : Outcome → State → Prop} {Q : Option Value → Heap → List Loc → Prop} {C S : Nat}
theorem own_by {g g' : JFrame} (st : ∀ t, Steps p.tables e below (T'.setTop g') t → Steps p.tables e below (T.setTop g) t) (k : own_Goes p e below K T' g') : own_Goes p e below K T g := by
  obtain ⟨s₂, o, h1, r⟩ := k
  exact ⟨s₂, o, st _ h1, r⟩
theorem own_retN (X : Stand p l e R s m args below meth c T locs cells slots) (hx : p.tables.exec = Jvm.exec) {pc : Nat} {Ls : Array Slot} {z : Int32} {t : FieldType} {rest : List Value} (hret : meth.sig.returnType = some t) (hlocks : meth.locks = false) (ht : t = .boolean ∨ t = .byte ∨ t = .char ∨ t = .short)
    (hd : decode c.code pc = .ok (.ireturn, 1)) (hc : cells ≤ C) (hs : slots ≤ S) {v : Int32} (hv : nar t z = v) (q : Q (some (.int v)) T.heap locs) : own_Goes p e below (own_K Q s C S) T (mkF m pc Ls (.int z :: rest)) := by
  subst hv
  obtain ⟨fs, hr, hrun, hended, hW, hsame⟩ := X.leave (v := some (.int (nar t z))) (fun h => by rw [hret] at h; cases h) hlocks
  exact ⟨_, _, retN X hx hret ht hd hr, hrun, hended, _, _, rfl, q, ⟨_, rfl⟩, hW, hsame.mono hc hs⟩
theorem own_retV (X : Stand p l e R s m args below meth c T locs cells slots) (hx : p.tables.exec = Jvm.exec) {pc : Nat} {Ls : Array Slot} {w : Value} {t : FieldType} {i : Instr} {rest : List Value} (hret : meth.sig.returnType = some t) (hlocks : meth.locks = false) (hn : narrow t w = w)
    (hi : (i = .ireturn ∧ (t = .int ∨ t = .boolean ∨ t = .byte ∨ t = .char ∨ t = .short) ∧ ∃ z, w = .int z) ∨ (i = .lreturn ∧ t = .long ∧ ∃ z, w = .long z) ∨ (i = .dreturn ∧ t = .double ∧ ∃ z, w = .double z) ∨ (i = .freturn ∧ t = .float ∧ ∃ z, w = .float z) ∨ (i = .areturn ∧ t.isReference = true ∧ w.isRef = true))
    (hd : decode c.code pc = .ok (i, 1)) (hc : cells ≤ C) (hs : slots ≤ S) (q : Q (some w) T.heap locs) : own_Goes p e below (own_K Q s C S) T (mkF m pc Ls (w :: rest)) := by
  obtain ⟨fs, hr, hrun, hended, hW, hsame⟩ := X.leave (v := some w) (fun h => by rw [hret] at h; cases h) hlocks
  exact ⟨_, _, retOut X hx hret hn hi hd hr, hrun, hended, _, _, rfl, q, ⟨_, rfl⟩, hW, hsame.mono hc hs⟩
theorem own_retI (X : Stand p l e R s m args below meth c T locs cells slots) (hx : p.tables.exec = Jvm.exec) {pc : Nat} {Ls : Array Slot} {z : Int32} {rest : List Value} (hret : meth.sig.returnType = some .int) (hlocks : meth.locks = false)
    (hd : decode c.code pc = .ok (.ireturn, 1)) (hc : cells ≤ C) (hs : slots ≤ S) (q : Q (some (.int z)) T.heap locs) : own_Goes p e below (own_K Q s C S) T (mkF m pc Ls (.int z :: rest)) :=
  own_retV X hx hret hlocks rfl (Or.inl ⟨rfl, Or.inl rfl, z, rfl⟩) hd hc hs q
theorem own_retJ (X : Stand p l e R s m args below meth c T locs cells slots) (hx : p.tables.exec = Jvm.exec) {pc : Nat} {Ls : Array Slot} {z : Int64} {rest : List Value} (hret : meth.sig.returnType = some .long) (hlocks : meth.locks = false)
    (hd : decode c.code pc = .ok (.lreturn, 1)) (hc : cells ≤ C) (hs : slots ≤ S) (q : Q (some (.long z)) T.heap locs) : own_Goes p e below (own_K Q s C S) T (mkF m pc Ls (.long z :: rest)) :=
  own_retV X hx hret hlocks rfl (Or.inr (Or.inl ⟨rfl, rfl, z, rfl⟩)) hd hc hs q
theorem own_retR (X : Stand p l e R s m args below meth c T locs cells slots) (hx : p.tables.exec = Jvm.exec) {pc : Nat} {Ls : Array Slot} {w : Value} {t : FieldType} {rest : List Value} (hret : meth.sig.returnType = some t) (hlocks : meth.locks = false) (ht : t.isReference = true) (hw : w.isRef = true)
    (hd : decode c.code pc = .ok (.areturn, 1)) (hc : cells ≤ C) (hs : slots ≤ S) (q : Q (some w) T.heap locs) : own_Goes p e below (own_K Q s C S) T (mkF m pc Ls (w :: rest)) :=
  own_retV X hx hret hlocks (by cases t <;> first | (cases ht; done) | (cases w <;> rfl)) (Or.inr (Or.inr (Or.inr (Or.inr ⟨rfl, ht, hw⟩)))) hd hc hs q
theorem own_ret0 (X : Stand p l e R s m args below meth c T locs cells slots) (hx : p.tables.exec = Jvm.exec) {pc : Nat} {Ls : Array Slot} (hret : meth.sig.returnType = none) (hlocks : meth.locks = false)
    (hd : decode c.code pc = .ok (.return_, 1)) (hc : cells ≤ C) (hs : slots ≤ S) (q : Q none T.heap locs) : own_Goes p e below (own_K Q s C S) T (mkF m pc Ls []) := by
  obtain ⟨fs, hr, hrun, hended, hW, hsame⟩ := X.leave (v := none) (fun _ => rfl) hlocks
  exact ⟨_, _, X.returnOut hx hret hd hr, hrun, hended, _, _, rfl, q, ⟨_, rfl⟩, hW, hsame.mono hc hs⟩
theorem own_lrem {g : JFrame} {target : State} (X : Stand p l e R s m args below meth c T locs cells slots) (hx : p.tables.exec = Jvm.exec) (hg : g.method = m) {x y : Int64} {rest : List Value} (hd : decode c.code g.pc = .ok (.lrem, 1)) (hs : g.stack = .long y :: .long x :: rest) (hy : y ≠ 0)
    (hr : Steps p.tables e below (T.setTop { g with pc := g.pc + 1, stack := .long (x % y) :: rest }) target) : Steps p.tables e below (T.setTop g) target := by
  have q : x - x / y * y = x % y := lrem_mod x y
  exact XS.lrem X.here hx hg hd hs hy (by rw [q]; exact hr)
/-- what a callee's theorem says -/
abbrev own_Met (l : Launch) (Z : State) (y : MethodName) (bytes : ByteArray) (maxL : Nat) (ret : Option FieldType) (rm : Room) (as' : Array Value) (h : Heap) (Q : Option Value → Heap → List Loc → Prop) : Prop :=
  MetFree l y (head1 [Cond.code y bytes maxL ret] rm) (fun a U => a = as' ∧ Z.Warmed39 U.vm ∧ U.heap = h) (fun _ _ _ _ _ => True) (fun _ U o U' => ∃ v L, o = .returned v ∧ Q v U'.heap L ∧ FrameEnd U o U' L rm.cells rm.slots)
theorem own_callS (X : Stand p l e R s m args below meth c T locs cells slots) (hx : p.tables.exec = Jvm.exec) (hZ : Z.Warmed39 s.vm) {own : String} {index : Nat} {y : MethodName} {bytes : ByteArray} {maxL : Nat} {ret : Option FieldType}
    (hown : s.vm.findClass own = some m.cls) (w1 : (Cond.methodLink own index y).before a0 Z = true) (w2 : (Cond.static y).before a0 Z = true) (w3 : (Cond.initialized y.cls).before a0 Z = true) (w4 : (Cond.code y bytes maxL ret).before a0 Z = true) (hy : y.cls ≠ "java/lang/invoke/MethodHandle" ∧ y.cls ≠ "java/lang/invoke/VarHandle")
    {rm : Room} {argsL rest : List Value} (hM : own_Met l Z y bytes maxL ret rm argsL.toArray h Q) (eT : T.heap = h) {W : Nat} (hf : rm.frames + 1 ≤ R.frames) (hl : W + (maxL + 11) + rm.locals ≤ R.locals) (hc : cells + rm.cells ≤ R.cells) (hs : slots + rm.slots ≤ R.slots)
    {g : JFrame} (hg : g.method = m) (hsize : g.locals.size = c.maxLocals) (hlen : ∀ sig, parseMethodDescriptor y.desc = some sig → argsL.length = sig.parameters.length)
    (hstack : g.stack = argsL.reverse ++ rest) (hW : 2 * g.monitorRoom + (rest.map fun v => v.category).sum ≤ W) (hdg : decode c.code g.pc = .ok (.invokestatic index, 3)) :
    ∃ (v : Option Value) (T' : State) (L : List Loc), Stand p l e R s m args below meth c T' (locs ++ L) (cells + rm.cells) (slots + rm.slots) ∧ Q v T'.heap L ∧ ∀ K, own_Goes p e below K T' { g with pc := g.pc + 3, stack := v.toList ++ rest } → own_Goes p e below K T g := by
  obtain ⟨v, vm₁, ⟨T', L', k', n'⟩, -, X', ⟨L, hQ, l1, l2, l3⟩, st⟩ := Jvm.LawKit.callS X hx hown (mvT hZ w1) (mvT hZ w2) (mvT hZ w3) (mvT hZ w4) hy (backOf (W := W) hM hZ w4 w3 hf hl) hg hsize hlen hstack hW hdg (fun _ _ => ⟨rfl, eT, hc, hs⟩)
  dsimp only [Pt.U, Pt.locs, Pt.cells, Pt.slots] at X' l1 l2 l3 st hQ
  subst l1 l2 l3
  exact ⟨v, T', L, X', hQ, fun K k => own_by st k⟩
theorem own_callI (X : Stand p l e R s m args below meth c T locs cells slots) (hx : p.tables.exec = Jvm.exec) (hZ : Z.Warmed39 s.vm) {own : String} {index : Nat} {y : MethodName} {bytes : ByteArray} {maxL : Nat} (hy1 : y.name = "<init>")
    (hown : s.vm.findClass own = some m.cls) (w1 : (Cond.methodLink own index y).before a0 Z = true) (w2 : (Cond.instanceMethod y).before a0 Z = true) (w3 : (Cond.initialized y.cls).before a0 Z = true) (w4 : (Cond.code y bytes maxL none).before a0 Z = true) (hy : y.cls ≠ "java/lang/invoke/MethodHandle" ∧ y.cls ≠ "java/lang/invoke/VarHandle")
    {rm : Room} {a : Addr} {argsL rest : List Value} (hM : own_Met l Z y bytes maxL none rm (.ref a :: argsL).toArray h Q) (eT : T.heap = h) {W : Nat} (hf : rm.frames + 1 ≤ R.frames) (hl : W + (maxL + 11) + rm.locals ≤ R.locals) (hc : cells + rm.cells ≤ R.cells) (hs : slots + rm.slots ≤ R.slots)
    {g : JFrame} (hg : g.method = m) (hsize : g.locals.size = c.maxLocals) (hlen : ∀ sig, parseMethodDescriptor y.desc = some sig → argsL.length = sig.parameters.length)
    (hstack : g.stack = argsL.reverse ++ .ref a :: rest) (hW : 2 * g.monitorRoom + (rest.map fun v => v.category).sum ≤ W) (hdg : decode c.code g.pc = .ok (.invokespecial index, 3)) :
    ∃ (v : Option Value) (T' : State) (L : List Loc), Stand p l e R s m args below meth c T' (locs ++ L) (cells + rm.cells) (slots + rm.slots) ∧ Q v T'.heap L ∧ ∀ K, own_Goes p e below K T' { g with pc := g.pc + 3, stack := v.toList ++ rest } → own_Goes p e below K T g := by
  obtain ⟨v, vm₁, ⟨T', L', k', n'⟩, -, X', ⟨L, hQ, l1, l2, l3⟩, st⟩ := X.specialBack hx hy1 hown (mvT hZ w1) (mvT hZ w2) (mvT hZ w4) hy (backOf (W := W) hM hZ w4 w3 hf hl) hg hsize (Steps.refl _) hlen hstack hW hdg (fun _ _ => ⟨rfl, eT, hc, hs⟩)
  dsimp only [Pt.U, Pt.locs, Pt.cells, Pt.slots] at X' l1 l2 l3 st hQ
  subst l1 l2 l3
  exact ⟨v, T', L, X', hQ, fun K k => own_by (fun t k => st.trans k) k⟩
theorem own_callV (X : Stand p l e R s m args below meth c T locs cells slots) (hx : p.tables.exec = Jvm.exec) (hZ : Z.Warmed39 s.vm) {own C : String} {index : Nat} {y : MethodName} {bytes : ByteArray} {maxL : Nat} {ret : Option FieldType}
    (hown : s.vm.findClass own = some m.cls) (w1 : (Cond.methodLink own index y).before a0 Z = true) (w5 : (Cond.declares y).before a0 Z = true) (w6 : (Cond.selects C y y).before a0 Z = true) (w2 : (Cond.instanceMethod y).before a0 Z = true) (w3 : (Cond.initialized y.cls).before a0 Z = true) (w4 : (Cond.code y bytes maxL ret).before a0 Z = true) (hy : y.cls ≠ "java/lang/invoke/MethodHandle" ∧ y.cls ≠ "java/lang/invoke/VarHandle")
    {rm : Room} {a : Addr} {argsL rest : List Value} (E : Exa Z h a C) (hM : own_Met l Z y bytes maxL ret rm (.ref a :: argsL).toArray h Q) (eT : T.heap = h) {W : Nat} (hf : rm.frames + 1 ≤ R.frames) (hl : W + (maxL + 11) + rm.locals ≤ R.locals) (hc : cells + rm.cells ≤ R.cells) (hs : slots + rm.slots ≤ R.slots)
    {g : JFrame} (hg : g.method = m) (hsize : g.locals.size = c.maxLocals) (hlen : ∀ sig, parseMethodDescriptor y.desc = some sig → argsL.length = sig.parameters.length)
    (hstack : g.stack = argsL.reverse ++ .ref a :: rest) (hW : 2 * g.monitorRoom + (rest.map fun v => v.category).sum ≤ W) (hdg : decode c.code g.pc = .ok (.invokevirtual index, 3)) :
    ∃ (v : Option Value) (T' : State) (L : List Loc), Stand p l e R s m args below meth c T' (locs ++ L) (cells + rm.cells) (slots + rm.slots) ∧ Q v T'.heap L ∧ ∀ K, own_Goes p e below K T' { g with pc := g.pc + 3, stack := v.toList ++ rest } → own_Goes p e below K T g := by
  obtain ⟨cB, kB, q1, q2, q3⟩ := isOf hZ eT E
  obtain ⟨v, vm₁, ⟨T', L', k', n'⟩, -, X', ⟨L, hQ, l1, l2, l3⟩, st⟩ := X.virtualBack hx hown (mvT hZ w1) (mvT hZ w5) (notFace_of_selects (args := #[]) (mvT hZ w6)) (mvT hZ w6) (mvT hZ w2) hy (backOf (W := W) hM hZ w4 w3 hf hl) q1 q3 hg hsize (Steps.refl _) hlen hstack hW hdg (fun _ _ => ⟨rfl, eT, hc, hs⟩)
  dsimp only [Pt.U, Pt.locs, Pt.cells, Pt.slots] at X' l1 l2 l3 st hQ
  subst l1 l2 l3
  exact ⟨v, T', L, X', hQ, fun K k => own_by (fun t k => st.trans k) k⟩
theorem own_callPv (X : Stand p l e R s m args below meth c T locs cells slots) (hx : p.tables.exec = Jvm.exec) (hZ : Z.Warmed39 s.vm) {own C : String} {index : Nat} {y : MethodName} {bytes : ByteArray} {maxL : Nat} {ret : Option FieldType}
    (hown : s.vm.findClass own = some m.cls) (w1 : (Cond.methodLink own index y).before a0 Z = true) (w6 : (Cond.selects y.cls y y).before a0 Z = true) (w2 : (Cond.instanceMethod y).before a0 Z = true) (w7 : (Cond.privateMethod y).before a0 Z = true) (w3 : (Cond.initialized y.cls).before a0 Z = true) (w4 : (Cond.code y bytes maxL ret).before a0 Z = true) (hy : y.cls ≠ "java/lang/invoke/MethodHandle" ∧ y.cls ≠ "java/lang/invoke/VarHandle")
    {rm : Room} {a : Addr} {argsL rest : List Value} (E : Exa Z h a C) (hM : own_Met l Z y bytes maxL ret rm (.ref a :: argsL).toArray h Q) (eT : T.heap = h) {W : Nat} (hf : rm.frames + 1 ≤ R.frames) (hl : W + (maxL + 11) + rm.locals ≤ R.locals) (hc : cells + rm.cells ≤ R.cells) (hs : slots + rm.slots ≤ R.slots)
    {g : JFrame} (hg : g.method = m) (hsize : g.locals.size = c.maxLocals) (hlen : ∀ sig, parseMethodDescriptor y.desc = some sig → argsL.length = sig.parameters.length)
    (hstack : g.stack = argsL.reverse ++ .ref a :: rest) (hW : 2 * g.monitorRoom + (rest.map fun v => v.category).sum ≤ W) (hdg : decode c.code g.pc = .ok (.invokevirtual index, 3)) :
    ∃ (v : Option Value) (T' : State) (L : List Loc), Stand p l e R s m args below meth c T' (locs ++ L) (cells + rm.cells) (slots + rm.slots) ∧ Q v T'.heap L ∧ ∀ K, own_Goes p e below K T' { g with pc := g.pc + 3, stack := v.toList ++ rest } → own_Goes p e below K T g := by
  obtain ⟨cq, q1, q2⟩ := E.cell
  obtain ⟨v, vm₁, ⟨T', L', k', n'⟩, -, X', ⟨L, hQ, l1, l2, l3⟩, st⟩ := X.privateBack hx hown (mvT hZ w1) (mvT hZ w2) (mvT hZ w6) (Cond.privateMethod_at (mvP hZ w7 (args := #[]))) (mvT hZ w4) hy (backOf (W := W) hM hZ w4 w3 hf hl) hg hsize (Steps.refl _) (by rw [eT]; exact q1) q2 hlen hstack hW hdg (fun _ _ => ⟨rfl, eT, hc, hs⟩)
  dsimp only [Pt.U, Pt.locs, Pt.cells, Pt.slots] at X' l1 l2 l3 st hQ
  subst l1 l2 l3
  exact ⟨v, T', L, X', hQ, fun K k => own_by (fun t k => st.trans k) k⟩
theorem own_Sta_keep {h' : Heap} {ws : List Addr} {O n d : String} {v : Value} (F : Sta Z h O n d v) (K : Keep h h' ws) (q : ∀ a ∈ ws, ∀ cell : Cell, h[a]? = some cell → cell.vm.isStatics = false) : Sta Z h' O n d v := by
  obtain ⟨cf, i, k, f, st, cell, h1, h2, h3, h4, h5, h6, h7⟩ := F
  refine ⟨cf, i, k, f, st, cell, h1, h2, h3, h4, K.2.1 st cell h5 (fun y => ?_), h6, h7⟩
  rw [q st y cell h5] at h6; cases h6
theorem own_selp {y : MethodName} {k : Nat} (w7 : (Cond.privateMethod y).before a0 Z = true) (w2 : (Cond.instanceMethod y).before a0 Z = true) (wi : (Cond.instantiable y.cls k).before a0 Z = true) (hy : y.cls ≠ "java/lang/invoke/MethodHandle" ∧ y.cls ≠ "java/lang/invoke/VarHandle") : (Cond.selects y.cls y y).before a0 Z = true := by
  obtain ⟨c, k, i1, i2, i3, i4, -⟩ := Cond.instantiable_spec wi
  rw [Bool.or_eq_false_iff] at i4
  exact Jvm.Stand.selects_self_of_private i1 i2 i4.1 (Cond.privateMethod_at w7) w2 hy
end OwnKit
/-! Doubles that are whole numbers over a power of two. -/
section OwnFl
open Jvm.FP.Core
/-- the datum times 2^k is the whole number i -/
def own_Sc (k : Nat) (i : Int) : Datum → Prop
  | .fin s c q => Whole i (.fin s c (q + k))
  | _ => False
theorem own_sc_round {k : Nat} (hk : k ≤ 900) {i : Int} (hi : i.natAbs ≤ 2 ^ 53) {d : Datum} (h : own_Sc k i d) : own_Sc k i (round b64 d) := by
  cases d with
  | nan => exact h.elim
  | inf => exact h.elim
  | fin s c q =>
    have h1 : Whole i (.fin s c (q + k)) := h
    by_cases h0 : i = 0
    · have hc := (whole_zero h1).mpr h0
      subst hc; subst h0
      show own_Sc k 0 (roundRatio b64 s 0 1 q)
      show signed s (0 * _) = 0 * _
      rw [Nat.zero_mul, Int.zero_mul]; exact signed_zero s
    · obtain ⟨c', q', hfit, hv⟩ := natFit good_b64 wide_b64 s (n := i.natAbs) hi
      have hq : -53 < q' := by
        refine Int.lt_of_not_ge fun hge => ?_
        have a1 := hfit.1
        rw [show (q' - 0).toNat = 0 by omega, Nat.pow_zero, Nat.mul_one, Nat.mul_one] at hv
        have a2 : 2 ^ 53 ≤ 2 ^ (0 - q').toNat := Nat.pow_le_pow_right (by decide) (by omega)
        have a3 : 1 * 2 ^ (0 - q').toNat ≤ i.natAbs * 2 ^ (0 - q').toNat := Nat.mul_le_mul_right _ (by omega)
        have a4 : (b64.p) = 53 := rfl
        rw [a4] at a1; omega
      have e1 : b64.qmin = -1074 := by decide
      have e2 : b64.qmax = 971 := by decide
      have hfit2 : FP.Core.fits b64 (.fin s c' (q' - k)) := by
        obtain ⟨f1, f2, f3, f4⟩ := hfit
        refine ⟨f1, by omega, by omega, ?_⟩
        rcases f4 with f4 | f4
        · omega
        · exact Or.inr f4
      have hn := whole_natAbs h1
      have hv2 : c * 2 ^ (q - (q' - k)).toNat = c' * 1 * 2 ^ ((q' - k) - q).toNat := by
        rw [show (0 - q').toNat = (-q').toNat by omega, show (q' - 0).toNat = q'.toNat by omega, Nat.mul_one] at hv
        rw [Nat.mul_one]
        have x2 : c * 2 ^ (q + (k : Int)).toNat * 2 ^ (-q').toNat = c' * 2 ^ q'.toNat * 2 ^ (-(q + (k : Int))).toNat := by
          rw [hn, Nat.mul_assoc, Nat.mul_comm (2 ^ (-(q + (k : Int))).toNat), ← Nat.mul_assoc, hv]
        by_cases g : q' ≤ q + k
        · rw [show ((q' - k) - q).toNat = 0 by omega, Nat.pow_zero, Nat.mul_one]
          have y1 : c * 2 ^ (q - (q' - (k:Int))).toNat * 2 ^ (q'.toNat + (-(q + (k:Int))).toNat) = c' * 2 ^ (q'.toNat + (-(q + (k:Int))).toNat) := by
            rw [Nat.mul_assoc, ← Nat.pow_add, show (q - (q' - (k:Int))).toNat + (q'.toNat + (-(q + (k:Int))).toNat) = (q + (k:Int)).toNat + (-q').toNat by omega, Nat.pow_add, ← Nat.mul_assoc, x2, Nat.pow_add, Nat.mul_assoc]
          exact Nat.eq_of_mul_eq_mul_right (Nat.two_pow_pos _) y1
        · rw [show (q - (q' - (k:Int))).toNat = 0 by omega, Nat.pow_zero, Nat.mul_one]
          have y1 : c * 2 ^ ((q + (k:Int)).toNat + (-q').toNat) = c' * 2 ^ ((q' - k) - q).toNat * 2 ^ ((q + (k:Int)).toNat + (-q').toNat) := by
            rw [Nat.mul_assoc c', ← Nat.pow_add, show ((q' - (k:Int)) - q).toNat + ((q + (k:Int)).toNat + (-q').toNat) = q'.toNat + (-(q + (k:Int))).toNat by omega, Nat.pow_add, ← Nat.mul_assoc, x2, Nat.pow_add, Nat.mul_assoc]
          exact Nat.eq_of_mul_eq_mul_right (Nat.two_pow_pos _) y1
      show own_Sc k i (roundRatio b64 s c 1 q)
      rw [roundRatio_exact good_b64 (by decide) hfit2 hv2]
      show signed s (c' * 2 ^ (q' - k + k).toNat) = i * ((2 ^ (-(q' - k + k)).toNat : Nat) : Int)
      rw [show (0 - q').toNat = (-q').toNat by omega, show (q' - 0).toNat = q'.toNat by omega, Nat.mul_one] at hv
      rw [show q' - (k : Int) + k = q' by omega, ← hv, signed_mul, whole_sign h1 h0]
      congr 1
      unfold signed
      by_cases h : i < 0 <;> simp [h] <;> omega
theorem own_sc_mul {k : Nat} (hk : k ≤ 900) {i j : Int} {a b : UInt64} (ha : DInt i a) (hb : own_Sc k j (val64 b)) (h : (i * j).natAbs ≤ 2 ^ 53) : own_Sc k (i * j) (val64 (FP.dmul a b)) := by
  rw [val64_dmul]
  refine own_sc_round hk h ?_
  unfold DInt at ha
  generalize val64 a = x at ha
  generalize val64 b = y at hb
  cases x with
  | nan => exact ha.elim
  | inf => exact ha.elim
  | fin s c q =>
  cases y with
  | nan => exact hb.elim
  | inf => exact hb.elim
  | fin t d r =>
    have hb' : Whole j (.fin t d (r + k)) := hb
    have w := whole_product ha hb'
    show Whole (i * j) (.fin (s != t) (c * d) (q + r + k))
    rw [Int.add_assoc]; exact w
theorem own_sc_cmp {k : Nat} {i j : Int} {a b : UInt64} (ha : DInt i a) (hb : own_Sc k j (val64 b)) : FP.dcmp a b = some (compare (i * (2 ^ k : Nat)) j) := by
  show order (val64 a) (val64 b) = _
  unfold DInt at ha
  generalize val64 a = x at ha
  generalize val64 b = y at hb
  cases x with
  | nan => exact ha.elim
  | inf => exact ha.elim
  | fin s c q =>
  cases y with
  | nan => exact hb.elim
  | inf => exact hb.elim
  | fin t d r =>
    have hb' : Whole j (.fin t d (r + k)) := hb
    have hk : Whole ((2 ^ k : Nat) : Int) (.fin false 1 k) := by
      show signed false (1 * 2 ^ (k : Int).toNat) = _ * ((2 ^ (-(k : Int)).toNat : Nat) : Int)
      rw [show (-(k : Int)).toNat = 0 by omega, show ((k : Int)).toNat = k by omega]
      simp [signed]
    have w := whole_product ha hk
    have w2 : Whole (i * ((2 ^ k : Nat) : Int)) (.fin s c (q + k)) := by
      have w3 : Whole (i * ((2 ^ k : Nat) : Int)) (.fin (s != false) (c * 1) (q + k)) := w
      simpa using w3
    have o := order_whole w2 hb'
    rw [← o]
    simp only [order, inUnits]
    rw [show q + (k : Int) - min (q + k) (r + k) = q - min q r by omega, show r + (k : Int) - min (q + k) (r + k) = r - min q r by omega]
theorem own_sc_ok {k : Nat} {i : Int} {a : UInt64} (h : own_Sc k i (val64 a)) : Jvm.Free.Fl.NoNaN64 a := by
  refine (Jvm.Free.Fl.dcmp_some (a := a) (b := a) (o := .eq) (dcmp_self ?_)).1
  intro q; rw [q] at h; exact h
theorem own_di_ok {i : Int} {a : UInt64} (h : DInt i a) : Jvm.Free.Fl.NoNaN64 a := (Jvm.Free.Fl.dcmp_some (dcmp_int h h)).1
theorem own_nn {i : Int} {a : UInt64} (h : DInt i a) : val64 a ≠ .nan := fun q => by unfold DInt at h; rw [q] at h; exact h
end OwnFl
section OwnSq
open Jvm.FP.Core
def own_chk (k : Nat) : Bool := match val64 (FP.ddiv (FP.l2d (Int64.ofNat k)) 4652218415073722368) with
  | .fin s c q => !s && decide (c * 2 ^ (q + (10 : Nat)).toNat = k * 2 ^ (-(q + (10 : Nat))).toNat)
  | _ => false
theorem own_chk_all : (List.range 1024).all own_chk = true := by decide +kernel
theorem own_u {k : Int64} (h0 : 0 ≤ k.toInt) (h1 : k.toInt ≤ 1023) : own_Sc 10 k.toInt (val64 (FP.ddiv (FP.l2d k) 4652218415073722368)) := by
  have hk : k = Int64.ofNat k.toInt.toNat := by
    apply Int64.toInt_inj.mp
    rw [Int64.toInt_ofNat_of_lt (by omega)]; omega
  have q := List.all_eq_true.mp own_chk_all k.toInt.toNat (List.mem_range.mpr (by omega))
  unfold own_chk at q
  rw [← hk] at q
  generalize val64 (FP.ddiv (FP.l2d k) 4652218415073722368) = d at q
  cases d with
  | nan => cases q
  | inf => cases q
  | fin s c q' =>
    obtain ⟨q1, q2⟩ := (Bool.and_eq_true _ _).mp q
    have q3 := of_decide_eq_true q2
    have q4 : s = false := by simpa using q1
    subst q4
    show signed false (c * 2 ^ (q' + (10 : Nat)).toNat) = k.toInt * ((2 ^ (-(q' + (10 : Nat))).toNat : Nat) : Int)
    rw [q3]
    simp only [signed, Int.natCast_mul]
    rw [Int.toNat_of_nonneg h0]; rfl
/-- what 'insideSqueeze' answers on whole s, x and u = k / 1024 -/
def own_sq (a x k : Int) : Int32 := if x * x * (x * x) * 1024 < 12 * a * (if a ≤ a + x then a else a + x) * k then 1 else 0
theorem own_nb {a b : Int} {A B : Nat} (ha : a.natAbs ≤ A) (hb : b.natAbs ≤ B) : (a * b).natAbs ≤ A * B := by rw [Int.natAbs_mul]; exact Nat.mul_le_mul ha hb
theorem own_c12 : DInt 12 (4622945017495814144 : UInt64) := by
  have h : val64 (4622945017495814144 : UInt64) = .fin false (12 * 2 ^ 49) (-49) := by decide +kernel
  unfold DInt; rw [h]
  show signed false (12 * 2 ^ 49 * 2 ^ (-49 : Int).toNat) = 12 * ((2 ^ (-(-49 : Int)).toNat : Nat) : Int)
  decide +kernel
section
variable {sI xI kI : Int} {ds dx du : UInt64}
theorem own_x2 (d2 : DInt xI dx) (b2 : -4096 ≤ xI ∧ xI ≤ 4096) : DInt (xI * xI) (FP.dmul dx dx) := dmul_int d2 d2 (Nat.le_trans (own_nb (A := 4096) (B := 4096) (by omega) (by omega)) (by decide))
theorem own_x4 (d2 : DInt xI dx) (b2 : -4096 ≤ xI ∧ xI ≤ 4096) : DInt (xI * xI * (xI * xI)) (FP.dmul (FP.dmul dx dx) (FP.dmul dx dx)) := by
  have n2 := own_nb (a := xI) (b := xI) (A := 4096) (B := 4096) (by omega) (by omega)
  exact dmul_int (own_x2 d2 b2) (own_x2 d2 b2) (Nat.le_trans (own_nb n2 n2) (by decide))
theorem own_sx (d1 : DInt sI ds) (d2 : DInt xI dx) (b1 : 1 ≤ sI ∧ sI ≤ 4096) (b2 : -4096 ≤ xI ∧ xI ≤ 4096) : DInt (sI + xI) (FP.dadd ds dx) := dadd_int d1 d2 (by omega)
theorem own_12s (d1 : DInt sI ds) (b1 : 1 ≤ sI ∧ sI ≤ 4096) : DInt (12 * sI) (FP.dmul (4622945017495814144 : UInt64) ds) := dmul_int own_c12 d1 (by omega)
theorem own_pos0 (d1 : DInt sI ds) (b1 : 1 ≤ sI ∧ sI ≤ 4096) : FP.dcmp ds FP.dconst0 = some .gt := by
  have z : DInt 0 FP.dconst0 := by
    unfold DInt; rw [show val64 FP.dconst0 = .fin false 0 b64.qmin from val64_dconst0]
    show signed false (0 * _) = 0 * _
    rw [Nat.zero_mul, Int.zero_mul]; rfl
  rw [show FP.dcmp ds FP.dconst0 = _ from dcmp_int d1 z]
  congr 1
  simp only [compare, compareOfLessAndEq]
  rw [if_neg (by omega), if_neg (by omega)]
end
theorem own_min {a b : Int} {x y : UInt64} (h1 : DInt a x) (h2 : DInt b y) : DInt (if a ≤ b then a else b) (Native.java_lang_Math.nans.pick64 false x y) := by
  unfold Native.java_lang_Math.nans.pick64
  rw [show FP.dcmp x y = _ from dcmp_int h1 h2]
  by_cases p : a < b
  · have e : compare a b = .lt := by simp only [compare, compareOfLessAndEq]; rw [if_pos p]
    rw [e, if_pos (by omega)]; exact h1
  · by_cases q : a = b
    · have e : compare a b = .eq := by simp only [compare, compareOfLessAndEq]; rw [if_neg p, if_pos q]
      subst q
      rw [e, if_pos (Int.le_refl _)]
      show DInt a (if _ then y else x)
      split
      · exact h2
      · exact h1
    · have e : compare a b = .gt := by simp only [compare, compareOfLessAndEq]; rw [if_neg p, if_neg q]
      rw [e, if_neg (by omega)]; exact h2
section
variable {sI xI kI : Int} {ds dx du r : UInt64}
theorem own_mnb (d1 : DInt sI ds) (b1 : 1 ≤ sI ∧ sI ≤ 4096) (b2 : -4096 ≤ xI ∧ xI ≤ 4096) (d4 : DInt (if sI ≤ sI + xI then sI else sI + xI) r) : (if sI ≤ sI + xI then sI else sI + xI).natAbs ≤ 4096 := by by_cases h : sI ≤ sI + xI <;> simp only [h, if_true, if_false] <;> omega
theorem own_p (d1 : DInt sI ds) (b1 : 1 ≤ sI ∧ sI ≤ 4096) (b2 : -4096 ≤ xI ∧ xI ≤ 4096) (d4 : DInt (if sI ≤ sI + xI then sI else sI + xI) r) : DInt (12 * sI * (if sI ≤ sI + xI then sI else sI + xI)) (FP.dmul (FP.dmul (4622945017495814144 : UInt64) ds) r) :=
  dmul_int (own_12s d1 b1) d4 (Nat.le_trans (own_nb (A := 49152) (B := 4096) (by omega) (own_mnb d1 b1 b2 d4)) (by decide))
theorem own_pu (d1 : DInt sI ds) (d3 : own_Sc 10 kI (val64 du)) (b1 : 1 ≤ sI ∧ sI ≤ 4096) (b2 : -4096 ≤ xI ∧ xI ≤ 4096) (b3 : 0 ≤ kI ∧ kI ≤ 1023) (d4 : DInt (if sI ≤ sI + xI then sI else sI + xI) r) : own_Sc 10 (12 * sI * (if sI ≤ sI + xI then sI else sI + xI) * kI) (val64 (FP.dmul (FP.dmul (FP.dmul (4622945017495814144 : UInt64) ds) r) du)) := by
  have n1 := own_nb (a := 12 * sI) (A := 49152) (B := 4096) (by omega) (own_mnb d1 b1 b2 d4)
  exact own_sc_mul (by decide) (own_p d1 b1 b2 d4) d3 (Nat.le_trans (own_nb (B := 1023) n1 (by omega)) (by decide))
theorem own_cmp (d1 : DInt sI ds) (d2 : DInt xI dx) (d3 : own_Sc 10 kI (val64 du)) (b1 : 1 ≤ sI ∧ sI ≤ 4096) (b2 : -4096 ≤ xI ∧ xI ≤ 4096) (b3 : 0 ≤ kI ∧ kI ≤ 1023) (d4 : DInt (if sI ≤ sI + xI then sI else sI + xI) r) : cmpValue (FP.dcmp (FP.dmul (FP.dmul dx dx) (FP.dmul dx dx)) (FP.dmul (FP.dmul (FP.dmul (4622945017495814144 : UInt64) ds) r) du)) .g < (0 : Int32) ↔ xI * xI * (xI * xI) * 1024 < 12 * sI * (if sI ≤ sI + xI then sI else sI + xI) * kI := by
  rw [own_sc_cmp (own_x4 d2 b2) (own_pu d1 d3 b1 b2 b3 d4)]
  simp only [compare, compareOfLessAndEq, show ((2 ^ 10 : Nat) : Int) = 1024 from rfl]
  generalize xI * xI * (xI * xI) * 1024 = l
  generalize 12 * sI * (if sI ≤ sI + xI then sI else sI + xI) * kI = t
  by_cases p : l < t
  · rw [if_pos p]; exact ⟨fun _ => p, fun _ => by decide⟩
  · rw [if_neg p]
    by_cases q : l = t
    · rw [if_pos q]; exact ⟨fun h => absurd h (by decide), fun h => absurd h p⟩
    · rw [if_neg q]; exact ⟨fun h => absurd h (by decide), fun h => absurd h p⟩
end
theorem own_m64 {a b : Int64} {A B : Nat} (ha : a.toInt.natAbs ≤ A) (hb : b.toInt.natAbs ≤ B) (h : A * B < 2 ^ 63) : (a * b).toInt = a.toInt * b.toInt ∧ (a * b).toInt.natAbs ≤ A * B := by
  have n := own_nb ha hb
  have e : (a * b).toInt = a.toInt * b.toInt := by
    rw [Int64.toInt_mul]; generalize a.toInt * b.toInt = z at n ⊢; exact Int.bmod_eq_of_le (by omega) (by omega)
  rw [e]; exact ⟨rfl, n⟩
/-- the long arithmetic of the law -/
theorem own_long {a x k y : Int64} (b1 : 1 ≤ a.toInt ∧ a.toInt ≤ 4096) (b2 : -4096 ≤ x.toInt ∧ x.toInt ≤ 4096) (b3 : 0 ≤ k.toInt ∧ k.toInt ≤ 1023) (hy : y.toInt = if a.toInt ≤ a.toInt + x.toInt then a.toInt else a.toInt + x.toInt) :
    x * x * (x * x) * 1024 < (12 : Int64) * a * y * k ↔ x.toInt * x.toInt * (x.toInt * x.toInt) * 1024 < 12 * a.toInt * (if a.toInt ≤ a.toInt + x.toInt then a.toInt else a.toInt + x.toInt) * k.toInt := by
  have yb : y.toInt.natAbs ≤ 4096 := by rw [hy]; by_cases h : a.toInt ≤ a.toInt + x.toInt <;> simp only [h, if_true, if_false] <;> omega
  have x2 := own_m64 (a := x) (b := x) (A := 4096) (B := 4096) (by omega) (by omega) (by decide)
  have x4 := own_m64 x2.2 x2.2 (by decide)
  have l := own_m64 (b := (1024 : Int64)) (B := 1024) x4.2 (by decide) (by decide)
  have r1 := own_m64 (a := (12 : Int64)) (b := a) (A := 12) (B := 4096) (by decide) (by omega) (by decide)
  have r2 := own_m64 r1.2 yb (by decide)
  have r3 := own_m64 (b := k) (B := 1023) r2.2 (by omega) (by decide)
  rw [Int64.lt_iff_toInt_lt, l.1, x4.1, x2.1, r3.1, r2.1, r1.1, hy]; rfl
theorem own_low1 {a x : Int64} (c : ¬ x < (0 : Int64)) : a.toInt = if a.toInt ≤ a.toInt + x.toInt then a.toInt else a.toInt + x.toInt := by
  rw [Int64.lt_iff_toInt_lt, show (0 : Int64).toInt = 0 from rfl] at c; rw [if_pos (by omega)]
theorem own_low2 {a x : Int64} (b1 : 1 ≤ a.toInt ∧ a.toInt ≤ 4096) (b2 : -4096 ≤ x.toInt ∧ x.toInt ≤ 4096) (c : x < (0 : Int64)) : (a + x).toInt = if a.toInt ≤ a.toInt + x.toInt then a.toInt else a.toInt + x.toInt := by
  rw [Int64.lt_iff_toInt_lt, show (0 : Int64).toInt = 0 from rfl] at c; rw [if_neg (by omega), Int64.toInt_add]; exact Int.bmod_eq_of_le (by omega) (by omega)
theorem own_sq1 {a x k : Int} (h : x * x * (x * x) * 1024 < 12 * a * (if a ≤ a + x then a else a + x) * k) : own_sq a x k = 1 := by unfold own_sq; rw [if_pos h]
theorem own_sq0 {a x k : Int} (h : ¬ x * x * (x * x) * 1024 < 12 * a * (if a ≤ a + x then a else a + x) * k) : own_sq a x k = 0 := by unfold own_sq; rw [if_neg h]
theorem own_s64 (a : Int32) : 1 ≤ ((1 : Int32) + (a &&& (4095 : Int32))).toInt64.toInt ∧ ((1 : Int32) + (a &&& (4095 : Int32))).toInt64.toInt ≤ 4096 := by
  rw [Int32.toInt_toInt64]
  have h0 : 0 ≤ (a &&& (4095 : Int32)).toInt ∧ (a &&& (4095 : Int32)).toInt ≤ 4095 := by
    have e := c_mask a 4095 12 (by decide) (by decide)
    have l1 := Int.emod_nonneg a.toInt (show ((2 ^ 12 : Nat) : Int) ≠ 0 by decide)
    have l2 := Int.emod_lt_of_pos a.toInt (show (0 : Int) < ((2 ^ 12 : Nat) : Int) by decide)
    rw [e]; omega
  rw [Int32.toInt_add, show (1 : Int32).toInt = 1 from rfl, Int.bmod_eq_of_le (by omega) (by omega)]; omega
theorem own_x64 (b : Int32) : -4096 ≤ (b % (4097 : Int32)).toInt64.toInt ∧ (b % (4097 : Int32)).toInt64.toInt ≤ 4096 := by
  rw [Int32.toInt_toInt64, Int32.toInt_mod, show (4097 : Int32).toInt = 4097 from rfl]
  have h1 := Int.tmod_lt_of_pos b.toInt (b := 4097) (by decide)
  have h2 := Int.lt_tmod_of_pos b.toInt (b := 4097) (by decide)
  omega
theorem own_k64 (c : Int32) : 0 ≤ (c &&& (1023 : Int32)).toInt64.toInt ∧ (c &&& (1023 : Int32)).toInt64.toInt ≤ 1023 := by
  rw [Int32.toInt_toInt64]
  have h0 : 0 ≤ (c &&& (1023 : Int32)).toInt ∧ (c &&& (1023 : Int32)).toInt ≤ 1023 := by
    have e := c_mask c 1023 10 (by decide) (by decide)
    have l1 := Int.emod_nonneg c.toInt (show ((2 ^ 10 : Nat) : Int) ≠ 0 by decide)
    have l2 := Int.emod_lt_of_pos c.toInt (show (0 : Int) < ((2 ^ 10 : Nat) : Int) by decide)
    rw [e]; omega
  exact h0
theorem own_b53 {z : Int64} (h : 1 ≤ z.toInt ∧ z.toInt ≤ 4096) : z.toInt.natAbs ≤ 2 ^ 53 := by omega
theorem own_b54 {z : Int64} (h : -4096 ≤ z.toInt ∧ z.toInt ≤ 4096) : z.toInt.natAbs ≤ 2 ^ 53 := by omega
end OwnSq

section OwnMin
variable {p : Program} {l : Launch} {e : Env} {R : Room} {s : State} {m : MethodId} {args : Array Value} {below : List Frame} {meth : Method} {c : Code} {T : State} {locs : List Loc} {cells slots : Nat} {Z : State} {a0 : Array Value}
theorem own_minD (X : Stand p l e R s m args below meth c T locs cells slots) (hx : p.tables.exec = Jvm.exec) (hZ : Z.Warmed39 s.vm) {own : String} {index : Nat} (hown : s.vm.findClass own = some m.cls)
    (w1 : (Cond.methodLink own index Jvm.Free.Fl.Abs.minDN).before a0 Z = true) (w2 : (Cond.static Jvm.Free.Fl.Abs.minDN).before a0 Z = true) (w3 : (Cond.initialized Jvm.Free.Fl.Abs.minDN.cls).before a0 Z = true) (w4 : (Cond.code Jvm.Free.Fl.Abs.minDN Jvm.Free.Fl.Abs.minDCode 4 (some .double)).before a0 Z = true)
    {a b : UInt64} {rest : List Value} (na : Jvm.Free.Fl.NoNaN64 a) (nb : Jvm.Free.Fl.NoNaN64 b) {W : Nat} (hf : 1 ≤ R.frames) (hl : W + 15 ≤ R.locals) (hc : cells ≤ R.cells) (hs : slots ≤ R.slots)
    {g : JFrame} (hg : g.method = m) (hsize : g.locals.size = c.maxLocals) (hstack : g.stack = .double b :: .double a :: rest) (hW : 2 * g.monitorRoom + (rest.map fun v => v.category).sum ≤ W) (hdg : decode c.code g.pc = .ok (.invokestatic index, 3)) :
    ∃ T' : State, Stand p l e R s m args below meth c T' locs cells slots ∧ T'.heap = T.heap ∧ ∀ t, Steps p.tables e below (T'.setTop { g with pc := g.pc + 3, stack := .double (Native.java_lang_Math.nans.pick64 false a b) :: rest }) t → Steps p.tables e below (T.setTop g) t := by
  obtain ⟨v, vm₁, B, -, X', ⟨rfl, rfl⟩, st⟩ := Jvm.LawKit.callS (argsL := [.double a, .double b]) X hx hown (mvT hZ w1) (mvT hZ w2) (mvT hZ w3) (mvT hZ w4) (by decide) (Jvm.Free.Fl.Abs.minD_pays (W := W) a b (mvT hZ w4) hf hl) hg hsize (by intro sig hsig; rw [show parseMethodDescriptor Jvm.Free.Fl.Abs.minDN.desc = some ⟨[.double, .double], some .double⟩ by decide +kernel] at hsig; cases hsig; rfl) hstack hW hdg (fun _ _ => ⟨hc, hs, rfl, na, nb⟩)
  exact ⟨T.setVm vm₁, X', rfl, st⟩
end OwnMin
theorem own_d_isq_0 : decode prog_9_method_4_code 0 = .ok (.dload_n 2, 1) := by decide +kernel
theorem own_d_isq_1 : decode prog_9_method_4_code 1 = .ok (.dload_n 2, 1) := by decide +kernel
theorem own_d_isq_2 : decode prog_9_method_4_code 2 = .ok (.dmul, 1) := by decide +kernel
theorem own_d_isq_3 : decode prog_9_method_4_code 3 = .ok (.dstore 6, 2) := by decide +kernel
theorem own_d_isq_5 : decode prog_9_method_4_code 5 = .ok (.dload 6, 2) := by decide +kernel
theorem own_d_isq_7 : decode prog_9_method_4_code 7 = .ok (.dload 6, 2) := by decide +kernel
theorem own_d_isq_9 : decode prog_9_method_4_code 9 = .ok (.dmul, 1) := by decide +kernel
theorem own_d_isq_10 : decode prog_9_method_4_code 10 = .ok (.ldc2_w 71, 3) := by decide +kernel
theorem own_d_isq_13 : decode prog_9_method_4_code 13 = .ok (.dload_n 0, 1) := by decide +kernel
theorem own_d_isq_14 : decode prog_9_method_4_code 14 = .ok (.dmul, 1) := by decide +kernel
theorem own_d_isq_15 : decode prog_9_method_4_code 15 = .ok (.dload_n 0, 1) := by decide +kernel
theorem own_d_isq_16 : decode prog_9_method_4_code 16 = .ok (.dload_n 0, 1) := by decide +kernel
theorem own_d_isq_17 : decode prog_9_method_4_code 17 = .ok (.dload_n 2, 1) := by decide +kernel
theorem own_d_isq_18 : decode prog_9_method_4_code 18 = .ok (.dadd, 1) := by decide +kernel
theorem own_d_isq_19 : decode prog_9_method_4_code 19 = .ok (.invokestatic 73, 3) := by decide +kernel
theorem own_d_isq_22 : decode prog_9_method_4_code 22 = .ok (.dmul, 1) := by decide +kernel
theorem own_d_isq_23 : decode prog_9_method_4_code 23 = .ok (.dload 4, 2) := by decide +kernel
theorem own_d_isq_25 : decode prog_9_method_4_code 25 = .ok (.dmul, 1) := by decide +kernel
theorem own_d_isq_26 : decode prog_9_method_4_code 26 = .ok (.dcmp .g, 1) := by decide +kernel
theorem own_d_isq_27 : decode prog_9_method_4_code 27 = .ok (.ifCond .ge 7, 3) := by decide +kernel
theorem own_d_isq_30 : decode prog_9_method_4_code 30 = .ok (.iconst 1, 1) := by decide +kernel
theorem own_d_isq_31 : decode prog_9_method_4_code 31 = .ok (.goto 4, 3) := by decide +kernel
theorem own_d_isq_34 : decode prog_9_method_4_code 34 = .ok (.iconst 0, 1) := by decide +kernel
theorem own_d_isq_35 : decode prog_9_method_4_code 35 = .ok (.ireturn, 1) := by decide +kernel
theorem own_pn_com_example_fairdice_fairdice_Variates : plainName "com/example/fairdice/fairdice/Variates" = true := by first | (simp [plainName, overriddenIn]; done) | decide +kernel
theorem own_ef_isq (m : MethodId) (ds : UInt64) (dx : UInt64) (du : UInt64) : entryFrame m #[(.double ds), (.double dx), (.double du)] 8 = mkF m 0 #[.val (.double ds), .second, .val (.double dx), .second, .val (.double du), .second, .unset, .unset] [] := by first | (simp [entryFrame, mkF, argsToLocals, Value.category]; done) | rfl
def own_Q_isq (Z : State) (ds : UInt64) (dx : UInt64) (du : UInt64) (sI : Int) (xI : Int) (kI : Int) (h0 : Heap) (n0 : Nat) (v : Option Value) (h : Heap) (L : List Loc) : Prop := v = some (.int (own_sq sI xI kI)) ∧ Fr n0 L ∧ h = h0
set_option maxRecDepth 65536 in
set_option maxHeartbeats 40000000 in
theorem own_rm_isq (l : Launch) (Z : State) (a0 : Array Value) (hw : ∀ d ∈ tables_1, d.before a0 Z = true) (ws : List Jvm.Cond) (ds : UInt64) (dx : UInt64) (du : UInt64) (sI : Int) (xI : Int) (kI : Int) (h0 : Heap) (n0 : Nat) (Z0 : n0 ≤ h0.size) (d1 : FP.Core.DInt sI ds) (d2 : FP.Core.DInt xI dx) (d3 : own_Sc 10 kI (FP.Core.val64 du)) (b1 : 1 ≤ sI ∧ sI ≤ 4096) (b2 : -4096 ≤ xI ∧ xI ≤ 4096) (b3 : 0 ≤ kI ∧ kI ≤ 1023) :
    MetFree l (⟨"com/example/fairdice/fairdice/Variates", "insideSqueeze", "(DDD)Z"⟩ : MethodName) (head1 (Jvm.Cond.code (⟨"com/example/fairdice/fairdice/Variates", "insideSqueeze", "(DDD)Z"⟩ : MethodName) prog_9_method_4_code 8 (some .boolean) :: ws) ({ frames := 1, cells := 0, slots := 0, locals := 19 } : Room)) (fun a_ U_ => a_ = #[(.double ds), (.double dx), (.double du)] ∧ Z.Warmed39 U_.vm ∧ U_.heap = h0) (fun _ _ _ _ _ => True) (fun _ U_ o_ U'_ => ∃ v_ L_, o_ = .returned v_ ∧ own_Q_isq Z ds dx du sI xI kI h0 n0 v_ U'_.heap L_ ∧ FrameEnd U_ o_ U'_ L_ ({ frames := 1, cells := 0, slots := 0, locals := 19 } : Room).cells ({ frames := 1, cells := 0, slots := 0, locals := 19 } : Room).slots) := by
  refine MetFree.of_bodySF (plainFor_of_name own_pn_com_example_fairdice_fairdice_Variates) hisR ?_
  intro p e s m args below meth c s₁ Bd hml0 hP hK
  obtain ⟨rfl, hZ, hh⟩ := hP
  have hx := Bd.exec
  have hby := Bd.bytes
  have hlk : meth.locks = false := BodyLoose.notSynchronized Bd
  have hml : c.maxLocals = 8 := hml0
  have hown : s.vm.findClass "com/example/fairdice/fairdice/Variates" = some m.cls := findClass_of_methodNamed Bd.named
  have hnm := (name_of_methodNamed Bd.named Bd.method).1
  have X0 : Stand p l e ({ frames := 1, cells := 0, slots := 0, locals := 19 } : Room) s m #[(.double ds), (.double dx), (.double du)] below meth c s₁ [] 0 0 := Stand.of_body Bd
  have e0 : s₁.heap = h0 := by rw [← hh, Bd.state]; rfl
  have N0 := Fr.nil n0
  show own_Goes p e below (own_K (own_Q_isq Z ds dx du sI xI kI h0 n0) s ({ frames := 1, cells := 0, slots := 0, locals := 19 } : Room).cells ({ frames := 1, cells := 0, slots := 0, locals := 19 } : Room).slots) s₁ (entryFrame m #[(.double ds), (.double dx), (.double du)] 8)
  rw [own_ef_isq]
  refine own_by (T' := s₁) (g' := (mkF m 1 #[.val (.double ds), .second, .val (.double dx), .second, .val (.double du), .second, .unset, .unset] [(.double dx)])) (fun t_ k_ => XS.dloadN X0.here hx rfl (hb hby own_d_isq_0) rfl k_) ?_
  refine own_by (T' := s₁) (g' := (mkF m 2 #[.val (.double ds), .second, .val (.double dx), .second, .val (.double du), .second, .unset, .unset] [(.double dx), (.double dx)])) (fun t_ k_ => XS.dloadN X0.here hx rfl (hb hby own_d_isq_1) rfl k_) ?_
  refine own_by (T' := s₁) (g' := (mkF m 3 #[.val (.double ds), .second, .val (.double dx), .second, .val (.double du), .second, .unset, .unset] [(.double (FP.dmul dx dx))])) (fun t_ k_ => XS.dmulS X0.here hx rfl (hb hby own_d_isq_2) rfl (own_di_ok (own_x2 d2 b2)) rfl k_) ?_
  refine own_by (T' := s₁) (g' := (mkF m 5 #[.val (.double ds), .second, .val (.double dx), .second, .val (.double du), .second, .val (.double (FP.dmul dx dx)), .second] [])) (fun t_ k_ => XS.dstore X0.here hx rfl (hb hby own_d_isq_3) rfl (l' := #[.val (.double ds), .second, .val (.double dx), .second, .val (.double du), .second, .val (.double (FP.dmul dx dx)), .second]) rfl k_) ?_
  refine own_by (T' := s₁) (g' := (mkF m 7 #[.val (.double ds), .second, .val (.double dx), .second, .val (.double du), .second, .val (.double (FP.dmul dx dx)), .second] [(.double (FP.dmul dx dx))])) (fun t_ k_ => XS.dload X0.here hx rfl (hb hby own_d_isq_5) rfl k_) ?_
  refine own_by (T' := s₁) (g' := (mkF m 9 #[.val (.double ds), .second, .val (.double dx), .second, .val (.double du), .second, .val (.double (FP.dmul dx dx)), .second] [(.double (FP.dmul dx dx)), (.double (FP.dmul dx dx))])) (fun t_ k_ => XS.dload X0.here hx rfl (hb hby own_d_isq_7) rfl k_) ?_
  refine own_by (T' := s₁) (g' := (mkF m 10 #[.val (.double ds), .second, .val (.double dx), .second, .val (.double du), .second, .val (.double (FP.dmul dx dx)), .second] [(.double (FP.dmul (FP.dmul dx dx) (FP.dmul dx dx)))])) (fun t_ k_ => XS.dmulS X0.here hx rfl (hb hby own_d_isq_9) rfl (own_di_ok (own_x4 d2 b2)) rfl k_) ?_
  refine own_by (T' := s₁) (g' := (mkF m 13 #[.val (.double ds), .second, .val (.double dx), .second, .val (.double du), .second, .val (.double (FP.dmul dx dx)), .second] [(.double (4622945017495814144 : UInt64)), (.double (FP.dmul (FP.dmul dx dx) (FP.dmul dx dx)))])) (fun t_ k_ => X0.ldc2DoubleC hx hown (mvT hZ (hw _ (List.mem_of_getElem? (i := 5) rfl))) (g := (mkF m 10 #[.val (.double ds), .second, .val (.double dx), .second, .val (.double du), .second, .val (.double (FP.dmul dx dx)), .second] [(.double (FP.dmul (FP.dmul dx dx) (FP.dmul dx dx)))])) rfl (hb hby own_d_isq_10) _ k_) ?_
  refine own_by (T' := s₁) (g' := (mkF m 14 #[.val (.double ds), .second, .val (.double dx), .second, .val (.double du), .second, .val (.double (FP.dmul dx dx)), .second] [(.double ds), (.double (4622945017495814144 : UInt64)), (.double (FP.dmul (FP.dmul dx dx) (FP.dmul dx dx)))])) (fun t_ k_ => XS.dloadN X0.here hx rfl (hb hby own_d_isq_13) rfl k_) ?_
  refine own_by (T' := s₁) (g' := (mkF m 15 #[.val (.double ds), .second, .val (.double dx), .second, .val (.double du), .second, .val (.double (FP.dmul dx dx)), .second] [(.double (FP.dmul (4622945017495814144 : UInt64) ds)), (.double (FP.dmul (FP.dmul dx dx) (FP.dmul dx dx)))])) (fun t_ k_ => XS.dmulS X0.here hx rfl (hb hby own_d_isq_14) rfl (own_di_ok (own_12s d1 b1)) rfl k_) ?_
  refine own_by (T' := s₁) (g' := (mkF m 16 #[.val (.double ds), .second, .val (.double dx), .second, .val (.double du), .second, .val (.double (FP.dmul dx dx)), .second] [(.double ds), (.double (FP.dmul (4622945017495814144 : UInt64) ds)), (.double (FP.dmul (FP.dmul dx dx) (FP.dmul dx dx)))])) (fun t_ k_ => XS.dloadN X0.here hx rfl (hb hby own_d_isq_15) rfl k_) ?_
  refine own_by (T' := s₁) (g' := (mkF m 17 #[.val (.double ds), .second, .val (.double dx), .second, .val (.double du), .second, .val (.double (FP.dmul dx dx)), .second] [(.double ds), (.double ds), (.double (FP.dmul (4622945017495814144 : UInt64) ds)), (.double (FP.dmul (FP.dmul dx dx) (FP.dmul dx dx)))])) (fun t_ k_ => XS.dloadN X0.here hx rfl (hb hby own_d_isq_16) rfl k_) ?_
  refine own_by (T' := s₁) (g' := (mkF m 18 #[.val (.double ds), .second, .val (.double dx), .second, .val (.double du), .second, .val (.double (FP.dmul dx dx)), .second] [(.double dx), (.double ds), (.double ds), (.double (FP.dmul (4622945017495814144 : UInt64) ds)), (.double (FP.dmul (FP.dmul dx dx) (FP.dmul dx dx)))])) (fun t_ k_ => XS.dloadN X0.here hx rfl (hb hby own_d_isq_17) rfl k_) ?_
  refine own_by (T' := s₁) (g' := (mkF m 19 #[.val (.double ds), .second, .val (.double dx), .second, .val (.double du), .second, .val (.double (FP.dmul dx dx)), .second] [(.double (FP.dadd ds dx)), (.double ds), (.double (FP.dmul (4622945017495814144 : UInt64) ds)), (.double (FP.dmul (FP.dmul dx dx) (FP.dmul dx dx)))])) (fun t_ k_ => XS.daddS X0.here hx rfl (hb hby own_d_isq_18) rfl (own_di_ok (own_sx d1 d2 b1 b2)) rfl k_) ?_
  obtain ⟨T1, X1, e1, st1⟩ := own_minD X0 hx hZ hown (hw _ (List.mem_of_getElem? (i := 6) rfl)) (hw _ (List.mem_of_getElem? (i := 7) rfl)) (hw _ (List.mem_of_getElem? (i := 8) rfl)) (hw _ (List.mem_of_getElem? (i := 9) rfl)) (own_di_ok d1) (own_di_ok (own_sx d1 d2 b1 b2)) (W := 4) (by decide) (by decide) (by decide) (by decide) (g := (mkF m 19 #[.val (.double ds), .second, .val (.double dx), .second, .val (.double du), .second, .val (.double (FP.dmul dx dx)), .second] [(.double (FP.dadd ds dx)), (.double ds), (.double (FP.dmul (4622945017495814144 : UInt64) ds)), (.double (FP.dmul (FP.dmul dx dx) (FP.dmul dx dx)))])) rfl (by rw [hml]; rfl) rfl (by show 2 * 0 + _ ≤ _; exact Nat.le_of_eq rfl) (hb hby own_d_isq_19)
  rw [e0] at e1
  refine own_by (T' := T1) (g' := (mkF m 22 #[.val (.double ds), .second, .val (.double dx), .second, .val (.double du), .second, .val (.double (FP.dmul dx dx)), .second] [(.double (Native.java_lang_Math.nans.pick64 false ds (FP.dadd ds dx))), (.double (FP.dmul (4622945017495814144 : UInt64) ds)), (.double (FP.dmul (FP.dmul dx dx) (FP.dmul dx dx)))])) st1 ?_
  refine own_by (T' := T1) (g' := (mkF m 23 #[.val (.double ds), .second, .val (.double dx), .second, .val (.double du), .second, .val (.double (FP.dmul dx dx)), .second] [(.double (FP.dmul (FP.dmul (4622945017495814144 : UInt64) ds) (Native.java_lang_Math.nans.pick64 false ds (FP.dadd ds dx)))), (.double (FP.dmul (FP.dmul dx dx) (FP.dmul dx dx)))])) (fun t_ k_ => XS.dmulS X1.here hx rfl (hb hby own_d_isq_22) rfl (own_di_ok (own_p d1 b1 b2 (own_min d1 (own_sx d1 d2 b1 b2)))) rfl k_) ?_
  refine own_by (T' := T1) (g' := (mkF m 25 #[.val (.double ds), .second, .val (.double dx), .second, .val (.double du), .second, .val (.double (FP.dmul dx dx)), .second] [(.double du), (.double (FP.dmul (FP.dmul (4622945017495814144 : UInt64) ds) (Native.java_lang_Math.nans.pick64 false ds (FP.dadd ds dx)))), (.double (FP.dmul (FP.dmul dx dx) (FP.dmul dx dx)))])) (fun t_ k_ => XS.dload X1.here hx rfl (hb hby own_d_isq_23) rfl k_) ?_
  refine own_by (T' := T1) (g' := (mkF m 26 #[.val (.double ds), .second, .val (.double dx), .second, .val (.double du), .second, .val (.double (FP.dmul dx dx)), .second] [(.double (FP.dmul ((FP.dmul (FP.dmul (4622945017495814144 : UInt64) ds) (Native.java_lang_Math.nans.pick64 false ds (FP.dadd ds dx)))) du)), (.double (FP.dmul (FP.dmul dx dx) (FP.dmul dx dx)))])) (fun t_ k_ => XS.dmulS X1.here hx rfl (hb hby own_d_isq_25) rfl (own_sc_ok (own_pu d1 d3 b1 b2 b3 (own_min d1 (own_sx d1 d2 b1 b2)))) rfl k_) ?_
  refine own_by (T' := T1) (g' := (mkF m 27 #[.val (.double ds), .second, .val (.double dx), .second, .val (.double du), .second, .val (.double (FP.dmul dx dx)), .second] [(.int (cmpValue (FP.dcmp ((FP.dmul (FP.dmul dx dx) (FP.dmul dx dx))) ((FP.dmul ((FP.dmul (FP.dmul (4622945017495814144 : UInt64) ds) (Native.java_lang_Math.nans.pick64 false ds (FP.dadd ds dx)))) du))) .g))])) (fun t_ k_ => XS.dcmpS X1.here hx rfl (hb hby own_d_isq_26) rfl rfl k_) ?_
  by_cases c27_2 : (cmpValue (FP.dcmp ((FP.dmul (FP.dmul dx dx) (FP.dmul dx dx))) ((FP.dmul ((FP.dmul (FP.dmul (4622945017495814144 : UInt64) ds) (Native.java_lang_Math.nans.pick64 false ds (FP.dadd ds dx)))) du))) .g) < (0 : Int32)
  · skip
    refine own_by (T' := T1) (g' := (mkF m 30 #[.val (.double ds), .second, .val (.double dx), .second, .val (.double du), .second, .val (.double (FP.dmul dx dx)), .second] [])) (fun t_ k_ => XS.ifNo X1.here hx rfl (hb hby own_d_isq_27) rfl ((if0 _ _).trans (tlt (c27_2 : (cmpValue (FP.dcmp ((FP.dmul (FP.dmul dx dx) (FP.dmul dx dx))) ((FP.dmul ((FP.dmul (FP.dmul (4622945017495814144 : UInt64) ds) (Native.java_lang_Math.nans.pick64 false ds (FP.dadd ds dx)))) du))) .g) < (0 : Int32))).2.1) k_) ?_
    refine own_by (T' := T1) (g' := (mkF m 31 #[.val (.double ds), .second, .val (.double dx), .second, .val (.double du), .second, .val (.double (FP.dmul dx dx)), .second] [(.int (1 : Int32))])) (fun t_ k_ => XS.iconst X1.here hx rfl (hb hby own_d_isq_30) k_) ?_
    refine own_by (T' := T1) (g' := (mkF m 35 #[.val (.double ds), .second, .val (.double dx), .second, .val (.double du), .second, .val (.double (FP.dmul dx dx)), .second] [(.int (1 : Int32))])) (fun t_ k_ => XS.goto X1.here hx rfl (pc0 := 31) (pc' := 35) rfl (hb hby own_d_isq_31) (by decide) (by decide) k_) ?_
    refine own_retN X1 hx (t := .boolean) Bd.returns hlk (by simp) (hb hby own_d_isq_35) (by decide) (by decide) (v := (1 : Int32)) rfl ?_
    rw [e1]
    exact ⟨by rw [own_sq1 ((own_cmp d1 d2 d3 b1 b2 b3 (own_min d1 (own_sx d1 d2 b1 b2))).mp c27_2)], N0, rfl⟩
  · skip
    refine own_by (T' := T1) (g' := (mkF m 34 #[.val (.double ds), .second, .val (.double dx), .second, .val (.double du), .second, .val (.double (FP.dmul dx dx)), .second] [])) (fun t_ k_ => XS.ifYes X1.here hx rfl (pc0 := 27) (pc' := 34) rfl (hb hby own_d_isq_27) rfl ((if0 _ _).trans (flt (c27_2 : ¬ ((cmpValue (FP.dcmp ((FP.dmul (FP.dmul dx dx) (FP.dmul dx dx))) ((FP.dmul ((FP.dmul (FP.dmul (4622945017495814144 : UInt64) ds) (Native.java_lang_Math.nans.pick64 false ds (FP.dadd ds dx)))) du))) .g) < (0 : Int32)))).2.1) (by decide) (by decide) k_) ?_
    refine own_by (T' := T1) (g' := (mkF m 35 #[.val (.double ds), .second, .val (.double dx), .second, .val (.double du), .second, .val (.double (FP.dmul dx dx)), .second] [(.int (0 : Int32))])) (fun t_ k_ => XS.iconst X1.here hx rfl (hb hby own_d_isq_34) k_) ?_
    refine own_retN X1 hx (t := .boolean) Bd.returns hlk (by simp) (hb hby own_d_isq_35) (by decide) (by decide) (v := (0 : Int32)) rfl ?_
    rw [e1]
    exact ⟨by rw [own_sq0 (fun q_ => c27_2 ((own_cmp d1 d2 d3 b1 b2 b3 (own_min d1 (own_sx d1 d2 b1 b2))).mpr q_))], N0, rfl⟩
theorem own_pd0 : parseMethodDescriptor "(DDD)Z" = some ⟨[.double, .double, .double], some .boolean⟩ := by decide +kernel
theorem own_pn_com_example_fairdice_fairdice_VariatesInsideSqueezePinLaw : plainName "com/example/fairdice/fairdice/VariatesInsideSqueezePinLaw" = true := by first | (simp [plainName, overriddenIn]; done) | decide +kernel
theorem own_ef_law (m : MethodId) (aa : Int32) (bb : Int32) (cc : Int32) : entryFrame m #[(.int aa), (.int bb), (.int cc)] maxLocals = mkF m 0 #[.val (.int aa), .val (.int bb), .val (.int cc), .unset, .unset, .unset, .unset, .unset, .unset, .unset, .unset, .unset, .unset, .unset, .unset, .unset, .unset, .unset, .unset, .unset, .unset, .unset, .unset, .unset, .unset, .unset, .unset] [] := by first | (simp [entryFrame, mkF, argsToLocals, Value.category, maxLocals]; done) | rfl
def own_Q_law (Z : State) (aa : Int32) (bb : Int32) (cc : Int32) (h0 : Heap) (n0 : Nat) (v : Option Value) (h : Heap) (L : List Loc) : Prop := v = some (.int 1) ∧ Fr n0 L
set_option maxRecDepth 65536 in
set_option maxHeartbeats 40000000 in
theorem own_rm_law (l : Launch) (Z : State) (a0 : Array Value) (hw : ∀ d ∈ tables_1, d.before a0 Z = true) (ws : List Jvm.Cond) (aa : Int32) (bb : Int32) (cc : Int32) (h0 : Heap) (n0 : Nat) (Z0 : n0 ≤ h0.size) :
    MetFree l x (head1 (Jvm.Cond.code x code maxLocals ret :: ws) room_1) (fun a_ U_ => a_ = #[(.int aa), (.int bb), (.int cc)] ∧ Z.Warmed39 U_.vm ∧ U_.heap = h0) (fun _ _ _ _ _ => True) (fun _ U_ o_ U'_ => ∃ v_ L_, o_ = .returned v_ ∧ own_Q_law Z aa bb cc h0 n0 v_ U'_.heap L_ ∧ FrameEnd U_ o_ U'_ L_ room_1.cells room_1.slots) := by
  refine MetFree.of_bodySF (plainFor_of_name own_pn_com_example_fairdice_fairdice_VariatesInsideSqueezePinLaw) hisR ?_
  intro p e s m args below meth c s₁ Bd hml0 hP hK
  obtain ⟨rfl, hZ, hh⟩ := hP
  have hx := Bd.exec
  have hby := Bd.bytes
  have hlk : meth.locks = false := BodyLoose.notSynchronized Bd
  have hml : c.maxLocals = 27 := hml0
  have hown : s.vm.findClass "com/example/fairdice/fairdice/VariatesInsideSqueezePinLaw" = some m.cls := findClass_of_methodNamed Bd.named
  have hnm := (name_of_methodNamed Bd.named Bd.method).1
  have X0 : Stand p l e room_1 s m #[(.int aa), (.int bb), (.int cc)] below meth c s₁ [] 0 0 := Stand.of_body Bd
  have e0 : s₁.heap = h0 := by rw [← hh, Bd.state]; rfl
  have N0 := Fr.nil n0
  show own_Goes p e below (own_K (own_Q_law Z aa bb cc h0 n0) s room_1.cells room_1.slots) s₁ (entryFrame m #[(.int aa), (.int bb), (.int cc)] maxLocals)
  rw [own_ef_law]
  refine own_by (T' := s₁) (g' := (mkF m 1 #[.val (.int aa), .val (.int bb), .val (.int cc), .unset, .unset, .unset, .unset, .unset, .unset, .unset, .unset, .unset, .unset, .unset, .unset, .unset, .unset, .unset, .unset, .unset, .unset, .unset, .unset, .unset, .unset, .unset, .unset] [(.int (1 : Int32))])) (fun t_ k_ => XS.iconst X0.here hx rfl (hb hby at_0) k_) ?_
  refine own_by (T' := s₁) (g' := (mkF m 2 #[.val (.int aa), .val (.int bb), .val (.int cc), .unset, .unset, .unset, .unset, .unset, .unset, .unset, .unset, .unset, .unset, .unset, .unset, .unset, .unset, .unset, .unset, .unset, .unset, .unset, .unset, .unset, .unset, .unset, .unset] [(.int aa), (.int (1 : Int32))])) (fun t_ k_ => XS.iloadN X0.here hx rfl (hb hby at_1) rfl k_) ?_
  refine own_by (T' := s₁) (g' := (mkF m 5 #[.val (.int aa), .val (.int bb), .val (.int cc), .unset, .unset, .unset, .unset, .unset, .unset, .unset, .unset, .unset, .unset, .unset, .unset, .unset, .unset, .unset, .unset, .unset, .unset, .unset, .unset, .unset, .unset, .unset, .unset] [(.int (4095 : Int32)), (.int aa), (.int (1 : Int32))])) (fun t_ k_ => XS.sipush X0.here hx rfl (hb hby at_2) k_) ?_
  refine own_by (T' := s₁) (g' := (mkF m 6 #[.val (.int aa), .val (.int bb), .val (.int cc), .unset, .unset, .unset, .unset, .unset, .unset, .unset, .unset, .unset, .unset, .unset, .unset, .unset, .unset, .unset, .unset, .unset, .unset, .unset, .unset, .unset, .unset, .unset, .unset] [(.int (aa &&& (4095 : Int32))), (.int (1 : Int32))])) (fun t_ k_ => XS.iand X0.here hx rfl (hb hby at_5) rfl k_) ?_
  refine own_by (T' := s₁) (g' := (mkF m 7 #[.val (.int aa), .val (.int bb), .val (.int cc), .unset, .unset, .unset, .unset, .unset, .unset, .unset, .unset, .unset, .unset, .unset, .unset, .unset, .unset, .unset, .unset, .unset, .unset, .unset, .unset, .unset, .unset, .unset, .unset] [(.int ((1 : Int32) + (aa &&& (4095 : Int32))))])) (fun t_ k_ => XS.iadd X0.here hx rfl (hb hby at_6) rfl k_) ?_
  refine own_by (T' := s₁) (g' := (mkF m 8 #[.val (.int aa), .val (.int bb), .val (.int cc), .unset, .unset, .unset, .unset, .unset, .unset, .unset, .unset, .unset, .unset, .unset, .unset, .unset, .unset, .unset, .unset, .unset, .unset, .unset, .unset, .unset, .unset, .unset, .unset] [(.long (((1 : Int32) + (aa &&& (4095 : Int32)))).toInt64)])) (fun t_ k_ => XS.i2l X0.here hx rfl (hb hby at_7) rfl k_) ?_
  refine own_by (T' := s₁) (g' := (mkF m 9 #[.val (.int aa), .val (.int bb), .val (.int cc), .val (.long (((1 : Int32) + (aa &&& (4095 : Int32)))).toInt64), .second, .unset, .unset, .unset, .unset, .unset, .unset, .unset, .unset, .unset, .unset, .unset, .unset, .unset, .unset, .unset, .unset, .unset, .unset, .unset, .unset, .unset, .unset] [])) (fun t_ k_ => XS.lstoreN X0.here hx rfl (hb hby at_8) rfl (l' := #[.val (.int aa), .val (.int bb), .val (.int cc), .val (.long (((1 : Int32) + (aa &&& (4095 : Int32)))).toInt64), .second, .unset, .unset, .unset, .unset, .unset, .unset, .unset, .unset, .unset, .unset, .unset, .unset, .unset, .unset, .unset, .unset, .unset, .unset, .unset, .unset, .unset, .unset]) rfl k_) ?_
  obtain ⟨s64, hs64⟩ : ∃ z, z = (((1 : Int32) + (aa &&& (4095 : Int32)))).toInt64 := ⟨_, rfl⟩
  rw [← hs64]
  have ps64 := own_s64 aa
  rw [← hs64] at ps64
  refine own_by (T' := s₁) (g' := (mkF m 10 #[.val (.int aa), .val (.int bb), .val (.int cc), .val (.long s64), .second, .unset, .unset, .unset, .unset, .unset, .unset, .unset, .unset, .unset, .unset, .unset, .unset, .unset, .unset, .unset, .unset, .unset, .unset, .unset, .unset, .unset, .unset] [(.int bb)])) (fun t_ k_ => XS.iloadN X0.here hx rfl (hb hby at_9) rfl k_) ?_
  refine own_by (T' := s₁) (g' := (mkF m 13 #[.val (.int aa), .val (.int bb), .val (.int cc), .val (.long s64), .second, .unset, .unset, .unset, .unset, .unset, .unset, .unset, .unset, .unset, .unset, .unset, .unset, .unset, .unset, .unset, .unset, .unset, .unset, .unset, .unset, .unset, .unset] [(.int (4097 : Int32)), (.int bb)])) (fun t_ k_ => XS.sipush X0.here hx rfl (hb hby at_10) k_) ?_
  refine own_by (T' := s₁) (g' := (mkF m 14 #[.val (.int aa), .val (.int bb), .val (.int cc), .val (.long s64), .second, .unset, .unset, .unset, .unset, .unset, .unset, .unset, .unset, .unset, .unset, .unset, .unset, .unset, .unset, .unset, .unset, .unset, .unset, .unset, .unset, .unset, .unset] [(.int (bb % (4097 : Int32)))])) (fun t_ k_ => Jvm.RoadKit.iremM X0 hx rfl (hb hby at_13) rfl (by decide) k_) ?_
  refine own_by (T' := s₁) (g' := (mkF m 15 #[.val (.int aa), .val (.int bb), .val (.int cc), .val (.long s64), .second, .unset, .unset, .unset, .unset, .unset, .unset, .unset, .unset, .unset, .unset, .unset, .unset, .unset, .unset, .unset, .unset, .unset, .unset, .unset, .unset, .unset, .unset] [(.long (bb % (4097 : Int32)).toInt64)])) (fun t_ k_ => XS.i2l X0.here hx rfl (hb hby at_14) rfl k_) ?_
  refine own_by (T' := s₁) (g' := (mkF m 17 #[.val (.int aa), .val (.int bb), .val (.int cc), .val (.long s64), .second, .val (.long (bb % (4097 : Int32)).toInt64), .second, .unset, .unset, .unset, .unset, .unset, .unset, .unset, .unset, .unset, .unset, .unset, .unset, .unset, .unset, .unset, .unset, .unset, .unset, .unset, .unset] [])) (fun t_ k_ => XS.lstore X0.here hx rfl (hb hby at_15) rfl (l' := #[.val (.int aa), .val (.int bb), .val (.int cc), .val (.long s64), .second, .val (.long (bb % (4097 : Int32)).toInt64), .second, .unset, .unset, .unset, .unset, .unset, .unset, .unset, .unset, .unset, .unset, .unset, .unset, .unset, .unset, .unset, .unset, .unset, .unset, .unset, .unset]) rfl k_) ?_
  obtain ⟨x64, hx64⟩ : ∃ z, z = (bb % (4097 : Int32)).toInt64 := ⟨_, rfl⟩
  rw [← hx64]
  have px64 := own_x64 bb
  rw [← hx64] at px64
  refine own_by (T' := s₁) (g' := (mkF m 18 #[.val (.int aa), .val (.int bb), .val (.int cc), .val (.long s64), .second, .val (.long x64), .second, .unset, .unset, .unset, .unset, .unset, .unset, .unset, .unset, .unset, .unset, .unset, .unset, .unset, .unset, .unset, .unset, .unset, .unset, .unset, .unset] [(.int cc)])) (fun t_ k_ => XS.iloadN X0.here hx rfl (hb hby at_17) rfl k_) ?_
  refine own_by (T' := s₁) (g' := (mkF m 21 #[.val (.int aa), .val (.int bb), .val (.int cc), .val (.long s64), .second, .val (.long x64), .second, .unset, .unset, .unset, .unset, .unset, .unset, .unset, .unset, .unset, .unset, .unset, .unset, .unset, .unset, .unset, .unset, .unset, .unset, .unset, .unset] [(.int (1023 : Int32)), (.int cc)])) (fun t_ k_ => XS.sipush X0.here hx rfl (hb hby at_18) k_) ?_
  refine own_by (T' := s₁) (g' := (mkF m 22 #[.val (.int aa), .val (.int bb), .val (.int cc), .val (.long s64), .second, .val (.long x64), .second, .unset, .unset, .unset, .unset, .unset, .unset, .unset, .unset, .unset, .unset, .unset, .unset, .unset, .unset, .unset, .unset, .unset, .unset, .unset, .unset] [(.int (cc &&& (1023 : Int32)))])) (fun t_ k_ => XS.iand X0.here hx rfl (hb hby at_21) rfl k_) ?_
  refine own_by (T' := s₁) (g' := (mkF m 23 #[.val (.int aa), .val (.int bb), .val (.int cc), .val (.long s64), .second, .val (.long x64), .second, .unset, .unset, .unset, .unset, .unset, .unset, .unset, .unset, .unset, .unset, .unset, .unset, .unset, .unset, .unset, .unset, .unset, .unset, .unset, .unset] [(.long (cc &&& (1023 : Int32)).toInt64)])) (fun t_ k_ => XS.i2l X0.here hx rfl (hb hby at_22) rfl k_) ?_
  refine own_by (T' := s₁) (g' := (mkF m 25 #[.val (.int aa), .val (.int bb), .val (.int cc), .val (.long s64), .second, .val (.long x64), .second, .val (.long (cc &&& (1023 : Int32)).toInt64), .second, .unset, .unset, .unset, .unset, .unset, .unset, .unset, .unset, .unset, .unset, .unset, .unset, .unset, .unset, .unset, .unset, .unset, .unset] [])) (fun t_ k_ => XS.lstore X0.here hx rfl (hb hby at_23) rfl (l' := #[.val (.int aa), .val (.int bb), .val (.int cc), .val (.long s64), .second, .val (.long x64), .second, .val (.long (cc &&& (1023 : Int32)).toInt64), .second, .unset, .unset, .unset, .unset, .unset, .unset, .unset, .unset, .unset, .unset, .unset, .unset, .unset, .unset, .unset, .unset, .unset, .unset]) rfl k_) ?_
  obtain ⟨k64, hk64⟩ : ∃ z, z = (cc &&& (1023 : Int32)).toInt64 := ⟨_, rfl⟩
  rw [← hk64]
  have pk64 := own_k64 cc
  rw [← hk64] at pk64
  refine own_by (T' := s₁) (g' := (mkF m 26 #[.val (.int aa), .val (.int bb), .val (.int cc), .val (.long s64), .second, .val (.long x64), .second, .val (.long k64), .second, .unset, .unset, .unset, .unset, .unset, .unset, .unset, .unset, .unset, .unset, .unset, .unset, .unset, .unset, .unset, .unset, .unset, .unset] [(.long s64)])) (fun t_ k_ => XS.lloadN X0.here hx rfl (hb hby at_25) rfl k_) ?_
  refine own_by (T' := s₁) (g' := (mkF m 27 #[.val (.int aa), .val (.int bb), .val (.int cc), .val (.long s64), .second, .val (.long x64), .second, .val (.long k64), .second, .unset, .unset, .unset, .unset, .unset, .unset, .unset, .unset, .unset, .unset, .unset, .unset, .unset, .unset, .unset, .unset, .unset, .unset] [(.double (FP.l2d s64))])) (fun t_ k_ => XS.l2dS X0.here hx rfl (hb hby at_26) rfl rfl k_) ?_
  refine own_by (T' := s₁) (g' := (mkF m 29 #[.val (.int aa), .val (.int bb), .val (.int cc), .val (.long s64), .second, .val (.long x64), .second, .val (.long k64), .second, .val (.double (FP.l2d s64)), .second, .unset, .unset, .unset, .unset, .unset, .unset, .unset, .unset, .unset, .unset, .unset, .unset, .unset, .unset, .unset, .unset] [])) (fun t_ k_ => XS.dstore X0.here hx rfl (hb hby at_27) rfl (l' := #[.val (.int aa), .val (.int bb), .val (.int cc), .val (.long s64), .second, .val (.long x64), .second, .val (.long k64), .second, .val (.double (FP.l2d s64)), .second, .unset, .unset, .unset, .unset, .unset, .unset, .unset, .unset, .unset, .unset, .unset, .unset, .unset, .unset, .unset, .unset]) rfl k_) ?_
  refine own_by (T' := s₁) (g' := (mkF m 31 #[.val (.int aa), .val (.int bb), .val (.int cc), .val (.long s64), .second, .val (.long x64), .second, .val (.long k64), .second, .val (.double (FP.l2d s64)), .second, .unset, .unset, .unset, .unset, .unset, .unset, .unset, .unset, .unset, .unset, .unset, .unset, .unset, .unset, .unset, .unset] [(.long x64)])) (fun t_ k_ => XS.lload X0.here hx rfl (hb hby at_29) rfl k_) ?_
  refine own_by (T' := s₁) (g' := (mkF m 32 #[.val (.int aa), .val (.int bb), .val (.int cc), .val (.long s64), .second, .val (.long x64), .second, .val (.long k64), .second, .val (.double (FP.l2d s64)), .second, .unset, .unset, .unset, .unset, .unset, .unset, .unset, .unset, .unset, .unset, .unset, .unset, .unset, .unset, .unset, .unset] [(.double (FP.l2d x64))])) (fun t_ k_ => XS.l2dS X0.here hx rfl (hb hby at_31) rfl rfl k_) ?_
  refine own_by (T' := s₁) (g' := (mkF m 34 #[.val (.int aa), .val (.int bb), .val (.int cc), .val (.long s64), .second, .val (.long x64), .second, .val (.long k64), .second, .val (.double (FP.l2d s64)), .second, .val (.double (FP.l2d x64)), .second, .unset, .unset, .unset, .unset, .unset, .unset, .unset, .unset, .unset, .unset, .unset, .unset, .unset, .unset] [])) (fun t_ k_ => XS.dstore X0.here hx rfl (hb hby at_32) rfl (l' := #[.val (.int aa), .val (.int bb), .val (.int cc), .val (.long s64), .second, .val (.long x64), .second, .val (.long k64), .second, .val (.double (FP.l2d s64)), .second, .val (.double (FP.l2d x64)), .second, .unset, .unset, .unset, .unset, .unset, .unset, .unset, .unset, .unset, .unset, .unset, .unset, .unset, .unset]) rfl k_) ?_
  refine own_by (T' := s₁) (g' := (mkF m 36 #[.val (.int aa), .val (.int bb), .val (.int cc), .val (.long s64), .second, .val (.long x64), .second, .val (.long k64), .second, .val (.double (FP.l2d s64)), .second, .val (.double (FP.l2d x64)), .second, .unset, .unset, .unset, .unset, .unset, .unset, .unset, .unset, .unset, .unset, .unset, .unset, .unset, .unset] [(.long k64)])) (fun t_ k_ => XS.lload X0.here hx rfl (hb hby at_34) rfl k_) ?_
  refine own_by (T' := s₁) (g' := (mkF m 37 #[.val (.int aa), .val (.int bb), .val (.int cc), .val (.long s64), .second, .val (.long x64), .second, .val (.long k64), .second, .val (.double (FP.l2d s64)), .second, .val (.double (FP.l2d x64)), .second, .unset, .unset, .unset, .unset, .unset, .unset, .unset, .unset, .unset, .unset, .unset, .unset, .unset, .unset] [(.double (FP.l2d k64))])) (fun t_ k_ => XS.l2dS X0.here hx rfl (hb hby at_36) rfl rfl k_) ?_
  refine own_by (T' := s₁) (g' := (mkF m 40 #[.val (.int aa), .val (.int bb), .val (.int cc), .val (.long s64), .second, .val (.long x64), .second, .val (.long k64), .second, .val (.double (FP.l2d s64)), .second, .val (.double (FP.l2d x64)), .second, .unset, .unset, .unset, .unset, .unset, .unset, .unset, .unset, .unset, .unset, .unset, .unset, .unset, .unset] [(.double (4652218415073722368 : UInt64)), (.double (FP.l2d k64))])) (fun t_ k_ => X0.ldc2DoubleC hx hown (mvT hZ (hw _ (List.mem_of_getElem? (i := 0) rfl))) (g := (mkF m 37 #[.val (.int aa), .val (.int bb), .val (.int cc), .val (.long s64), .second, .val (.long x64), .second, .val (.long k64), .second, .val (.double (FP.l2d s64)), .second, .val (.double (FP.l2d x64)), .second, .unset, .unset, .unset, .unset, .unset, .unset, .unset, .unset, .unset, .unset, .unset, .unset, .unset, .unset] [(.double (FP.l2d k64))])) rfl (hb hby at_37) _ k_) ?_
  refine own_by (T' := s₁) (g' := (mkF m 41 #[.val (.int aa), .val (.int bb), .val (.int cc), .val (.long s64), .second, .val (.long x64), .second, .val (.long k64), .second, .val (.double (FP.l2d s64)), .second, .val (.double (FP.l2d x64)), .second, .unset, .unset, .unset, .unset, .unset, .unset, .unset, .unset, .unset, .unset, .unset, .unset, .unset, .unset] [(.double (FP.ddiv (FP.l2d k64) (4652218415073722368 : UInt64)))])) (fun t_ k_ => XS.ddivS X0.here hx rfl (hb hby at_40) rfl (own_sc_ok (own_u pk64.1 pk64.2)) rfl k_) ?_
  refine own_by (T' := s₁) (g' := (mkF m 43 #[.val (.int aa), .val (.int bb), .val (.int cc), .val (.long s64), .second, .val (.long x64), .second, .val (.long k64), .second, .val (.double (FP.l2d s64)), .second, .val (.double (FP.l2d x64)), .second, .val (.double (FP.ddiv (FP.l2d k64) (4652218415073722368 : UInt64))), .second, .unset, .unset, .unset, .unset, .unset, .unset, .unset, .unset, .unset, .unset, .unset, .unset] [])) (fun t_ k_ => XS.dstore X0.here hx rfl (hb hby at_41) rfl (l' := #[.val (.int aa), .val (.int bb), .val (.int cc), .val (.long s64), .second, .val (.long x64), .second, .val (.long k64), .second, .val (.double (FP.l2d s64)), .second, .val (.double (FP.l2d x64)), .second, .val (.double (FP.ddiv (FP.l2d k64) (4652218415073722368 : UInt64))), .second, .unset, .unset, .unset, .unset, .unset, .unset, .unset, .unset, .unset, .unset, .unset, .unset]) rfl k_) ?_
  refine own_by (T' := s₁) (g' := (mkF m 45 #[.val (.int aa), .val (.int bb), .val (.int cc), .val (.long s64), .second, .val (.long x64), .second, .val (.long k64), .second, .val (.double (FP.l2d s64)), .second, .val (.double (FP.l2d x64)), .second, .val (.double (FP.ddiv (FP.l2d k64) (4652218415073722368 : UInt64))), .second, .unset, .unset, .unset, .unset, .unset, .unset, .unset, .unset, .unset, .unset, .unset, .unset] [(.double (FP.l2d s64))])) (fun t_ k_ => XS.dload X0.here hx rfl (hb hby at_43) rfl k_) ?_
  refine own_by (T' := s₁) (g' := (mkF m 47 #[.val (.int aa), .val (.int bb), .val (.int cc), .val (.long s64), .second, .val (.long x64), .second, .val (.long k64), .second, .val (.double (FP.l2d s64)), .second, .val (.double (FP.l2d x64)), .second, .val (.double (FP.ddiv (FP.l2d k64) (4652218415073722368 : UInt64))), .second, .unset, .unset, .unset, .unset, .unset, .unset, .unset, .unset, .unset, .unset, .unset, .unset] [(.double (FP.l2d x64)), (.double (FP.l2d s64))])) (fun t_ k_ => XS.dload X0.here hx rfl (hb hby at_45) rfl k_) ?_
  refine own_by (T' := s₁) (g' := (mkF m 49 #[.val (.int aa), .val (.int bb), .val (.int cc), .val (.long s64), .second, .val (.long x64), .second, .val (.long k64), .second, .val (.double (FP.l2d s64)), .second, .val (.double (FP.l2d x64)), .second, .val (.double (FP.ddiv (FP.l2d k64) (4652218415073722368 : UInt64))), .second, .unset, .unset, .unset, .unset, .unset, .unset, .unset, .unset, .unset, .unset, .unset, .unset] [(.double (FP.ddiv (FP.l2d k64) (4652218415073722368 : UInt64))), (.double (FP.l2d x64)), (.double (FP.l2d s64))])) (fun t_ k_ => XS.dload X0.here hx rfl (hb hby at_47) rfl k_) ?_
  obtain ⟨_, T1, L1, X1, hQ1, st1⟩ := own_callS X0 hx hZ (y := (⟨"com/example/fairdice/fairdice/Variates", "insideSqueeze", "(DDD)Z"⟩ : MethodName)) hown (hw _ (List.mem_of_getElem? (i := 1) rfl)) (hw _ (List.mem_of_getElem? (i := 2) rfl)) (hw _ (List.mem_of_getElem? (i := 3) rfl)) (hw _ (List.mem_of_getElem? (i := 4) rfl)) (by decide) (argsL := [(.double (FP.l2d s64)), (.double (FP.l2d x64)), (.double (FP.ddiv (FP.l2d k64) (4652218415073722368 : UInt64)))]) (rest := []) (own_rm_isq l Z a0 hw [] (FP.l2d s64) (FP.l2d x64) ((FP.ddiv (FP.l2d k64) (4652218415073722368 : UInt64))) s64.toInt x64.toInt k64.toInt h0 n0 Z0 (FP.Core.l2d_int (own_b53 ps64)) (FP.Core.l2d_int (own_b54 px64)) (own_u pk64.1 pk64.2) ps64 px64 pk64) e0 (W := 0) (by decide) (by decide) (by decide) (by decide) (g := (mkF m 49 #[.val (.int aa), .val (.int bb), .val (.int cc), .val (.long s64), .second, .val (.long x64), .second, .val (.long k64), .second, .val (.double (FP.l2d s64)), .second, .val (.double (FP.l2d x64)), .second, .val (.double (FP.ddiv (FP.l2d k64) (4652218415073722368 : UInt64))), .second, .unset, .unset, .unset, .unset, .unset, .unset, .unset, .unset, .unset, .unset, .unset, .unset] [(.double (FP.ddiv (FP.l2d k64) (4652218415073722368 : UInt64))), (.double (FP.l2d x64)), (.double (FP.l2d s64))])) rfl (by rw [hml]; rfl) (lenOf own_pd0 rfl) rfl (by show 2 * 0 + _ ≤ _; exact Nat.le_of_eq rfl) (hb hby at_49)
  obtain ⟨rfl, Nq1, e1⟩ := hQ1
  have N1 := Fr.app N0 Nq1
  refine st1 _ ?_
  show own_Goes p e below _ T1 (mkF m 52 #[.val (.int aa), .val (.int bb), .val (.int cc), .val (.long s64), .second, .val (.long x64), .second, .val (.long k64), .second, .val (.double (FP.l2d s64)), .second, .val (.double (FP.l2d x64)), .second, .val (.double (FP.ddiv (FP.l2d k64) (4652218415073722368 : UInt64))), .second, .unset, .unset, .unset, .unset, .unset, .unset, .unset, .unset, .unset, .unset, .unset, .unset] [(.int (own_sq s64.toInt x64.toInt k64.toInt))])
  refine own_by (T' := T1) (g' := (mkF m 54 #[.val (.int aa), .val (.int bb), .val (.int cc), .val (.long s64), .second, .val (.long x64), .second, .val (.long k64), .second, .val (.double (FP.l2d s64)), .second, .val (.double (FP.l2d x64)), .second, .val (.double (FP.ddiv (FP.l2d k64) (4652218415073722368 : UInt64))), .second, .val (.int (own_sq s64.toInt x64.toInt k64.toInt)), .unset, .unset, .unset, .unset, .unset, .unset, .unset, .unset, .unset, .unset, .unset] [])) (fun t_ k_ => XS.istore X1.here hx rfl (hb hby at_52) rfl (l' := #[.val (.int aa), .val (.int bb), .val (.int cc), .val (.long s64), .second, .val (.long x64), .second, .val (.long k64), .second, .val (.double (FP.l2d s64)), .second, .val (.double (FP.l2d x64)), .second, .val (.double (FP.ddiv (FP.l2d k64) (4652218415073722368 : UInt64))), .second, .val (.int (own_sq s64.toInt x64.toInt k64.toInt)), .unset, .unset, .unset, .unset, .unset, .unset, .unset, .unset, .unset, .unset, .unset]) rfl k_) ?_
  refine own_by (T' := T1) (g' := (mkF m 56 #[.val (.int aa), .val (.int bb), .val (.int cc), .val (.long s64), .second, .val (.long x64), .second, .val (.long k64), .second, .val (.double (FP.l2d s64)), .second, .val (.double (FP.l2d x64)), .second, .val (.double (FP.ddiv (FP.l2d k64) (4652218415073722368 : UInt64))), .second, .val (.int (own_sq s64.toInt x64.toInt k64.toInt)), .unset, .unset, .unset, .unset, .unset, .unset, .unset, .unset, .unset, .unset, .unset] [(.long x64)])) (fun t_ k_ => XS.lload X1.here hx rfl (hb hby at_54) rfl k_) ?_
  refine own_by (T' := T1) (g' := (mkF m 57 #[.val (.int aa), .val (.int bb), .val (.int cc), .val (.long s64), .second, .val (.long x64), .second, .val (.long k64), .second, .val (.double (FP.l2d s64)), .second, .val (.double (FP.l2d x64)), .second, .val (.double (FP.ddiv (FP.l2d k64) (4652218415073722368 : UInt64))), .second, .val (.int (own_sq s64.toInt x64.toInt k64.toInt)), .unset, .unset, .unset, .unset, .unset, .unset, .unset, .unset, .unset, .unset, .unset] [(.long (0 : Int64)), (.long x64)])) (fun t_ k_ => XS.lconst X1.here hx rfl (hb hby at_56) k_) ?_
  refine own_by (T' := T1) (g' := (mkF m 58 #[.val (.int aa), .val (.int bb), .val (.int cc), .val (.long s64), .second, .val (.long x64), .second, .val (.long k64), .second, .val (.double (FP.l2d s64)), .second, .val (.double (FP.l2d x64)), .second, .val (.double (FP.ddiv (FP.l2d k64) (4652218415073722368 : UInt64))), .second, .val (.int (own_sq s64.toInt x64.toInt k64.toInt)), .unset, .unset, .unset, .unset, .unset, .unset, .unset, .unset, .unset, .unset, .unset] [(.int (lcmpW x64 (0 : Int64)))])) (fun t_ k_ => XS.lcmp X1.here hx rfl (hb hby at_57) rfl k_) ?_
  by_cases c58_2 : x64 < (0 : Int64)
  · skip
    refine own_by (T' := T1) (g' := (mkF m 67 #[.val (.int aa), .val (.int bb), .val (.int cc), .val (.long s64), .second, .val (.long x64), .second, .val (.long k64), .second, .val (.double (FP.l2d s64)), .second, .val (.double (FP.l2d x64)), .second, .val (.double (FP.ddiv (FP.l2d k64) (4652218415073722368 : UInt64))), .second, .val (.int (own_sq s64.toInt x64.toInt k64.toInt)), .unset, .unset, .unset, .unset, .unset, .unset, .unset, .unset, .unset, .unset, .unset] [])) (fun t_ k_ => XS.ifYes X1.here hx rfl (pc0 := 58) (pc' := 67) rfl (hb hby at_58) rfl ((if0 _ _).trans (tlt (((lw_lt _ _).mpr c58_2) : (lcmpW x64 (0 : Int64)) < (0 : Int32))).1) (by decide) (by decide) k_) ?_
    refine own_by (T' := T1) (g' := (mkF m 68 #[.val (.int aa), .val (.int bb), .val (.int cc), .val (.long s64), .second, .val (.long x64), .second, .val (.long k64), .second, .val (.double (FP.l2d s64)), .second, .val (.double (FP.l2d x64)), .second, .val (.double (FP.ddiv (FP.l2d k64) (4652218415073722368 : UInt64))), .second, .val (.int (own_sq s64.toInt x64.toInt k64.toInt)), .unset, .unset, .unset, .unset, .unset, .unset, .unset, .unset, .unset, .unset, .unset] [(.long s64)])) (fun t_ k_ => XS.lloadN X1.here hx rfl (hb hby at_67) rfl k_) ?_
    refine own_by (T' := T1) (g' := (mkF m 70 #[.val (.int aa), .val (.int bb), .val (.int cc), .val (.long s64), .second, .val (.long x64), .second, .val (.long k64), .second, .val (.double (FP.l2d s64)), .second, .val (.double (FP.l2d x64)), .second, .val (.double (FP.ddiv (FP.l2d k64) (4652218415073722368 : UInt64))), .second, .val (.int (own_sq s64.toInt x64.toInt k64.toInt)), .unset, .unset, .unset, .unset, .unset, .unset, .unset, .unset, .unset, .unset, .unset] [(.long x64), (.long s64)])) (fun t_ k_ => XS.lload X1.here hx rfl (hb hby at_68) rfl k_) ?_
    refine own_by (T' := T1) (g' := (mkF m 71 #[.val (.int aa), .val (.int bb), .val (.int cc), .val (.long s64), .second, .val (.long x64), .second, .val (.long k64), .second, .val (.double (FP.l2d s64)), .second, .val (.double (FP.l2d x64)), .second, .val (.double (FP.ddiv (FP.l2d k64) (4652218415073722368 : UInt64))), .second, .val (.int (own_sq s64.toInt x64.toInt k64.toInt)), .unset, .unset, .unset, .unset, .unset, .unset, .unset, .unset, .unset, .unset, .unset] [(.long (s64 + x64))])) (fun t_ k_ => XS.ladd X1.here hx rfl (hb hby at_70) rfl k_) ?_
    refine own_by (T' := T1) (g' := (mkF m 73 #[.val (.int aa), .val (.int bb), .val (.int cc), .val (.long s64), .second, .val (.long x64), .second, .val (.long k64), .second, .val (.double (FP.l2d s64)), .second, .val (.double (FP.l2d x64)), .second, .val (.double (FP.ddiv (FP.l2d k64) (4652218415073722368 : UInt64))), .second, .val (.int (own_sq s64.toInt x64.toInt k64.toInt)), .val (.long (s64 + x64)), .second, .unset, .unset, .unset, .unset, .unset, .unset, .unset, .unset, .unset] [])) (fun t_ k_ => XS.lstore X1.here hx rfl (hb hby at_71) rfl (l' := #[.val (.int aa), .val (.int bb), .val (.int cc), .val (.long s64), .second, .val (.long x64), .second, .val (.long k64), .second, .val (.double (FP.l2d s64)), .second, .val (.double (FP.l2d x64)), .second, .val (.double (FP.ddiv (FP.l2d k64) (4652218415073722368 : UInt64))), .second, .val (.int (own_sq s64.toInt x64.toInt k64.toInt)), .val (.long (s64 + x64)), .second, .unset, .unset, .unset, .unset, .unset, .unset, .unset, .unset, .unset]) rfl k_) ?_
    refine own_by (T' := T1) (g' := (mkF m 75 #[.val (.int aa), .val (.int bb), .val (.int cc), .val (.long s64), .second, .val (.long x64), .second, .val (.long k64), .second, .val (.double (FP.l2d s64)), .second, .val (.double (FP.l2d x64)), .second, .val (.double (FP.ddiv (FP.l2d k64) (4652218415073722368 : UInt64))), .second, .val (.int (own_sq s64.toInt x64.toInt k64.toInt)), .val (.long (s64 + x64)), .second, .unset, .unset, .unset, .unset, .unset, .unset, .unset, .unset, .unset] [(.long x64)])) (fun t_ k_ => XS.lload X1.here hx rfl (hb hby at_73) rfl k_) ?_
    refine own_by (T' := T1) (g' := (mkF m 77 #[.val (.int aa), .val (.int bb), .val (.int cc), .val (.long s64), .second, .val (.long x64), .second, .val (.long k64), .second, .val (.double (FP.l2d s64)), .second, .val (.double (FP.l2d x64)), .second, .val (.double (FP.ddiv (FP.l2d k64) (4652218415073722368 : UInt64))), .second, .val (.int (own_sq s64.toInt x64.toInt k64.toInt)), .val (.long (s64 + x64)), .second, .unset, .unset, .unset, .unset, .unset, .unset, .unset, .unset, .unset] [(.long x64), (.long x64)])) (fun t_ k_ => XS.lload X1.here hx rfl (hb hby at_75) rfl k_) ?_
    refine own_by (T' := T1) (g' := (mkF m 78 #[.val (.int aa), .val (.int bb), .val (.int cc), .val (.long s64), .second, .val (.long x64), .second, .val (.long k64), .second, .val (.double (FP.l2d s64)), .second, .val (.double (FP.l2d x64)), .second, .val (.double (FP.ddiv (FP.l2d k64) (4652218415073722368 : UInt64))), .second, .val (.int (own_sq s64.toInt x64.toInt k64.toInt)), .val (.long (s64 + x64)), .second, .unset, .unset, .unset, .unset, .unset, .unset, .unset, .unset, .unset] [(.long (x64 * x64))])) (fun t_ k_ => XS.lmul X1.here hx rfl (hb hby at_77) rfl k_) ?_
    refine own_by (T' := T1) (g' := (mkF m 80 #[.val (.int aa), .val (.int bb), .val (.int cc), .val (.long s64), .second, .val (.long x64), .second, .val (.long k64), .second, .val (.double (FP.l2d s64)), .second, .val (.double (FP.l2d x64)), .second, .val (.double (FP.ddiv (FP.l2d k64) (4652218415073722368 : UInt64))), .second, .val (.int (own_sq s64.toInt x64.toInt k64.toInt)), .val (.long (s64 + x64)), .second, .val (.long (x64 * x64)), .second, .unset, .unset, .unset, .unset, .unset, .unset, .unset] [])) (fun t_ k_ => XS.lstore X1.here hx rfl (hb hby at_78) rfl (l' := #[.val (.int aa), .val (.int bb), .val (.int cc), .val (.long s64), .second, .val (.long x64), .second, .val (.long k64), .second, .val (.double (FP.l2d s64)), .second, .val (.double (FP.l2d x64)), .second, .val (.double (FP.ddiv (FP.l2d k64) (4652218415073722368 : UInt64))), .second, .val (.int (own_sq s64.toInt x64.toInt k64.toInt)), .val (.long (s64 + x64)), .second, .val (.long (x64 * x64)), .second, .unset, .unset, .unset, .unset, .unset, .unset, .unset]) rfl k_) ?_
    refine own_by (T' := T1) (g' := (mkF m 82 #[.val (.int aa), .val (.int bb), .val (.int cc), .val (.long s64), .second, .val (.long x64), .second, .val (.long k64), .second, .val (.double (FP.l2d s64)), .second, .val (.double (FP.l2d x64)), .second, .val (.double (FP.ddiv (FP.l2d k64) (4652218415073722368 : UInt64))), .second, .val (.int (own_sq s64.toInt x64.toInt k64.toInt)), .val (.long (s64 + x64)), .second, .val (.long (x64 * x64)), .second, .unset, .unset, .unset, .unset, .unset, .unset, .unset] [(.long (x64 * x64))])) (fun t_ k_ => XS.lload X1.here hx rfl (hb hby at_80) rfl k_) ?_
    refine own_by (T' := T1) (g' := (mkF m 84 #[.val (.int aa), .val (.int bb), .val (.int cc), .val (.long s64), .second, .val (.long x64), .second, .val (.long k64), .second, .val (.double (FP.l2d s64)), .second, .val (.double (FP.l2d x64)), .second, .val (.double (FP.ddiv (FP.l2d k64) (4652218415073722368 : UInt64))), .second, .val (.int (own_sq s64.toInt x64.toInt k64.toInt)), .val (.long (s64 + x64)), .second, .val (.long (x64 * x64)), .second, .unset, .unset, .unset, .unset, .unset, .unset, .unset] [(.long (x64 * x64)), (.long (x64 * x64))])) (fun t_ k_ => XS.lload X1.here hx rfl (hb hby at_82) rfl k_) ?_
    refine own_by (T' := T1) (g' := (mkF m 85 #[.val (.int aa), .val (.int bb), .val (.int cc), .val (.long s64), .second, .val (.long x64), .second, .val (.long k64), .second, .val (.double (FP.l2d s64)), .second, .val (.double (FP.l2d x64)), .second, .val (.double (FP.ddiv (FP.l2d k64) (4652218415073722368 : UInt64))), .second, .val (.int (own_sq s64.toInt x64.toInt k64.toInt)), .val (.long (s64 + x64)), .second, .val (.long (x64 * x64)), .second, .unset, .unset, .unset, .unset, .unset, .unset, .unset] [(.long ((x64 * x64) * (x64 * x64)))])) (fun t_ k_ => XS.lmul X1.here hx rfl (hb hby at_84) rfl k_) ?_
    refine own_by (T' := T1) (g' := (mkF m 87 #[.val (.int aa), .val (.int bb), .val (.int cc), .val (.long s64), .second, .val (.long x64), .second, .val (.long k64), .second, .val (.double (FP.l2d s64)), .second, .val (.double (FP.l2d x64)), .second, .val (.double (FP.ddiv (FP.l2d k64) (4652218415073722368 : UInt64))), .second, .val (.int (own_sq s64.toInt x64.toInt k64.toInt)), .val (.long (s64 + x64)), .second, .val (.long (x64 * x64)), .second, .val (.long ((x64 * x64) * (x64 * x64))), .second, .unset, .unset, .unset, .unset, .unset] [])) (fun t_ k_ => XS.lstore X1.here hx rfl (hb hby at_85) rfl (l' := #[.val (.int aa), .val (.int bb), .val (.int cc), .val (.long s64), .second, .val (.long x64), .second, .val (.long k64), .second, .val (.double (FP.l2d s64)), .second, .val (.double (FP.l2d x64)), .second, .val (.double (FP.ddiv (FP.l2d k64) (4652218415073722368 : UInt64))), .second, .val (.int (own_sq s64.toInt x64.toInt k64.toInt)), .val (.long (s64 + x64)), .second, .val (.long (x64 * x64)), .second, .val (.long ((x64 * x64) * (x64 * x64))), .second, .unset, .unset, .unset, .unset, .unset]) rfl k_) ?_
    refine own_by (T' := T1) (g' := (mkF m 89 #[.val (.int aa), .val (.int bb), .val (.int cc), .val (.long s64), .second, .val (.long x64), .second, .val (.long k64), .second, .val (.double (FP.l2d s64)), .second, .val (.double (FP.l2d x64)), .second, .val (.double (FP.ddiv (FP.l2d k64) (4652218415073722368 : UInt64))), .second, .val (.int (own_sq s64.toInt x64.toInt k64.toInt)), .val (.long (s64 + x64)), .second, .val (.long (x64 * x64)), .second, .val (.long ((x64 * x64) * (x64 * x64))), .second, .unset, .unset, .unset, .unset, .unset] [(.long ((x64 * x64) * (x64 * x64)))])) (fun t_ k_ => XS.lload X1.here hx rfl (hb hby at_87) rfl k_) ?_
    refine own_by (T' := T1) (g' := (mkF m 92 #[.val (.int aa), .val (.int bb), .val (.int cc), .val (.long s64), .second, .val (.long x64), .second, .val (.long k64), .second, .val (.double (FP.l2d s64)), .second, .val (.double (FP.l2d x64)), .second, .val (.double (FP.ddiv (FP.l2d k64) (4652218415073722368 : UInt64))), .second, .val (.int (own_sq s64.toInt x64.toInt k64.toInt)), .val (.long (s64 + x64)), .second, .val (.long (x64 * x64)), .second, .val (.long ((x64 * x64) * (x64 * x64))), .second, .unset, .unset, .unset, .unset, .unset] [(.long (1024 : Int64)), (.long ((x64 * x64) * (x64 * x64)))])) (fun t_ k_ => X1.ldc2Long hx hown (mvT hZ (hw _ (List.mem_of_getElem? (i := 10) rfl))) (g := (mkF m 89 #[.val (.int aa), .val (.int bb), .val (.int cc), .val (.long s64), .second, .val (.long x64), .second, .val (.long k64), .second, .val (.double (FP.l2d s64)), .second, .val (.double (FP.l2d x64)), .second, .val (.double (FP.ddiv (FP.l2d k64) (4652218415073722368 : UInt64))), .second, .val (.int (own_sq s64.toInt x64.toInt k64.toInt)), .val (.long (s64 + x64)), .second, .val (.long (x64 * x64)), .second, .val (.long ((x64 * x64) * (x64 * x64))), .second, .unset, .unset, .unset, .unset, .unset] [(.long ((x64 * x64) * (x64 * x64)))])) rfl (hb hby at_89) _ k_) ?_
    refine own_by (T' := T1) (g' := (mkF m 93 #[.val (.int aa), .val (.int bb), .val (.int cc), .val (.long s64), .second, .val (.long x64), .second, .val (.long k64), .second, .val (.double (FP.l2d s64)), .second, .val (.double (FP.l2d x64)), .second, .val (.double (FP.ddiv (FP.l2d k64) (4652218415073722368 : UInt64))), .second, .val (.int (own_sq s64.toInt x64.toInt k64.toInt)), .val (.long (s64 + x64)), .second, .val (.long (x64 * x64)), .second, .val (.long ((x64 * x64) * (x64 * x64))), .second, .unset, .unset, .unset, .unset, .unset] [(.long (((x64 * x64) * (x64 * x64)) * (1024 : Int64)))])) (fun t_ k_ => XS.lmul X1.here hx rfl (hb hby at_92) rfl k_) ?_
    refine own_by (T' := T1) (g' := (mkF m 95 #[.val (.int aa), .val (.int bb), .val (.int cc), .val (.long s64), .second, .val (.long x64), .second, .val (.long k64), .second, .val (.double (FP.l2d s64)), .second, .val (.double (FP.l2d x64)), .second, .val (.double (FP.ddiv (FP.l2d k64) (4652218415073722368 : UInt64))), .second, .val (.int (own_sq s64.toInt x64.toInt k64.toInt)), .val (.long (s64 + x64)), .second, .val (.long (x64 * x64)), .second, .val (.long ((x64 * x64) * (x64 * x64))), .second, .val (.long (((x64 * x64) * (x64 * x64)) * (1024 : Int64))), .second, .unset, .unset, .unset] [])) (fun t_ k_ => XS.lstore X1.here hx rfl (hb hby at_93) rfl (l' := #[.val (.int aa), .val (.int bb), .val (.int cc), .val (.long s64), .second, .val (.long x64), .second, .val (.long k64), .second, .val (.double (FP.l2d s64)), .second, .val (.double (FP.l2d x64)), .second, .val (.double (FP.ddiv (FP.l2d k64) (4652218415073722368 : UInt64))), .second, .val (.int (own_sq s64.toInt x64.toInt k64.toInt)), .val (.long (s64 + x64)), .second, .val (.long (x64 * x64)), .second, .val (.long ((x64 * x64) * (x64 * x64))), .second, .val (.long (((x64 * x64) * (x64 * x64)) * (1024 : Int64))), .second, .unset, .unset, .unset]) rfl k_) ?_
    refine own_by (T' := T1) (g' := (mkF m 98 #[.val (.int aa), .val (.int bb), .val (.int cc), .val (.long s64), .second, .val (.long x64), .second, .val (.long k64), .second, .val (.double (FP.l2d s64)), .second, .val (.double (FP.l2d x64)), .second, .val (.double (FP.ddiv (FP.l2d k64) (4652218415073722368 : UInt64))), .second, .val (.int (own_sq s64.toInt x64.toInt k64.toInt)), .val (.long (s64 + x64)), .second, .val (.long (x64 * x64)), .second, .val (.long ((x64 * x64) * (x64 * x64))), .second, .val (.long (((x64 * x64) * (x64 * x64)) * (1024 : Int64))), .second, .unset, .unset, .unset] [(.long (12 : Int64))])) (fun t_ k_ => X1.ldc2Long hx hown (mvT hZ (hw _ (List.mem_of_getElem? (i := 11) rfl))) (g := (mkF m 95 #[.val (.int aa), .val (.int bb), .val (.int cc), .val (.long s64), .second, .val (.long x64), .second, .val (.long k64), .second, .val (.double (FP.l2d s64)), .second, .val (.double (FP.l2d x64)), .second, .val (.double (FP.ddiv (FP.l2d k64) (4652218415073722368 : UInt64))), .second, .val (.int (own_sq s64.toInt x64.toInt k64.toInt)), .val (.long (s64 + x64)), .second, .val (.long (x64 * x64)), .second, .val (.long ((x64 * x64) * (x64 * x64))), .second, .val (.long (((x64 * x64) * (x64 * x64)) * (1024 : Int64))), .second, .unset, .unset, .unset] [])) rfl (hb hby at_95) _ k_) ?_
    refine own_by (T' := T1) (g' := (mkF m 99 #[.val (.int aa), .val (.int bb), .val (.int cc), .val (.long s64), .second, .val (.long x64), .second, .val (.long k64), .second, .val (.double (FP.l2d s64)), .second, .val (.double (FP.l2d x64)), .second, .val (.double (FP.ddiv (FP.l2d k64) (4652218415073722368 : UInt64))), .second, .val (.int (own_sq s64.toInt x64.toInt k64.toInt)), .val (.long (s64 + x64)), .second, .val (.long (x64 * x64)), .second, .val (.long ((x64 * x64) * (x64 * x64))), .second, .val (.long (((x64 * x64) * (x64 * x64)) * (1024 : Int64))), .second, .unset, .unset, .unset] [(.long s64), (.long (12 : Int64))])) (fun t_ k_ => XS.lloadN X1.here hx rfl (hb hby at_98) rfl k_) ?_
    refine own_by (T' := T1) (g' := (mkF m 100 #[.val (.int aa), .val (.int bb), .val (.int cc), .val (.long s64), .second, .val (.long x64), .second, .val (.long k64), .second, .val (.double (FP.l2d s64)), .second, .val (.double (FP.l2d x64)), .second, .val (.double (FP.ddiv (FP.l2d k64) (4652218415073722368 : UInt64))), .second, .val (.int (own_sq s64.toInt x64.toInt k64.toInt)), .val (.long (s64 + x64)), .second, .val (.long (x64 * x64)), .second, .val (.long ((x64 * x64) * (x64 * x64))), .second, .val (.long (((x64 * x64) * (x64 * x64)) * (1024 : Int64))), .second, .unset, .unset, .unset] [(.long ((12 : Int64) * s64))])) (fun t_ k_ => XS.lmul X1.here hx rfl (hb hby at_99) rfl k_) ?_
    refine own_by (T' := T1) (g' := (mkF m 102 #[.val (.int aa), .val (.int bb), .val (.int cc), .val (.long s64), .second, .val (.long x64), .second, .val (.long k64), .second, .val (.double (FP.l2d s64)), .second, .val (.double (FP.l2d x64)), .second, .val (.double (FP.ddiv (FP.l2d k64) (4652218415073722368 : UInt64))), .second, .val (.int (own_sq s64.toInt x64.toInt k64.toInt)), .val (.long (s64 + x64)), .second, .val (.long (x64 * x64)), .second, .val (.long ((x64 * x64) * (x64 * x64))), .second, .val (.long (((x64 * x64) * (x64 * x64)) * (1024 : Int64))), .second, .unset, .unset, .unset] [(.long (s64 + x64)), (.long ((12 : Int64) * s64))])) (fun t_ k_ => XS.lload X1.here hx rfl (hb hby at_100) rfl k_) ?_
    refine own_by (T' := T1) (g' := (mkF m 103 #[.val (.int aa), .val (.int bb), .val (.int cc), .val (.long s64), .second, .val (.long x64), .second, .val (.long k64), .second, .val (.double (FP.l2d s64)), .second, .val (.double (FP.l2d x64)), .second, .val (.double (FP.ddiv (FP.l2d k64) (4652218415073722368 : UInt64))), .second, .val (.int (own_sq s64.toInt x64.toInt k64.toInt)), .val (.long (s64 + x64)), .second, .val (.long (x64 * x64)), .second, .val (.long ((x64 * x64) * (x64 * x64))), .second, .val (.long (((x64 * x64) * (x64 * x64)) * (1024 : Int64))), .second, .unset, .unset, .unset] [(.long (((12 : Int64) * s64) * (s64 + x64)))])) (fun t_ k_ => XS.lmul X1.here hx rfl (hb hby at_102) rfl k_) ?_
    refine own_by (T' := T1) (g' := (mkF m 105 #[.val (.int aa), .val (.int bb), .val (.int cc), .val (.long s64), .second, .val (.long x64), .second, .val (.long k64), .second, .val (.double (FP.l2d s64)), .second, .val (.double (FP.l2d x64)), .second, .val (.double (FP.ddiv (FP.l2d k64) (4652218415073722368 : UInt64))), .second, .val (.int (own_sq s64.toInt x64.toInt k64.toInt)), .val (.long (s64 + x64)), .second, .val (.long (x64 * x64)), .second, .val (.long ((x64 * x64) * (x64 * x64))), .second, .val (.long (((x64 * x64) * (x64 * x64)) * (1024 : Int64))), .second, .unset, .unset, .unset] [(.long k64), (.long (((12 : Int64) * s64) * (s64 + x64)))])) (fun t_ k_ => XS.lload X1.here hx rfl (hb hby at_103) rfl k_) ?_
    refine own_by (T' := T1) (g' := (mkF m 106 #[.val (.int aa), .val (.int bb), .val (.int cc), .val (.long s64), .second, .val (.long x64), .second, .val (.long k64), .second, .val (.double (FP.l2d s64)), .second, .val (.double (FP.l2d x64)), .second, .val (.double (FP.ddiv (FP.l2d k64) (4652218415073722368 : UInt64))), .second, .val (.int (own_sq s64.toInt x64.toInt k64.toInt)), .val (.long (s64 + x64)), .second, .val (.long (x64 * x64)), .second, .val (.long ((x64 * x64) * (x64 * x64))), .second, .val (.long (((x64 * x64) * (x64 * x64)) * (1024 : Int64))), .second, .unset, .unset, .unset] [(.long ((((12 : Int64) * s64) * (s64 + x64)) * k64))])) (fun t_ k_ => XS.lmul X1.here hx rfl (hb hby at_105) rfl k_) ?_
    refine own_by (T' := T1) (g' := (mkF m 108 #[.val (.int aa), .val (.int bb), .val (.int cc), .val (.long s64), .second, .val (.long x64), .second, .val (.long k64), .second, .val (.double (FP.l2d s64)), .second, .val (.double (FP.l2d x64)), .second, .val (.double (FP.ddiv (FP.l2d k64) (4652218415073722368 : UInt64))), .second, .val (.int (own_sq s64.toInt x64.toInt k64.toInt)), .val (.long (s64 + x64)), .second, .val (.long (x64 * x64)), .second, .val (.long ((x64 * x64) * (x64 * x64))), .second, .val (.long (((x64 * x64) * (x64 * x64)) * (1024 : Int64))), .second, .val (.long ((((12 : Int64) * s64) * (s64 + x64)) * k64)), .second, .unset] [])) (fun t_ k_ => XS.lstore X1.here hx rfl (hb hby at_106) rfl (l' := #[.val (.int aa), .val (.int bb), .val (.int cc), .val (.long s64), .second, .val (.long x64), .second, .val (.long k64), .second, .val (.double (FP.l2d s64)), .second, .val (.double (FP.l2d x64)), .second, .val (.double (FP.ddiv (FP.l2d k64) (4652218415073722368 : UInt64))), .second, .val (.int (own_sq s64.toInt x64.toInt k64.toInt)), .val (.long (s64 + x64)), .second, .val (.long (x64 * x64)), .second, .val (.long ((x64 * x64) * (x64 * x64))), .second, .val (.long (((x64 * x64) * (x64 * x64)) * (1024 : Int64))), .second, .val (.long ((((12 : Int64) * s64) * (s64 + x64)) * k64)), .second, .unset]) rfl k_) ?_
    refine own_by (T' := T1) (g' := (mkF m 110 #[.val (.int aa), .val (.int bb), .val (.int cc), .val (.long s64), .second, .val (.long x64), .second, .val (.long k64), .second, .val (.double (FP.l2d s64)), .second, .val (.double (FP.l2d x64)), .second, .val (.double (FP.ddiv (FP.l2d k64) (4652218415073722368 : UInt64))), .second, .val (.int (own_sq s64.toInt x64.toInt k64.toInt)), .val (.long (s64 + x64)), .second, .val (.long (x64 * x64)), .second, .val (.long ((x64 * x64) * (x64 * x64))), .second, .val (.long (((x64 * x64) * (x64 * x64)) * (1024 : Int64))), .second, .val (.long ((((12 : Int64) * s64) * (s64 + x64)) * k64)), .second, .unset] [(.long (((x64 * x64) * (x64 * x64)) * (1024 : Int64)))])) (fun t_ k_ => XS.lload X1.here hx rfl (hb hby at_108) rfl k_) ?_
    refine own_by (T' := T1) (g' := (mkF m 112 #[.val (.int aa), .val (.int bb), .val (.int cc), .val (.long s64), .second, .val (.long x64), .second, .val (.long k64), .second, .val (.double (FP.l2d s64)), .second, .val (.double (FP.l2d x64)), .second, .val (.double (FP.ddiv (FP.l2d k64) (4652218415073722368 : UInt64))), .second, .val (.int (own_sq s64.toInt x64.toInt k64.toInt)), .val (.long (s64 + x64)), .second, .val (.long (x64 * x64)), .second, .val (.long ((x64 * x64) * (x64 * x64))), .second, .val (.long (((x64 * x64) * (x64 * x64)) * (1024 : Int64))), .second, .val (.long ((((12 : Int64) * s64) * (s64 + x64)) * k64)), .second, .unset] [(.long ((((12 : Int64) * s64) * (s64 + x64)) * k64)), (.long (((x64 * x64) * (x64 * x64)) * (1024 : Int64)))])) (fun t_ k_ => XS.lload X1.here hx rfl (hb hby at_110) rfl k_) ?_
    refine own_by (T' := T1) (g' := (mkF m 113 #[.val (.int aa), .val (.int bb), .val (.int cc), .val (.long s64), .second, .val (.long x64), .second, .val (.long k64), .second, .val (.double (FP.l2d s64)), .second, .val (.double (FP.l2d x64)), .second, .val (.double (FP.ddiv (FP.l2d k64) (4652218415073722368 : UInt64))), .second, .val (.int (own_sq s64.toInt x64.toInt k64.toInt)), .val (.long (s64 + x64)), .second, .val (.long (x64 * x64)), .second, .val (.long ((x64 * x64) * (x64 * x64))), .second, .val (.long (((x64 * x64) * (x64 * x64)) * (1024 : Int64))), .second, .val (.long ((((12 : Int64) * s64) * (s64 + x64)) * k64)), .second, .unset] [(.int (lcmpW (((x64 * x64) * (x64 * x64)) * (1024 : Int64)) ((((12 : Int64) * s64) * (s64 + x64)) * k64)))])) (fun t_ k_ => XS.lcmp X1.here hx rfl (hb hby at_112) rfl k_) ?_
    by_cases c113_3 : (((x64 * x64) * (x64 * x64)) * (1024 : Int64)) < ((((12 : Int64) * s64) * (s64 + x64)) * k64)
    · skip
      refine own_by (T' := T1) (g' := (mkF m 116 #[.val (.int aa), .val (.int bb), .val (.int cc), .val (.long s64), .second, .val (.long x64), .second, .val (.long k64), .second, .val (.double (FP.l2d s64)), .second, .val (.double (FP.l2d x64)), .second, .val (.double (FP.ddiv (FP.l2d k64) (4652218415073722368 : UInt64))), .second, .val (.int (own_sq s64.toInt x64.toInt k64.toInt)), .val (.long (s64 + x64)), .second, .val (.long (x64 * x64)), .second, .val (.long ((x64 * x64) * (x64 * x64))), .second, .val (.long (((x64 * x64) * (x64 * x64)) * (1024 : Int64))), .second, .val (.long ((((12 : Int64) * s64) * (s64 + x64)) * k64)), .second, .unset] [])) (fun t_ k_ => XS.ifNo X1.here hx rfl (hb hby at_113) rfl ((if0 _ _).trans (tlt (((lw_lt _ _).mpr c113_3) : (lcmpW (((x64 * x64) * (x64 * x64)) * (1024 : Int64)) ((((12 : Int64) * s64) * (s64 + x64)) * k64)) < (0 : Int32))).2.1) k_) ?_
      refine own_by (T' := T1) (g' := (mkF m 117 #[.val (.int aa), .val (.int bb), .val (.int cc), .val (.long s64), .second, .val (.long x64), .second, .val (.long k64), .second, .val (.double (FP.l2d s64)), .second, .val (.double (FP.l2d x64)), .second, .val (.double (FP.ddiv (FP.l2d k64) (4652218415073722368 : UInt64))), .second, .val (.int (own_sq s64.toInt x64.toInt k64.toInt)), .val (.long (s64 + x64)), .second, .val (.long (x64 * x64)), .second, .val (.long ((x64 * x64) * (x64 * x64))), .second, .val (.long (((x64 * x64) * (x64 * x64)) * (1024 : Int64))), .second, .val (.long ((((12 : Int64) * s64) * (s64 + x64)) * k64)), .second, .unset] [(.int (1 : Int32))])) (fun t_ k_ => XS.iconst X1.here hx rfl (hb hby at_116) k_) ?_
      refine own_by (T' := T1) (g' := (mkF m 121 #[.val (.int aa), .val (.int bb), .val (.int cc), .val (.long s64), .second, .val (.long x64), .second, .val (.long k64), .second, .val (.double (FP.l2d s64)), .second, .val (.double (FP.l2d x64)), .second, .val (.double (FP.ddiv (FP.l2d k64) (4652218415073722368 : UInt64))), .second, .val (.int (own_sq s64.toInt x64.toInt k64.toInt)), .val (.long (s64 + x64)), .second, .val (.long (x64 * x64)), .second, .val (.long ((x64 * x64) * (x64 * x64))), .second, .val (.long (((x64 * x64) * (x64 * x64)) * (1024 : Int64))), .second, .val (.long ((((12 : Int64) * s64) * (s64 + x64)) * k64)), .second, .unset] [(.int (1 : Int32))])) (fun t_ k_ => XS.goto X1.here hx rfl (pc0 := 117) (pc' := 121) rfl (hb hby at_117) (by decide) (by decide) k_) ?_
      refine own_by (T' := T1) (g' := (mkF m 123 #[.val (.int aa), .val (.int bb), .val (.int cc), .val (.long s64), .second, .val (.long x64), .second, .val (.long k64), .second, .val (.double (FP.l2d s64)), .second, .val (.double (FP.l2d x64)), .second, .val (.double (FP.ddiv (FP.l2d k64) (4652218415073722368 : UInt64))), .second, .val (.int (own_sq s64.toInt x64.toInt k64.toInt)), .val (.long (s64 + x64)), .second, .val (.long (x64 * x64)), .second, .val (.long ((x64 * x64) * (x64 * x64))), .second, .val (.long (((x64 * x64) * (x64 * x64)) * (1024 : Int64))), .second, .val (.long ((((12 : Int64) * s64) * (s64 + x64)) * k64)), .second, .val (.int (1 : Int32))] [])) (fun t_ k_ => XS.istore X1.here hx rfl (hb hby at_121) rfl (l' := #[.val (.int aa), .val (.int bb), .val (.int cc), .val (.long s64), .second, .val (.long x64), .second, .val (.long k64), .second, .val (.double (FP.l2d s64)), .second, .val (.double (FP.l2d x64)), .second, .val (.double (FP.ddiv (FP.l2d k64) (4652218415073722368 : UInt64))), .second, .val (.int (own_sq s64.toInt x64.toInt k64.toInt)), .val (.long (s64 + x64)), .second, .val (.long (x64 * x64)), .second, .val (.long ((x64 * x64) * (x64 * x64))), .second, .val (.long (((x64 * x64) * (x64 * x64)) * (1024 : Int64))), .second, .val (.long ((((12 : Int64) * s64) * (s64 + x64)) * k64)), .second, .val (.int (1 : Int32))]) rfl k_) ?_
      refine own_by (T' := T1) (g' := (mkF m 125 #[.val (.int aa), .val (.int bb), .val (.int cc), .val (.long s64), .second, .val (.long x64), .second, .val (.long k64), .second, .val (.double (FP.l2d s64)), .second, .val (.double (FP.l2d x64)), .second, .val (.double (FP.ddiv (FP.l2d k64) (4652218415073722368 : UInt64))), .second, .val (.int (own_sq s64.toInt x64.toInt k64.toInt)), .val (.long (s64 + x64)), .second, .val (.long (x64 * x64)), .second, .val (.long ((x64 * x64) * (x64 * x64))), .second, .val (.long (((x64 * x64) * (x64 * x64)) * (1024 : Int64))), .second, .val (.long ((((12 : Int64) * s64) * (s64 + x64)) * k64)), .second, .val (.int (1 : Int32))] [(.int (own_sq s64.toInt x64.toInt k64.toInt))])) (fun t_ k_ => XS.iload X1.here hx rfl (hb hby at_123) rfl k_) ?_
      refine own_by (T' := T1) (g' := (mkF m 127 #[.val (.int aa), .val (.int bb), .val (.int cc), .val (.long s64), .second, .val (.long x64), .second, .val (.long k64), .second, .val (.double (FP.l2d s64)), .second, .val (.double (FP.l2d x64)), .second, .val (.double (FP.ddiv (FP.l2d k64) (4652218415073722368 : UInt64))), .second, .val (.int (own_sq s64.toInt x64.toInt k64.toInt)), .val (.long (s64 + x64)), .second, .val (.long (x64 * x64)), .second, .val (.long ((x64 * x64) * (x64 * x64))), .second, .val (.long (((x64 * x64) * (x64 * x64)) * (1024 : Int64))), .second, .val (.long ((((12 : Int64) * s64) * (s64 + x64)) * k64)), .second, .val (.int (1 : Int32))] [(.int (1 : Int32)), (.int (own_sq s64.toInt x64.toInt k64.toInt))])) (fun t_ k_ => XS.iload X1.here hx rfl (hb hby at_125) rfl k_) ?_
      refine own_by (T' := T1) (g' := (mkF m 130 #[.val (.int aa), .val (.int bb), .val (.int cc), .val (.long s64), .second, .val (.long x64), .second, .val (.long k64), .second, .val (.double (FP.l2d s64)), .second, .val (.double (FP.l2d x64)), .second, .val (.double (FP.ddiv (FP.l2d k64) (4652218415073722368 : UInt64))), .second, .val (.int (own_sq s64.toInt x64.toInt k64.toInt)), .val (.long (s64 + x64)), .second, .val (.long (x64 * x64)), .second, .val (.long ((x64 * x64) * (x64 * x64))), .second, .val (.long (((x64 * x64) * (x64 * x64)) * (1024 : Int64))), .second, .val (.long ((((12 : Int64) * s64) * (s64 + x64)) * k64)), .second, .val (.int (1 : Int32))] [])) (fun t_ k_ => XS.icmpNo X1.here hx rfl (hb hby at_127) rfl (teq ((own_sq1 ((own_long ps64 px64 pk64 (own_low2 ps64 px64 c58_2)).mp c113_3)) : (own_sq s64.toInt x64.toInt k64.toInt) = (1 : Int32))).2 k_) ?_
      refine own_by (T' := T1) (g' := (mkF m 131 #[.val (.int aa), .val (.int bb), .val (.int cc), .val (.long s64), .second, .val (.long x64), .second, .val (.long k64), .second, .val (.double (FP.l2d s64)), .second, .val (.double (FP.l2d x64)), .second, .val (.double (FP.ddiv (FP.l2d k64) (4652218415073722368 : UInt64))), .second, .val (.int (own_sq s64.toInt x64.toInt k64.toInt)), .val (.long (s64 + x64)), .second, .val (.long (x64 * x64)), .second, .val (.long ((x64 * x64) * (x64 * x64))), .second, .val (.long (((x64 * x64) * (x64 * x64)) * (1024 : Int64))), .second, .val (.long ((((12 : Int64) * s64) * (s64 + x64)) * k64)), .second, .val (.int (1 : Int32))] [(.int (1 : Int32))])) (fun t_ k_ => XS.iconst X1.here hx rfl (hb hby at_130) k_) ?_
      refine own_by (T' := T1) (g' := (mkF m 135 #[.val (.int aa), .val (.int bb), .val (.int cc), .val (.long s64), .second, .val (.long x64), .second, .val (.long k64), .second, .val (.double (FP.l2d s64)), .second, .val (.double (FP.l2d x64)), .second, .val (.double (FP.ddiv (FP.l2d k64) (4652218415073722368 : UInt64))), .second, .val (.int (own_sq s64.toInt x64.toInt k64.toInt)), .val (.long (s64 + x64)), .second, .val (.long (x64 * x64)), .second, .val (.long ((x64 * x64) * (x64 * x64))), .second, .val (.long (((x64 * x64) * (x64 * x64)) * (1024 : Int64))), .second, .val (.long ((((12 : Int64) * s64) * (s64 + x64)) * k64)), .second, .val (.int (1 : Int32))] [(.int (1 : Int32))])) (fun t_ k_ => XS.goto X1.here hx rfl (pc0 := 131) (pc' := 135) rfl (hb hby at_131) (by decide) (by decide) k_) ?_
      refine own_retN X1 hx (t := .boolean) Bd.returns hlk (by simp) (hb hby at_135) (by decide) (by decide) (v := (1 : Int32)) rfl ?_
      rw [e1]
      exact ⟨rfl, N1⟩
    · skip
      refine own_by (T' := T1) (g' := (mkF m 120 #[.val (.int aa), .val (.int bb), .val (.int cc), .val (.long s64), .second, .val (.long x64), .second, .val (.long k64), .second, .val (.double (FP.l2d s64)), .second, .val (.double (FP.l2d x64)), .second, .val (.double (FP.ddiv (FP.l2d k64) (4652218415073722368 : UInt64))), .second, .val (.int (own_sq s64.toInt x64.toInt k64.toInt)), .val (.long (s64 + x64)), .second, .val (.long (x64 * x64)), .second, .val (.long ((x64 * x64) * (x64 * x64))), .second, .val (.long (((x64 * x64) * (x64 * x64)) * (1024 : Int64))), .second, .val (.long ((((12 : Int64) * s64) * (s64 + x64)) * k64)), .second, .unset] [])) (fun t_ k_ => XS.ifYes X1.here hx rfl (pc0 := 113) (pc' := 120) rfl (hb hby at_113) rfl ((if0 _ _).trans (flt ((fun q_ => c113_3 ((lw_lt _ _).mp q_)) : ¬ ((lcmpW (((x64 * x64) * (x64 * x64)) * (1024 : Int64)) ((((12 : Int64) * s64) * (s64 + x64)) * k64)) < (0 : Int32)))).2.1) (by decide) (by decide) k_) ?_
      refine own_by (T' := T1) (g' := (mkF m 121 #[.val (.int aa), .val (.int bb), .val (.int cc), .val (.long s64), .second, .val (.long x64), .second, .val (.long k64), .second, .val (.double (FP.l2d s64)), .second, .val (.double (FP.l2d x64)), .second, .val (.double (FP.ddiv (FP.l2d k64) (4652218415073722368 : UInt64))), .second, .val (.int (own_sq s64.toInt x64.toInt k64.toInt)), .val (.long (s64 + x64)), .second, .val (.long (x64 * x64)), .second, .val (.long ((x64 * x64) * (x64 * x64))), .second, .val (.long (((x64 * x64) * (x64 * x64)) * (1024 : Int64))), .second, .val (.long ((((12 : Int64) * s64) * (s64 + x64)) * k64)), .second, .unset] [(.int (0 : Int32))])) (fun t_ k_ => XS.iconst X1.here hx rfl (hb hby at_120) k_) ?_
      refine own_by (T' := T1) (g' := (mkF m 123 #[.val (.int aa), .val (.int bb), .val (.int cc), .val (.long s64), .second, .val (.long x64), .second, .val (.long k64), .second, .val (.double (FP.l2d s64)), .second, .val (.double (FP.l2d x64)), .second, .val (.double (FP.ddiv (FP.l2d k64) (4652218415073722368 : UInt64))), .second, .val (.int (own_sq s64.toInt x64.toInt k64.toInt)), .val (.long (s64 + x64)), .second, .val (.long (x64 * x64)), .second, .val (.long ((x64 * x64) * (x64 * x64))), .second, .val (.long (((x64 * x64) * (x64 * x64)) * (1024 : Int64))), .second, .val (.long ((((12 : Int64) * s64) * (s64 + x64)) * k64)), .second, .val (.int (0 : Int32))] [])) (fun t_ k_ => XS.istore X1.here hx rfl (hb hby at_121) rfl (l' := #[.val (.int aa), .val (.int bb), .val (.int cc), .val (.long s64), .second, .val (.long x64), .second, .val (.long k64), .second, .val (.double (FP.l2d s64)), .second, .val (.double (FP.l2d x64)), .second, .val (.double (FP.ddiv (FP.l2d k64) (4652218415073722368 : UInt64))), .second, .val (.int (own_sq s64.toInt x64.toInt k64.toInt)), .val (.long (s64 + x64)), .second, .val (.long (x64 * x64)), .second, .val (.long ((x64 * x64) * (x64 * x64))), .second, .val (.long (((x64 * x64) * (x64 * x64)) * (1024 : Int64))), .second, .val (.long ((((12 : Int64) * s64) * (s64 + x64)) * k64)), .second, .val (.int (0 : Int32))]) rfl k_) ?_
      refine own_by (T' := T1) (g' := (mkF m 125 #[.val (.int aa), .val (.int bb), .val (.int cc), .val (.long s64), .second, .val (.long x64), .second, .val (.long k64), .second, .val (.double (FP.l2d s64)), .second, .val (.double (FP.l2d x64)), .second, .val (.double (FP.ddiv (FP.l2d k64) (4652218415073722368 : UInt64))), .second, .val (.int (own_sq s64.toInt x64.toInt k64.toInt)), .val (.long (s64 + x64)), .second, .val (.long (x64 * x64)), .second, .val (.long ((x64 * x64) * (x64 * x64))), .second, .val (.long (((x64 * x64) * (x64 * x64)) * (1024 : Int64))), .second, .val (.long ((((12 : Int64) * s64) * (s64 + x64)) * k64)), .second, .val (.int (0 : Int32))] [(.int (own_sq s64.toInt x64.toInt k64.toInt))])) (fun t_ k_ => XS.iload X1.here hx rfl (hb hby at_123) rfl k_) ?_
      refine own_by (T' := T1) (g' := (mkF m 127 #[.val (.int aa), .val (.int bb), .val (.int cc), .val (.long s64), .second, .val (.long x64), .second, .val (.long k64), .second, .val (.double (FP.l2d s64)), .second, .val (.double (FP.l2d x64)), .second, .val (.double (FP.ddiv (FP.l2d k64) (4652218415073722368 : UInt64))), .second, .val (.int (own_sq s64.toInt x64.toInt k64.toInt)), .val (.long (s64 + x64)), .second, .val (.long (x64 * x64)), .second, .val (.long ((x64 * x64) * (x64 * x64))), .second, .val (.long (((x64 * x64) * (x64 * x64)) * (1024 : Int64))), .second, .val (.long ((((12 : Int64) * s64) * (s64 + x64)) * k64)), .second, .val (.int (0 : Int32))] [(.int (0 : Int32)), (.int (own_sq s64.toInt x64.toInt k64.toInt))])) (fun t_ k_ => XS.iload X1.here hx rfl (hb hby at_125) rfl k_) ?_
      refine own_by (T' := T1) (g' := (mkF m 130 #[.val (.int aa), .val (.int bb), .val (.int cc), .val (.long s64), .second, .val (.long x64), .second, .val (.long k64), .second, .val (.double (FP.l2d s64)), .second, .val (.double (FP.l2d x64)), .second, .val (.double (FP.ddiv (FP.l2d k64) (4652218415073722368 : UInt64))), .second, .val (.int (own_sq s64.toInt x64.toInt k64.toInt)), .val (.long (s64 + x64)), .second, .val (.long (x64 * x64)), .second, .val (.long ((x64 * x64) * (x64 * x64))), .second, .val (.long (((x64 * x64) * (x64 * x64)) * (1024 : Int64))), .second, .val (.long ((((12 : Int64) * s64) * (s64 + x64)) * k64)), .second, .val (.int (0 : Int32))] [])) (fun t_ k_ => XS.icmpNo X1.here hx rfl (hb hby at_127) rfl (teq ((own_sq0 (fun q_ => c113_3 ((own_long ps64 px64 pk64 (own_low2 ps64 px64 c58_2)).mpr q_))) : (own_sq s64.toInt x64.toInt k64.toInt) = (0 : Int32))).2 k_) ?_
      refine own_by (T' := T1) (g' := (mkF m 131 #[.val (.int aa), .val (.int bb), .val (.int cc), .val (.long s64), .second, .val (.long x64), .second, .val (.long k64), .second, .val (.double (FP.l2d s64)), .second, .val (.double (FP.l2d x64)), .second, .val (.double (FP.ddiv (FP.l2d k64) (4652218415073722368 : UInt64))), .second, .val (.int (own_sq s64.toInt x64.toInt k64.toInt)), .val (.long (s64 + x64)), .second, .val (.long (x64 * x64)), .second, .val (.long ((x64 * x64) * (x64 * x64))), .second, .val (.long (((x64 * x64) * (x64 * x64)) * (1024 : Int64))), .second, .val (.long ((((12 : Int64) * s64) * (s64 + x64)) * k64)), .second, .val (.int (0 : Int32))] [(.int (1 : Int32))])) (fun t_ k_ => XS.iconst X1.here hx rfl (hb hby at_130) k_) ?_
      refine own_by (T' := T1) (g' := (mkF m 135 #[.val (.int aa), .val (.int bb), .val (.int cc), .val (.long s64), .second, .val (.long x64), .second, .val (.long k64), .second, .val (.double (FP.l2d s64)), .second, .val (.double (FP.l2d x64)), .second, .val (.double (FP.ddiv (FP.l2d k64) (4652218415073722368 : UInt64))), .second, .val (.int (own_sq s64.toInt x64.toInt k64.toInt)), .val (.long (s64 + x64)), .second, .val (.long (x64 * x64)), .second, .val (.long ((x64 * x64) * (x64 * x64))), .second, .val (.long (((x64 * x64) * (x64 * x64)) * (1024 : Int64))), .second, .val (.long ((((12 : Int64) * s64) * (s64 + x64)) * k64)), .second, .val (.int (0 : Int32))] [(.int (1 : Int32))])) (fun t_ k_ => XS.goto X1.here hx rfl (pc0 := 131) (pc' := 135) rfl (hb hby at_131) (by decide) (by decide) k_) ?_
      refine own_retN X1 hx (t := .boolean) Bd.returns hlk (by simp) (hb hby at_135) (by decide) (by decide) (v := (1 : Int32)) rfl ?_
      rw [e1]
      exact ⟨rfl, N1⟩
  · skip
    refine own_by (T' := T1) (g' := (mkF m 61 #[.val (.int aa), .val (.int bb), .val (.int cc), .val (.long s64), .second, .val (.long x64), .second, .val (.long k64), .second, .val (.double (FP.l2d s64)), .second, .val (.double (FP.l2d x64)), .second, .val (.double (FP.ddiv (FP.l2d k64) (4652218415073722368 : UInt64))), .second, .val (.int (own_sq s64.toInt x64.toInt k64.toInt)), .unset, .unset, .unset, .unset, .unset, .unset, .unset, .unset, .unset, .unset, .unset] [])) (fun t_ k_ => XS.ifNo X1.here hx rfl (hb hby at_58) rfl ((if0 _ _).trans (flt ((fun q_ => c58_2 ((lw_lt _ _).mp q_)) : ¬ ((lcmpW x64 (0 : Int64)) < (0 : Int32)))).1) k_) ?_
    refine own_by (T' := T1) (g' := (mkF m 62 #[.val (.int aa), .val (.int bb), .val (.int cc), .val (.long s64), .second, .val (.long x64), .second, .val (.long k64), .second, .val (.double (FP.l2d s64)), .second, .val (.double (FP.l2d x64)), .second, .val (.double (FP.ddiv (FP.l2d k64) (4652218415073722368 : UInt64))), .second, .val (.int (own_sq s64.toInt x64.toInt k64.toInt)), .unset, .unset, .unset, .unset, .unset, .unset, .unset, .unset, .unset, .unset, .unset] [(.long s64)])) (fun t_ k_ => XS.lloadN X1.here hx rfl (hb hby at_61) rfl k_) ?_
    refine own_by (T' := T1) (g' := (mkF m 64 #[.val (.int aa), .val (.int bb), .val (.int cc), .val (.long s64), .second, .val (.long x64), .second, .val (.long k64), .second, .val (.double (FP.l2d s64)), .second, .val (.double (FP.l2d x64)), .second, .val (.double (FP.ddiv (FP.l2d k64) (4652218415073722368 : UInt64))), .second, .val (.int (own_sq s64.toInt x64.toInt k64.toInt)), .val (.long s64), .second, .unset, .unset, .unset, .unset, .unset, .unset, .unset, .unset, .unset] [])) (fun t_ k_ => XS.lstore X1.here hx rfl (hb hby at_62) rfl (l' := #[.val (.int aa), .val (.int bb), .val (.int cc), .val (.long s64), .second, .val (.long x64), .second, .val (.long k64), .second, .val (.double (FP.l2d s64)), .second, .val (.double (FP.l2d x64)), .second, .val (.double (FP.ddiv (FP.l2d k64) (4652218415073722368 : UInt64))), .second, .val (.int (own_sq s64.toInt x64.toInt k64.toInt)), .val (.long s64), .second, .unset, .unset, .unset, .unset, .unset, .unset, .unset, .unset, .unset]) rfl k_) ?_
    refine own_by (T' := T1) (g' := (mkF m 73 #[.val (.int aa), .val (.int bb), .val (.int cc), .val (.long s64), .second, .val (.long x64), .second, .val (.long k64), .second, .val (.double (FP.l2d s64)), .second, .val (.double (FP.l2d x64)), .second, .val (.double (FP.ddiv (FP.l2d k64) (4652218415073722368 : UInt64))), .second, .val (.int (own_sq s64.toInt x64.toInt k64.toInt)), .val (.long s64), .second, .unset, .unset, .unset, .unset, .unset, .unset, .unset, .unset, .unset] [])) (fun t_ k_ => XS.goto X1.here hx rfl (pc0 := 64) (pc' := 73) rfl (hb hby at_64) (by decide) (by decide) k_) ?_
    refine own_by (T' := T1) (g' := (mkF m 75 #[.val (.int aa), .val (.int bb), .val (.int cc), .val (.long s64), .second, .val (.long x64), .second, .val (.long k64), .second, .val (.double (FP.l2d s64)), .second, .val (.double (FP.l2d x64)), .second, .val (.double (FP.ddiv (FP.l2d k64) (4652218415073722368 : UInt64))), .second, .val (.int (own_sq s64.toInt x64.toInt k64.toInt)), .val (.long s64), .second, .unset, .unset, .unset, .unset, .unset, .unset, .unset, .unset, .unset] [(.long x64)])) (fun t_ k_ => XS.lload X1.here hx rfl (hb hby at_73) rfl k_) ?_
    refine own_by (T' := T1) (g' := (mkF m 77 #[.val (.int aa), .val (.int bb), .val (.int cc), .val (.long s64), .second, .val (.long x64), .second, .val (.long k64), .second, .val (.double (FP.l2d s64)), .second, .val (.double (FP.l2d x64)), .second, .val (.double (FP.ddiv (FP.l2d k64) (4652218415073722368 : UInt64))), .second, .val (.int (own_sq s64.toInt x64.toInt k64.toInt)), .val (.long s64), .second, .unset, .unset, .unset, .unset, .unset, .unset, .unset, .unset, .unset] [(.long x64), (.long x64)])) (fun t_ k_ => XS.lload X1.here hx rfl (hb hby at_75) rfl k_) ?_
    refine own_by (T' := T1) (g' := (mkF m 78 #[.val (.int aa), .val (.int bb), .val (.int cc), .val (.long s64), .second, .val (.long x64), .second, .val (.long k64), .second, .val (.double (FP.l2d s64)), .second, .val (.double (FP.l2d x64)), .second, .val (.double (FP.ddiv (FP.l2d k64) (4652218415073722368 : UInt64))), .second, .val (.int (own_sq s64.toInt x64.toInt k64.toInt)), .val (.long s64), .second, .unset, .unset, .unset, .unset, .unset, .unset, .unset, .unset, .unset] [(.long (x64 * x64))])) (fun t_ k_ => XS.lmul X1.here hx rfl (hb hby at_77) rfl k_) ?_
    refine own_by (T' := T1) (g' := (mkF m 80 #[.val (.int aa), .val (.int bb), .val (.int cc), .val (.long s64), .second, .val (.long x64), .second, .val (.long k64), .second, .val (.double (FP.l2d s64)), .second, .val (.double (FP.l2d x64)), .second, .val (.double (FP.ddiv (FP.l2d k64) (4652218415073722368 : UInt64))), .second, .val (.int (own_sq s64.toInt x64.toInt k64.toInt)), .val (.long s64), .second, .val (.long (x64 * x64)), .second, .unset, .unset, .unset, .unset, .unset, .unset, .unset] [])) (fun t_ k_ => XS.lstore X1.here hx rfl (hb hby at_78) rfl (l' := #[.val (.int aa), .val (.int bb), .val (.int cc), .val (.long s64), .second, .val (.long x64), .second, .val (.long k64), .second, .val (.double (FP.l2d s64)), .second, .val (.double (FP.l2d x64)), .second, .val (.double (FP.ddiv (FP.l2d k64) (4652218415073722368 : UInt64))), .second, .val (.int (own_sq s64.toInt x64.toInt k64.toInt)), .val (.long s64), .second, .val (.long (x64 * x64)), .second, .unset, .unset, .unset, .unset, .unset, .unset, .unset]) rfl k_) ?_
    refine own_by (T' := T1) (g' := (mkF m 82 #[.val (.int aa), .val (.int bb), .val (.int cc), .val (.long s64), .second, .val (.long x64), .second, .val (.long k64), .second, .val (.double (FP.l2d s64)), .second, .val (.double (FP.l2d x64)), .second, .val (.double (FP.ddiv (FP.l2d k64) (4652218415073722368 : UInt64))), .second, .val (.int (own_sq s64.toInt x64.toInt k64.toInt)), .val (.long s64), .second, .val (.long (x64 * x64)), .second, .unset, .unset, .unset, .unset, .unset, .unset, .unset] [(.long (x64 * x64))])) (fun t_ k_ => XS.lload X1.here hx rfl (hb hby at_80) rfl k_) ?_
    refine own_by (T' := T1) (g' := (mkF m 84 #[.val (.int aa), .val (.int bb), .val (.int cc), .val (.long s64), .second, .val (.long x64), .second, .val (.long k64), .second, .val (.double (FP.l2d s64)), .second, .val (.double (FP.l2d x64)), .second, .val (.double (FP.ddiv (FP.l2d k64) (4652218415073722368 : UInt64))), .second, .val (.int (own_sq s64.toInt x64.toInt k64.toInt)), .val (.long s64), .second, .val (.long (x64 * x64)), .second, .unset, .unset, .unset, .unset, .unset, .unset, .unset] [(.long (x64 * x64)), (.long (x64 * x64))])) (fun t_ k_ => XS.lload X1.here hx rfl (hb hby at_82) rfl k_) ?_
    refine own_by (T' := T1) (g' := (mkF m 85 #[.val (.int aa), .val (.int bb), .val (.int cc), .val (.long s64), .second, .val (.long x64), .second, .val (.long k64), .second, .val (.double (FP.l2d s64)), .second, .val (.double (FP.l2d x64)), .second, .val (.double (FP.ddiv (FP.l2d k64) (4652218415073722368 : UInt64))), .second, .val (.int (own_sq s64.toInt x64.toInt k64.toInt)), .val (.long s64), .second, .val (.long (x64 * x64)), .second, .unset, .unset, .unset, .unset, .unset, .unset, .unset] [(.long ((x64 * x64) * (x64 * x64)))])) (fun t_ k_ => XS.lmul X1.here hx rfl (hb hby at_84) rfl k_) ?_
    refine own_by (T' := T1) (g' := (mkF m 87 #[.val (.int aa), .val (.int bb), .val (.int cc), .val (.long s64), .second, .val (.long x64), .second, .val (.long k64), .second, .val (.double (FP.l2d s64)), .second, .val (.double (FP.l2d x64)), .second, .val (.double (FP.ddiv (FP.l2d k64) (4652218415073722368 : UInt64))), .second, .val (.int (own_sq s64.toInt x64.toInt k64.toInt)), .val (.long s64), .second, .val (.long (x64 * x64)), .second, .val (.long ((x64 * x64) * (x64 * x64))), .second, .unset, .unset, .unset, .unset, .unset] [])) (fun t_ k_ => XS.lstore X1.here hx rfl (hb hby at_85) rfl (l' := #[.val (.int aa), .val (.int bb), .val (.int cc), .val (.long s64), .second, .val (.long x64), .second, .val (.long k64), .second, .val (.double (FP.l2d s64)), .second, .val (.double (FP.l2d x64)), .second, .val (.double (FP.ddiv (FP.l2d k64) (4652218415073722368 : UInt64))), .second, .val (.int (own_sq s64.toInt x64.toInt k64.toInt)), .val (.long s64), .second, .val (.long (x64 * x64)), .second, .val (.long ((x64 * x64) * (x64 * x64))), .second, .unset, .unset, .unset, .unset, .unset]) rfl k_) ?_
    refine own_by (T' := T1) (g' := (mkF m 89 #[.val (.int aa), .val (.int bb), .val (.int cc), .val (.long s64), .second, .val (.long x64), .second, .val (.long k64), .second, .val (.double (FP.l2d s64)), .second, .val (.double (FP.l2d x64)), .second, .val (.double (FP.ddiv (FP.l2d k64) (4652218415073722368 : UInt64))), .second, .val (.int (own_sq s64.toInt x64.toInt k64.toInt)), .val (.long s64), .second, .val (.long (x64 * x64)), .second, .val (.long ((x64 * x64) * (x64 * x64))), .second, .unset, .unset, .unset, .unset, .unset] [(.long ((x64 * x64) * (x64 * x64)))])) (fun t_ k_ => XS.lload X1.here hx rfl (hb hby at_87) rfl k_) ?_
    refine own_by (T' := T1) (g' := (mkF m 92 #[.val (.int aa), .val (.int bb), .val (.int cc), .val (.long s64), .second, .val (.long x64), .second, .val (.long k64), .second, .val (.double (FP.l2d s64)), .second, .val (.double (FP.l2d x64)), .second, .val (.double (FP.ddiv (FP.l2d k64) (4652218415073722368 : UInt64))), .second, .val (.int (own_sq s64.toInt x64.toInt k64.toInt)), .val (.long s64), .second, .val (.long (x64 * x64)), .second, .val (.long ((x64 * x64) * (x64 * x64))), .second, .unset, .unset, .unset, .unset, .unset] [(.long (1024 : Int64)), (.long ((x64 * x64) * (x64 * x64)))])) (fun t_ k_ => X1.ldc2Long hx hown (mvT hZ (hw _ (List.mem_of_getElem? (i := 10) rfl))) (g := (mkF m 89 #[.val (.int aa), .val (.int bb), .val (.int cc), .val (.long s64), .second, .val (.long x64), .second, .val (.long k64), .second, .val (.double (FP.l2d s64)), .second, .val (.double (FP.l2d x64)), .second, .val (.double (FP.ddiv (FP.l2d k64) (4652218415073722368 : UInt64))), .second, .val (.int (own_sq s64.toInt x64.toInt k64.toInt)), .val (.long s64), .second, .val (.long (x64 * x64)), .second, .val (.long ((x64 * x64) * (x64 * x64))), .second, .unset, .unset, .unset, .unset, .unset] [(.long ((x64 * x64) * (x64 * x64)))])) rfl (hb hby at_89) _ k_) ?_
    refine own_by (T' := T1) (g' := (mkF m 93 #[.val (.int aa), .val (.int bb), .val (.int cc), .val (.long s64), .second, .val (.long x64), .second, .val (.long k64), .second, .val (.double (FP.l2d s64)), .second, .val (.double (FP.l2d x64)), .second, .val (.double (FP.ddiv (FP.l2d k64) (4652218415073722368 : UInt64))), .second, .val (.int (own_sq s64.toInt x64.toInt k64.toInt)), .val (.long s64), .second, .val (.long (x64 * x64)), .second, .val (.long ((x64 * x64) * (x64 * x64))), .second, .unset, .unset, .unset, .unset, .unset] [(.long (((x64 * x64) * (x64 * x64)) * (1024 : Int64)))])) (fun t_ k_ => XS.lmul X1.here hx rfl (hb hby at_92) rfl k_) ?_
    refine own_by (T' := T1) (g' := (mkF m 95 #[.val (.int aa), .val (.int bb), .val (.int cc), .val (.long s64), .second, .val (.long x64), .second, .val (.long k64), .second, .val (.double (FP.l2d s64)), .second, .val (.double (FP.l2d x64)), .second, .val (.double (FP.ddiv (FP.l2d k64) (4652218415073722368 : UInt64))), .second, .val (.int (own_sq s64.toInt x64.toInt k64.toInt)), .val (.long s64), .second, .val (.long (x64 * x64)), .second, .val (.long ((x64 * x64) * (x64 * x64))), .second, .val (.long (((x64 * x64) * (x64 * x64)) * (1024 : Int64))), .second, .unset, .unset, .unset] [])) (fun t_ k_ => XS.lstore X1.here hx rfl (hb hby at_93) rfl (l' := #[.val (.int aa), .val (.int bb), .val (.int cc), .val (.long s64), .second, .val (.long x64), .second, .val (.long k64), .second, .val (.double (FP.l2d s64)), .second, .val (.double (FP.l2d x64)), .second, .val (.double (FP.ddiv (FP.l2d k64) (4652218415073722368 : UInt64))), .second, .val (.int (own_sq s64.toInt x64.toInt k64.toInt)), .val (.long s64), .second, .val (.long (x64 * x64)), .second, .val (.long ((x64 * x64) * (x64 * x64))), .second, .val (.long (((x64 * x64) * (x64 * x64)) * (1024 : Int64))), .second, .unset, .unset, .unset]) rfl k_) ?_
    refine own_by (T' := T1) (g' := (mkF m 98 #[.val (.int aa), .val (.int bb), .val (.int cc), .val (.long s64), .second, .val (.long x64), .second, .val (.long k64), .second, .val (.double (FP.l2d s64)), .second, .val (.double (FP.l2d x64)), .second, .val (.double (FP.ddiv (FP.l2d k64) (4652218415073722368 : UInt64))), .second, .val (.int (own_sq s64.toInt x64.toInt k64.toInt)), .val (.long s64), .second, .val (.long (x64 * x64)), .second, .val (.long ((x64 * x64) * (x64 * x64))), .second, .val (.long (((x64 * x64) * (x64 * x64)) * (1024 : Int64))), .second, .unset, .unset, .unset] [(.long (12 : Int64))])) (fun t_ k_ => X1.ldc2Long hx hown (mvT hZ (hw _ (List.mem_of_getElem? (i := 11) rfl))) (g := (mkF m 95 #[.val (.int aa), .val (.int bb), .val (.int cc), .val (.long s64), .second, .val (.long x64), .second, .val (.long k64), .second, .val (.double (FP.l2d s64)), .second, .val (.double (FP.l2d x64)), .second, .val (.double (FP.ddiv (FP.l2d k64) (4652218415073722368 : UInt64))), .second, .val (.int (own_sq s64.toInt x64.toInt k64.toInt)), .val (.long s64), .second, .val (.long (x64 * x64)), .second, .val (.long ((x64 * x64) * (x64 * x64))), .second, .val (.long (((x64 * x64) * (x64 * x64)) * (1024 : Int64))), .second, .unset, .unset, .unset] [])) rfl (hb hby at_95) _ k_) ?_
    refine own_by (T' := T1) (g' := (mkF m 99 #[.val (.int aa), .val (.int bb), .val (.int cc), .val (.long s64), .second, .val (.long x64), .second, .val (.long k64), .second, .val (.double (FP.l2d s64)), .second, .val (.double (FP.l2d x64)), .second, .val (.double (FP.ddiv (FP.l2d k64) (4652218415073722368 : UInt64))), .second, .val (.int (own_sq s64.toInt x64.toInt k64.toInt)), .val (.long s64), .second, .val (.long (x64 * x64)), .second, .val (.long ((x64 * x64) * (x64 * x64))), .second, .val (.long (((x64 * x64) * (x64 * x64)) * (1024 : Int64))), .second, .unset, .unset, .unset] [(.long s64), (.long (12 : Int64))])) (fun t_ k_ => XS.lloadN X1.here hx rfl (hb hby at_98) rfl k_) ?_
    refine own_by (T' := T1) (g' := (mkF m 100 #[.val (.int aa), .val (.int bb), .val (.int cc), .val (.long s64), .second, .val (.long x64), .second, .val (.long k64), .second, .val (.double (FP.l2d s64)), .second, .val (.double (FP.l2d x64)), .second, .val (.double (FP.ddiv (FP.l2d k64) (4652218415073722368 : UInt64))), .second, .val (.int (own_sq s64.toInt x64.toInt k64.toInt)), .val (.long s64), .second, .val (.long (x64 * x64)), .second, .val (.long ((x64 * x64) * (x64 * x64))), .second, .val (.long (((x64 * x64) * (x64 * x64)) * (1024 : Int64))), .second, .unset, .unset, .unset] [(.long ((12 : Int64) * s64))])) (fun t_ k_ => XS.lmul X1.here hx rfl (hb hby at_99) rfl k_) ?_
    refine own_by (T' := T1) (g' := (mkF m 102 #[.val (.int aa), .val (.int bb), .val (.int cc), .val (.long s64), .second, .val (.long x64), .second, .val (.long k64), .second, .val (.double (FP.l2d s64)), .second, .val (.double (FP.l2d x64)), .second, .val (.double (FP.ddiv (FP.l2d k64) (4652218415073722368 : UInt64))), .second, .val (.int (own_sq s64.toInt x64.toInt k64.toInt)), .val (.long s64), .second, .val (.long (x64 * x64)), .second, .val (.long ((x64 * x64) * (x64 * x64))), .second, .val (.long (((x64 * x64) * (x64 * x64)) * (1024 : Int64))), .second, .unset, .unset, .unset] [(.long s64), (.long ((12 : Int64) * s64))])) (fun t_ k_ => XS.lload X1.here hx rfl (hb hby at_100) rfl k_) ?_
    refine own_by (T' := T1) (g' := (mkF m 103 #[.val (.int aa), .val (.int bb), .val (.int cc), .val (.long s64), .second, .val (.long x64), .second, .val (.long k64), .second, .val (.double (FP.l2d s64)), .second, .val (.double (FP.l2d x64)), .second, .val (.double (FP.ddiv (FP.l2d k64) (4652218415073722368 : UInt64))), .second, .val (.int (own_sq s64.toInt x64.toInt k64.toInt)), .val (.long s64), .second, .val (.long (x64 * x64)), .second, .val (.long ((x64 * x64) * (x64 * x64))), .second, .val (.long (((x64 * x64) * (x64 * x64)) * (1024 : Int64))), .second, .unset, .unset, .unset] [(.long (((12 : Int64) * s64) * s64))])) (fun t_ k_ => XS.lmul X1.here hx rfl (hb hby at_102) rfl k_) ?_
    refine own_by (T' := T1) (g' := (mkF m 105 #[.val (.int aa), .val (.int bb), .val (.int cc), .val (.long s64), .second, .val (.long x64), .second, .val (.long k64), .second, .val (.double (FP.l2d s64)), .second, .val (.double (FP.l2d x64)), .second, .val (.double (FP.ddiv (FP.l2d k64) (4652218415073722368 : UInt64))), .second, .val (.int (own_sq s64.toInt x64.toInt k64.toInt)), .val (.long s64), .second, .val (.long (x64 * x64)), .second, .val (.long ((x64 * x64) * (x64 * x64))), .second, .val (.long (((x64 * x64) * (x64 * x64)) * (1024 : Int64))), .second, .unset, .unset, .unset] [(.long k64), (.long (((12 : Int64) * s64) * s64))])) (fun t_ k_ => XS.lload X1.here hx rfl (hb hby at_103) rfl k_) ?_
    refine own_by (T' := T1) (g' := (mkF m 106 #[.val (.int aa), .val (.int bb), .val (.int cc), .val (.long s64), .second, .val (.long x64), .second, .val (.long k64), .second, .val (.double (FP.l2d s64)), .second, .val (.double (FP.l2d x64)), .second, .val (.double (FP.ddiv (FP.l2d k64) (4652218415073722368 : UInt64))), .second, .val (.int (own_sq s64.toInt x64.toInt k64.toInt)), .val (.long s64), .second, .val (.long (x64 * x64)), .second, .val (.long ((x64 * x64) * (x64 * x64))), .second, .val (.long (((x64 * x64) * (x64 * x64)) * (1024 : Int64))), .second, .unset, .unset, .unset] [(.long ((((12 : Int64) * s64) * s64) * k64))])) (fun t_ k_ => XS.lmul X1.here hx rfl (hb hby at_105) rfl k_) ?_
    refine own_by (T' := T1) (g' := (mkF m 108 #[.val (.int aa), .val (.int bb), .val (.int cc), .val (.long s64), .second, .val (.long x64), .second, .val (.long k64), .second, .val (.double (FP.l2d s64)), .second, .val (.double (FP.l2d x64)), .second, .val (.double (FP.ddiv (FP.l2d k64) (4652218415073722368 : UInt64))), .second, .val (.int (own_sq s64.toInt x64.toInt k64.toInt)), .val (.long s64), .second, .val (.long (x64 * x64)), .second, .val (.long ((x64 * x64) * (x64 * x64))), .second, .val (.long (((x64 * x64) * (x64 * x64)) * (1024 : Int64))), .second, .val (.long ((((12 : Int64) * s64) * s64) * k64)), .second, .unset] [])) (fun t_ k_ => XS.lstore X1.here hx rfl (hb hby at_106) rfl (l' := #[.val (.int aa), .val (.int bb), .val (.int cc), .val (.long s64), .second, .val (.long x64), .second, .val (.long k64), .second, .val (.double (FP.l2d s64)), .second, .val (.double (FP.l2d x64)), .second, .val (.double (FP.ddiv (FP.l2d k64) (4652218415073722368 : UInt64))), .second, .val (.int (own_sq s64.toInt x64.toInt k64.toInt)), .val (.long s64), .second, .val (.long (x64 * x64)), .second, .val (.long ((x64 * x64) * (x64 * x64))), .second, .val (.long (((x64 * x64) * (x64 * x64)) * (1024 : Int64))), .second, .val (.long ((((12 : Int64) * s64) * s64) * k64)), .second, .unset]) rfl k_) ?_
    refine own_by (T' := T1) (g' := (mkF m 110 #[.val (.int aa), .val (.int bb), .val (.int cc), .val (.long s64), .second, .val (.long x64), .second, .val (.long k64), .second, .val (.double (FP.l2d s64)), .second, .val (.double (FP.l2d x64)), .second, .val (.double (FP.ddiv (FP.l2d k64) (4652218415073722368 : UInt64))), .second, .val (.int (own_sq s64.toInt x64.toInt k64.toInt)), .val (.long s64), .second, .val (.long (x64 * x64)), .second, .val (.long ((x64 * x64) * (x64 * x64))), .second, .val (.long (((x64 * x64) * (x64 * x64)) * (1024 : Int64))), .second, .val (.long ((((12 : Int64) * s64) * s64) * k64)), .second, .unset] [(.long (((x64 * x64) * (x64 * x64)) * (1024 : Int64)))])) (fun t_ k_ => XS.lload X1.here hx rfl (hb hby at_108) rfl k_) ?_
    refine own_by (T' := T1) (g' := (mkF m 112 #[.val (.int aa), .val (.int bb), .val (.int cc), .val (.long s64), .second, .val (.long x64), .second, .val (.long k64), .second, .val (.double (FP.l2d s64)), .second, .val (.double (FP.l2d x64)), .second, .val (.double (FP.ddiv (FP.l2d k64) (4652218415073722368 : UInt64))), .second, .val (.int (own_sq s64.toInt x64.toInt k64.toInt)), .val (.long s64), .second, .val (.long (x64 * x64)), .second, .val (.long ((x64 * x64) * (x64 * x64))), .second, .val (.long (((x64 * x64) * (x64 * x64)) * (1024 : Int64))), .second, .val (.long ((((12 : Int64) * s64) * s64) * k64)), .second, .unset] [(.long ((((12 : Int64) * s64) * s64) * k64)), (.long (((x64 * x64) * (x64 * x64)) * (1024 : Int64)))])) (fun t_ k_ => XS.lload X1.here hx rfl (hb hby at_110) rfl k_) ?_
    refine own_by (T' := T1) (g' := (mkF m 113 #[.val (.int aa), .val (.int bb), .val (.int cc), .val (.long s64), .second, .val (.long x64), .second, .val (.long k64), .second, .val (.double (FP.l2d s64)), .second, .val (.double (FP.l2d x64)), .second, .val (.double (FP.ddiv (FP.l2d k64) (4652218415073722368 : UInt64))), .second, .val (.int (own_sq s64.toInt x64.toInt k64.toInt)), .val (.long s64), .second, .val (.long (x64 * x64)), .second, .val (.long ((x64 * x64) * (x64 * x64))), .second, .val (.long (((x64 * x64) * (x64 * x64)) * (1024 : Int64))), .second, .val (.long ((((12 : Int64) * s64) * s64) * k64)), .second, .unset] [(.int (lcmpW (((x64 * x64) * (x64 * x64)) * (1024 : Int64)) ((((12 : Int64) * s64) * s64) * k64)))])) (fun t_ k_ => XS.lcmp X1.here hx rfl (hb hby at_112) rfl k_) ?_
    by_cases c113_4 : (((x64 * x64) * (x64 * x64)) * (1024 : Int64)) < ((((12 : Int64) * s64) * s64) * k64)
    · skip
      refine own_by (T' := T1) (g' := (mkF m 116 #[.val (.int aa), .val (.int bb), .val (.int cc), .val (.long s64), .second, .val (.long x64), .second, .val (.long k64), .second, .val (.double (FP.l2d s64)), .second, .val (.double (FP.l2d x64)), .second, .val (.double (FP.ddiv (FP.l2d k64) (4652218415073722368 : UInt64))), .second, .val (.int (own_sq s64.toInt x64.toInt k64.toInt)), .val (.long s64), .second, .val (.long (x64 * x64)), .second, .val (.long ((x64 * x64) * (x64 * x64))), .second, .val (.long (((x64 * x64) * (x64 * x64)) * (1024 : Int64))), .second, .val (.long ((((12 : Int64) * s64) * s64) * k64)), .second, .unset] [])) (fun t_ k_ => XS.ifNo X1.here hx rfl (hb hby at_113) rfl ((if0 _ _).trans (tlt (((lw_lt _ _).mpr c113_4) : (lcmpW (((x64 * x64) * (x64 * x64)) * (1024 : Int64)) ((((12 : Int64) * s64) * s64) * k64)) < (0 : Int32))).2.1) k_) ?_
      refine own_by (T' := T1) (g' := (mkF m 117 #[.val (.int aa), .val (.int bb), .val (.int cc), .val (.long s64), .second, .val (.long x64), .second, .val (.long k64), .second, .val (.double (FP.l2d s64)), .second, .val (.double (FP.l2d x64)), .second, .val (.double (FP.ddiv (FP.l2d k64) (4652218415073722368 : UInt64))), .second, .val (.int (own_sq s64.toInt x64.toInt k64.toInt)), .val (.long s64), .second, .val (.long (x64 * x64)), .second, .val (.long ((x64 * x64) * (x64 * x64))), .second, .val (.long (((x64 * x64) * (x64 * x64)) * (1024 : Int64))), .second, .val (.long ((((12 : Int64) * s64) * s64) * k64)), .second, .unset] [(.int (1 : Int32))])) (fun t_ k_ => XS.iconst X1.here hx rfl (hb hby at_116) k_) ?_
      refine own_by (T' := T1) (g' := (mkF m 121 #[.val (.int aa), .val (.int bb), .val (.int cc), .val (.long s64), .second, .val (.long x64), .second, .val (.long k64), .second, .val (.double (FP.l2d s64)), .second, .val (.double (FP.l2d x64)), .second, .val (.double (FP.ddiv (FP.l2d k64) (4652218415073722368 : UInt64))), .second, .val (.int (own_sq s64.toInt x64.toInt k64.toInt)), .val (.long s64), .second, .val (.long (x64 * x64)), .second, .val (.long ((x64 * x64) * (x64 * x64))), .second, .val (.long (((x64 * x64) * (x64 * x64)) * (1024 : Int64))), .second, .val (.long ((((12 : Int64) * s64) * s64) * k64)), .second, .unset] [(.int (1 : Int32))])) (fun t_ k_ => XS.goto X1.here hx rfl (pc0 := 117) (pc' := 121) rfl (hb hby at_117) (by decide) (by decide) k_) ?_
      refine own_by (T' := T1) (g' := (mkF m 123 #[.val (.int aa), .val (.int bb), .val (.int cc), .val (.long s64), .second, .val (.long x64), .second, .val (.long k64), .second, .val (.double (FP.l2d s64)), .second, .val (.double (FP.l2d x64)), .second, .val (.double (FP.ddiv (FP.l2d k64) (4652218415073722368 : UInt64))), .second, .val (.int (own_sq s64.toInt x64.toInt k64.toInt)), .val (.long s64), .second, .val (.long (x64 * x64)), .second, .val (.long ((x64 * x64) * (x64 * x64))), .second, .val (.long (((x64 * x64) * (x64 * x64)) * (1024 : Int64))), .second, .val (.long ((((12 : Int64) * s64) * s64) * k64)), .second, .val (.int (1 : Int32))] [])) (fun t_ k_ => XS.istore X1.here hx rfl (hb hby at_121) rfl (l' := #[.val (.int aa), .val (.int bb), .val (.int cc), .val (.long s64), .second, .val (.long x64), .second, .val (.long k64), .second, .val (.double (FP.l2d s64)), .second, .val (.double (FP.l2d x64)), .second, .val (.double (FP.ddiv (FP.l2d k64) (4652218415073722368 : UInt64))), .second, .val (.int (own_sq s64.toInt x64.toInt k64.toInt)), .val (.long s64), .second, .val (.long (x64 * x64)), .second, .val (.long ((x64 * x64) * (x64 * x64))), .second, .val (.long (((x64 * x64) * (x64 * x64)) * (1024 : Int64))), .second, .val (.long ((((12 : Int64) * s64) * s64) * k64)), .second, .val (.int (1 : Int32))]) rfl k_) ?_
      refine own_by (T' := T1) (g' := (mkF m 125 #[.val (.int aa), .val (.int bb), .val (.int cc), .val (.long s64), .second, .val (.long x64), .second, .val (.long k64), .second, .val (.double (FP.l2d s64)), .second, .val (.double (FP.l2d x64)), .second, .val (.double (FP.ddiv (FP.l2d k64) (4652218415073722368 : UInt64))), .second, .val (.int (own_sq s64.toInt x64.toInt k64.toInt)), .val (.long s64), .second, .val (.long (x64 * x64)), .second, .val (.long ((x64 * x64) * (x64 * x64))), .second, .val (.long (((x64 * x64) * (x64 * x64)) * (1024 : Int64))), .second, .val (.long ((((12 : Int64) * s64) * s64) * k64)), .second, .val (.int (1 : Int32))] [(.int (own_sq s64.toInt x64.toInt k64.toInt))])) (fun t_ k_ => XS.iload X1.here hx rfl (hb hby at_123) rfl k_) ?_
      refine own_by (T' := T1) (g' := (mkF m 127 #[.val (.int aa), .val (.int bb), .val (.int cc), .val (.long s64), .second, .val (.long x64), .second, .val (.long k64), .second, .val (.double (FP.l2d s64)), .second, .val (.double (FP.l2d x64)), .second, .val (.double (FP.ddiv (FP.l2d k64) (4652218415073722368 : UInt64))), .second, .val (.int (own_sq s64.toInt x64.toInt k64.toInt)), .val (.long s64), .second, .val (.long (x64 * x64)), .second, .val (.long ((x64 * x64) * (x64 * x64))), .second, .val (.long (((x64 * x64) * (x64 * x64)) * (1024 : Int64))), .second, .val (.long ((((12 : Int64) * s64) * s64) * k64)), .second, .val (.int (1 : Int32))] [(.int (1 : Int32)), (.int (own_sq s64.toInt x64.toInt k64.toInt))])) (fun t_ k_ => XS.iload X1.here hx rfl (hb hby at_125) rfl k_) ?_
      refine own_by (T' := T1) (g' := (mkF m 130 #[.val (.int aa), .val (.int bb), .val (.int cc), .val (.long s64), .second, .val (.long x64), .second, .val (.long k64), .second, .val (.double (FP.l2d s64)), .second, .val (.double (FP.l2d x64)), .second, .val (.double (FP.ddiv (FP.l2d k64) (4652218415073722368 : UInt64))), .second, .val (.int (own_sq s64.toInt x64.toInt k64.toInt)), .val (.long s64), .second, .val (.long (x64 * x64)), .second, .val (.long ((x64 * x64) * (x64 * x64))), .second, .val (.long (((x64 * x64) * (x64 * x64)) * (1024 : Int64))), .second, .val (.long ((((12 : Int64) * s64) * s64) * k64)), .second, .val (.int (1 : Int32))] [])) (fun t_ k_ => XS.icmpNo X1.here hx rfl (hb hby at_127) rfl (teq ((own_sq1 ((own_long ps64 px64 pk64 (own_low1 c58_2)).mp c113_4)) : (own_sq s64.toInt x64.toInt k64.toInt) = (1 : Int32))).2 k_) ?_
      refine own_by (T' := T1) (g' := (mkF m 131 #[.val (.int aa), .val (.int bb), .val (.int cc), .val (.long s64), .second, .val (.long x64), .second, .val (.long k64), .second, .val (.double (FP.l2d s64)), .second, .val (.double (FP.l2d x64)), .second, .val (.double (FP.ddiv (FP.l2d k64) (4652218415073722368 : UInt64))), .second, .val (.int (own_sq s64.toInt x64.toInt k64.toInt)), .val (.long s64), .second, .val (.long (x64 * x64)), .second, .val (.long ((x64 * x64) * (x64 * x64))), .second, .val (.long (((x64 * x64) * (x64 * x64)) * (1024 : Int64))), .second, .val (.long ((((12 : Int64) * s64) * s64) * k64)), .second, .val (.int (1 : Int32))] [(.int (1 : Int32))])) (fun t_ k_ => XS.iconst X1.here hx rfl (hb hby at_130) k_) ?_
      refine own_by (T' := T1) (g' := (mkF m 135 #[.val (.int aa), .val (.int bb), .val (.int cc), .val (.long s64), .second, .val (.long x64), .second, .val (.long k64), .second, .val (.double (FP.l2d s64)), .second, .val (.double (FP.l2d x64)), .second, .val (.double (FP.ddiv (FP.l2d k64) (4652218415073722368 : UInt64))), .second, .val (.int (own_sq s64.toInt x64.toInt k64.toInt)), .val (.long s64), .second, .val (.long (x64 * x64)), .second, .val (.long ((x64 * x64) * (x64 * x64))), .second, .val (.long (((x64 * x64) * (x64 * x64)) * (1024 : Int64))), .second, .val (.long ((((12 : Int64) * s64) * s64) * k64)), .second, .val (.int (1 : Int32))] [(.int (1 : Int32))])) (fun t_ k_ => XS.goto X1.here hx rfl (pc0 := 131) (pc' := 135) rfl (hb hby at_131) (by decide) (by decide) k_) ?_
      refine own_retN X1 hx (t := .boolean) Bd.returns hlk (by simp) (hb hby at_135) (by decide) (by decide) (v := (1 : Int32)) rfl ?_
      rw [e1]
      exact ⟨rfl, N1⟩
    · skip
      refine own_by (T' := T1) (g' := (mkF m 120 #[.val (.int aa), .val (.int bb), .val (.int cc), .val (.long s64), .second, .val (.long x64), .second, .val (.long k64), .second, .val (.double (FP.l2d s64)), .second, .val (.double (FP.l2d x64)), .second, .val (.double (FP.ddiv (FP.l2d k64) (4652218415073722368 : UInt64))), .second, .val (.int (own_sq s64.toInt x64.toInt k64.toInt)), .val (.long s64), .second, .val (.long (x64 * x64)), .second, .val (.long ((x64 * x64) * (x64 * x64))), .second, .val (.long (((x64 * x64) * (x64 * x64)) * (1024 : Int64))), .second, .val (.long ((((12 : Int64) * s64) * s64) * k64)), .second, .unset] [])) (fun t_ k_ => XS.ifYes X1.here hx rfl (pc0 := 113) (pc' := 120) rfl (hb hby at_113) rfl ((if0 _ _).trans (flt ((fun q_ => c113_4 ((lw_lt _ _).mp q_)) : ¬ ((lcmpW (((x64 * x64) * (x64 * x64)) * (1024 : Int64)) ((((12 : Int64) * s64) * s64) * k64)) < (0 : Int32)))).2.1) (by decide) (by decide) k_) ?_
      refine own_by (T' := T1) (g' := (mkF m 121 #[.val (.int aa), .val (.int bb), .val (.int cc), .val (.long s64), .second, .val (.long x64), .second, .val (.long k64), .second, .val (.double (FP.l2d s64)), .second, .val (.double (FP.l2d x64)), .second, .val (.double (FP.ddiv (FP.l2d k64) (4652218415073722368 : UInt64))), .second, .val (.int (own_sq s64.toInt x64.toInt k64.toInt)), .val (.long s64), .second, .val (.long (x64 * x64)), .second, .val (.long ((x64 * x64) * (x64 * x64))), .second, .val (.long (((x64 * x64) * (x64 * x64)) * (1024 : Int64))), .second, .val (.long ((((12 : Int64) * s64) * s64) * k64)), .second, .unset] [(.int (0 : Int32))])) (fun t_ k_ => XS.iconst X1.here hx rfl (hb hby at_120) k_) ?_
      refine own_by (T' := T1) (g' := (mkF m 123 #[.val (.int aa), .val (.int bb), .val (.int cc), .val (.long s64), .second, .val (.long x64), .second, .val (.long k64), .second, .val (.double (FP.l2d s64)), .second, .val (.double (FP.l2d x64)), .second, .val (.double (FP.ddiv (FP.l2d k64) (4652218415073722368 : UInt64))), .second, .val (.int (own_sq s64.toInt x64.toInt k64.toInt)), .val (.long s64), .second, .val (.long (x64 * x64)), .second, .val (.long ((x64 * x64) * (x64 * x64))), .second, .val (.long (((x64 * x64) * (x64 * x64)) * (1024 : Int64))), .second, .val (.long ((((12 : Int64) * s64) * s64) * k64)), .second, .val (.int (0 : Int32))] [])) (fun t_ k_ => XS.istore X1.here hx rfl (hb hby at_121) rfl (l' := #[.val (.int aa), .val (.int bb), .val (.int cc), .val (.long s64), .second, .val (.long x64), .second, .val (.long k64), .second, .val (.double (FP.l2d s64)), .second, .val (.double (FP.l2d x64)), .second, .val (.double (FP.ddiv (FP.l2d k64) (4652218415073722368 : UInt64))), .second, .val (.int (own_sq s64.toInt x64.toInt k64.toInt)), .val (.long s64), .second, .val (.long (x64 * x64)), .second, .val (.long ((x64 * x64) * (x64 * x64))), .second, .val (.long (((x64 * x64) * (x64 * x64)) * (1024 : Int64))), .second, .val (.long ((((12 : Int64) * s64) * s64) * k64)), .second, .val (.int (0 : Int32))]) rfl k_) ?_
      refine own_by (T' := T1) (g' := (mkF m 125 #[.val (.int aa), .val (.int bb), .val (.int cc), .val (.long s64), .second, .val (.long x64), .second, .val (.long k64), .second, .val (.double (FP.l2d s64)), .second, .val (.double (FP.l2d x64)), .second, .val (.double (FP.ddiv (FP.l2d k64) (4652218415073722368 : UInt64))), .second, .val (.int (own_sq s64.toInt x64.toInt k64.toInt)), .val (.long s64), .second, .val (.long (x64 * x64)), .second, .val (.long ((x64 * x64) * (x64 * x64))), .second, .val (.long (((x64 * x64) * (x64 * x64)) * (1024 : Int64))), .second, .val (.long ((((12 : Int64) * s64) * s64) * k64)), .second, .val (.int (0 : Int32))] [(.int (own_sq s64.toInt x64.toInt k64.toInt))])) (fun t_ k_ => XS.iload X1.here hx rfl (hb hby at_123) rfl k_) ?_
      refine own_by (T' := T1) (g' := (mkF m 127 #[.val (.int aa), .val (.int bb), .val (.int cc), .val (.long s64), .second, .val (.long x64), .second, .val (.long k64), .second, .val (.double (FP.l2d s64)), .second, .val (.double (FP.l2d x64)), .second, .val (.double (FP.ddiv (FP.l2d k64) (4652218415073722368 : UInt64))), .second, .val (.int (own_sq s64.toInt x64.toInt k64.toInt)), .val (.long s64), .second, .val (.long (x64 * x64)), .second, .val (.long ((x64 * x64) * (x64 * x64))), .second, .val (.long (((x64 * x64) * (x64 * x64)) * (1024 : Int64))), .second, .val (.long ((((12 : Int64) * s64) * s64) * k64)), .second, .val (.int (0 : Int32))] [(.int (0 : Int32)), (.int (own_sq s64.toInt x64.toInt k64.toInt))])) (fun t_ k_ => XS.iload X1.here hx rfl (hb hby at_125) rfl k_) ?_
      refine own_by (T' := T1) (g' := (mkF m 130 #[.val (.int aa), .val (.int bb), .val (.int cc), .val (.long s64), .second, .val (.long x64), .second, .val (.long k64), .second, .val (.double (FP.l2d s64)), .second, .val (.double (FP.l2d x64)), .second, .val (.double (FP.ddiv (FP.l2d k64) (4652218415073722368 : UInt64))), .second, .val (.int (own_sq s64.toInt x64.toInt k64.toInt)), .val (.long s64), .second, .val (.long (x64 * x64)), .second, .val (.long ((x64 * x64) * (x64 * x64))), .second, .val (.long (((x64 * x64) * (x64 * x64)) * (1024 : Int64))), .second, .val (.long ((((12 : Int64) * s64) * s64) * k64)), .second, .val (.int (0 : Int32))] [])) (fun t_ k_ => XS.icmpNo X1.here hx rfl (hb hby at_127) rfl (teq ((own_sq0 (fun q_ => c113_4 ((own_long ps64 px64 pk64 (own_low1 c58_2)).mpr q_))) : (own_sq s64.toInt x64.toInt k64.toInt) = (0 : Int32))).2 k_) ?_
      refine own_by (T' := T1) (g' := (mkF m 131 #[.val (.int aa), .val (.int bb), .val (.int cc), .val (.long s64), .second, .val (.long x64), .second, .val (.long k64), .second, .val (.double (FP.l2d s64)), .second, .val (.double (FP.l2d x64)), .second, .val (.double (FP.ddiv (FP.l2d k64) (4652218415073722368 : UInt64))), .second, .val (.int (own_sq s64.toInt x64.toInt k64.toInt)), .val (.long s64), .second, .val (.long (x64 * x64)), .second, .val (.long ((x64 * x64) * (x64 * x64))), .second, .val (.long (((x64 * x64) * (x64 * x64)) * (1024 : Int64))), .second, .val (.long ((((12 : Int64) * s64) * s64) * k64)), .second, .val (.int (0 : Int32))] [(.int (1 : Int32))])) (fun t_ k_ => XS.iconst X1.here hx rfl (hb hby at_130) k_) ?_
      refine own_by (T' := T1) (g' := (mkF m 135 #[.val (.int aa), .val (.int bb), .val (.int cc), .val (.long s64), .second, .val (.long x64), .second, .val (.long k64), .second, .val (.double (FP.l2d s64)), .second, .val (.double (FP.l2d x64)), .second, .val (.double (FP.ddiv (FP.l2d k64) (4652218415073722368 : UInt64))), .second, .val (.int (own_sq s64.toInt x64.toInt k64.toInt)), .val (.long s64), .second, .val (.long (x64 * x64)), .second, .val (.long ((x64 * x64) * (x64 * x64))), .second, .val (.long (((x64 * x64) * (x64 * x64)) * (1024 : Int64))), .second, .val (.long ((((12 : Int64) * s64) * s64) * k64)), .second, .val (.int (0 : Int32))] [(.int (1 : Int32))])) (fun t_ k_ => XS.goto X1.here hx rfl (pc0 := 131) (pc' := 135) rfl (hb hby at_131) (by decide) (by decide) k_) ?_
      refine own_retN X1 hx (t := .boolean) Bd.returns hlk (by simp) (hb hby at_135) (by decide) (by decide) (v := (1 : Int32)) rfl ?_
      rw [e1]
      exact ⟨rfl, N1⟩
set_option maxRecDepth 65536 in
set_option maxHeartbeats 40000000 in
theorem own_comes {Post : Tables → Env → Array Value → State → Outcome → State → Prop} (hpost : ∀ tb e args s v u, (limb_1_1.after args s (.returned v) u = true ∧ limb_1_2.after args s (.returned v) u = true ∧ True) → FrameEnd s (.returned v) u (Jvm.fieldLocs frame_1_writes args s ++ Jvm.arrayLocs frame_1_arrays args s ++ Jvm.staticLocs frame_1_statics s) 0 0 → Post tb e args s (.returned v) u) :
    ArmFor flags0 classFile x code maxLocals ret World_1 tables_1 room_1 Calls_1 rest_1 Pre_1 Post := by
  intro l hfl _ _ p e ha hc hk s m args below hf hA hF happ hP
  obtain ⟨hcalls, hrest, hpre⟩ := hP
  obtain ⟨-, -, -, hnamed, -, -, -, hat⟩ := (Spec.applies_iff hf).mp happ
  obtain ⟨hg, hn⟩ := and_e (Cond.before_iff.mp (show (Jvm.Cond.and given_1 narrow_1).before args s = true from hpre))
  obtain ⟨g0, gr0⟩ := and_e hg
  obtain ⟨w0, w1, w2, rfl⟩ : ∃ w0 w1 w2 : Value, args = #[w0, w1, w2] := by
    have hs : args.size = 3 := by simpa [Cond.value, given_1] using g0
    obtain ⟨L⟩ := args
    match L, hs with
    | [w0, w1, w2], _ => exact ⟨w0, w1, w2, rfl⟩
  have hw := fun d (hd : d ∈ tables_1) => atoms_spec (ws := Jvm.Cond.code x code maxLocals ret :: tables_1) hat d (List.mem_cons_of_mem _ hd)
  have hfit : Fit s := fun {y c} hc i hi => by
    obtain ⟨ha, rfl⟩ := Array.getElem?_eq_some_iff.mp hc
    have q := List.all_eq_true.mp ((Array.all_eq_true_iff_forall_mem.mp hF) _ (Array.getElem_mem ha)) i (List.mem_range.mpr hi)
    simpa [Array.getElem?_eq_getElem hi] using q
  obtain ⟨q0, gr1⟩ := and_e gr0
  obtain ⟨q1, gr2⟩ := and_e gr1
  obtain ⟨i0, ei0⟩ := is_v q0
  obtain rfl : w0 = (.int i0) := Option.some.inj ei0
  obtain ⟨i1, ei1⟩ := is_v q1
  obtain rfl : w1 = (.int i1) := Option.some.inj ei1
  obtain ⟨i2, ei2⟩ := is_v gr2
  obtain rfl : w2 = (.int i2) := Option.some.inj ei2
  obtain ⟨n, o, h1, h2, h3, _, L, rfl, ⟨rfl, N⟩, hq⟩ := own_rm_law l s _ hw tables_1 i0 i1 i2  s.heap s.heap.size (Nat.le_refl _)  p e ha hc hk s m _ below hf ((Spec.applies_iff_loose hf).mp happ).1 ⟨rfl, State.Warmed39.refl s, rfl⟩ trivial
  refine ⟨n, _, h1, h2, h3, hpost _ _ _ _ _ _ ⟨Cond.after_iff.mpr rfl, Cond.after_iff.mpr (eq_i res_at (Term.int_eval (1)) rfl), trivial⟩ ⟨hq.1, hq.2.1, (hq.2.2.sift fun y hy => Or.inr (N y hy)).mono (by decide) (by decide)⟩⟩
theorem main_1_1 : Claimed_1_1 := own_comes fun _ _ _ _ _ _ h hF => ⟨h.1, hF⟩
theorem main_1_2 : Claimed_1_2 := own_comes fun _ _ _ _ _ _ h hF => ⟨h.2.1, hF⟩
end Jvm.Pilot.@@N@@
namespace Jvm.Pilot.@@N@@
open Jvm Jvm.ClassFile Sem Op Lib Jvm.Free Jvm.Stand Jvm.Pilot.@@N@@.Jvm.D
/-! MADE BY PROGRAM (witnessworld.py) out of the Statement's table words and the real class files: 10 classes; the members and pool entries that the words name. The judged class is class 1, her method 1. -/
namespace start1
open Jvm.ClassFile
def u (s : String) : CpInfo := .utf8 (stringToUtf16 s)
/-- a pool by its gaps: so many unusable entries, then the entry; so many at the end -/
def gap : Nat → List CpInfo → List CpInfo
  | 0, r => r
  | n + 1, r => .unusable :: gap n r
def poolList (es : List (Nat × CpInfo)) (last : Nat) : List CpInfo := es.foldr (fun e r => gap e.1 (e.2 :: r)) (gap last [])
def pool (es : List (Nat × CpInfo)) (last : Nat) : Array CpInfo := ⟨poolList es last⟩
def fileOf (pool : Array CpInfo) (this : Nat) (attrs : Array Attribute := #[]) (ms : Array MethodInfo := #[]) (fl : Nat := 33) (sup : Nat := 0) (ifs : Array Nat := #[]) (fds : Array FieldInfo := #[]) : ClassFile where
  minorVersion := 0
  majorVersion := 65
  constantPool := pool
  accessFlags := fl
  thisClass := this
  superClass := sup
  interfaces := ifs
  fields := fds
  methods := ms
  attributes := attrs
def plain (name : String) (sup : Option ClassId) : Class where
  name := name
  kind := .ordinary
  loader := none
  accessFlags := 33
  super := sup
  interfaces := #[]
  cf := none
  fields := #[]
  methods := #[]
  instanceTypes := #[]
  staticTypes := #[]
  resolved := #[]
  callSites := []
  init := .initialized
  statics := none
  mirror := none

def pool0 : Array CpInfo := pool [(5, u "<init>"), (0, u "()V"), (1, .class_ 10), (1, u "java/lang/Object")] 113

def k0m0 : Method := { name := "<init>", desc := "()V", sig := { parameters := [], returnType := none }, accessFlags := 1, code := none }
/-- java/lang/Object -/
def k0 : Class := { plain "java/lang/Object" none with
  accessFlags := 33
  interfaces := #[]
  cf := some (fileOf pool0 8 #[] #[{ accessFlags := 1, nameIndex := 5, descriptorIndex := 6, attributes := #[] }] 33 0 #[] #[])
  fields := #[]
  methods := #[k0m0]
  instanceTypes := #[]
  staticTypes := #[]
  resolved := Array.replicate 124 none
  statics := none }

def pool1 : Array CpInfo := pool [(2, .class_ 4), (1, u "java/lang/Object"), (0, u "<init>"), (0, u "()V"), (0, .double 4652218415073722368), (1, .methodref 10 11), (0, .class_ 12), (0, .nameAndType 13 14), (0, u "com/example/fairdice/fairdice/Variates"), (0, u "insideSqueeze"), (0, u "(DDD)Z"), (0, .long 1024), (1, .long 12), (1, .class_ 20), (0, u "com/example/fairdice/fairdice/VariatesInsideSqueezePinLaw"), (2, u "law"), (0, u "(III)Z")] 3

def k1m0 : Method := { name := "<init>", desc := "()V", sig := { parameters := [], returnType := none }, accessFlags := 2, code := none }
def k1c1 : Code := { maxStack := 6, maxLocals := 27, code := code, exceptionTable := #[], attributes := #[] }
def k1m1 : Method := { name := "law", desc := "(III)Z", sig := { parameters := [.int, .int, .int], returnType := some .boolean }, accessFlags := 9, code := some k1c1 }
/-- com/example/fairdice/fairdice/VariatesInsideSqueezePinLaw -/
def k1 : Class := { plain "com/example/fairdice/fairdice/VariatesInsideSqueezePinLaw" (some 0) with
  accessFlags := 49
  interfaces := #[]
  cf := some (fileOf pool1 19 #[] #[{ accessFlags := 2, nameIndex := 5, descriptorIndex := 6, attributes := #[] }, { accessFlags := 9, nameIndex := 23, descriptorIndex := 24, attributes := #[] }] 49 2 #[] #[])
  fields := #[]
  methods := #[k1m0, k1m1]
  instanceTypes := #[]
  staticTypes := #[]
  resolved := Array.replicate 28 none
  statics := none }

def pool2 : Array CpInfo := pool [(1, .class_ 2), (0, u "com/example/fairdice/fairdice/Variates"), (1, .class_ 6), (1, u "java/lang/Object"), (0, u "<init>"), (0, u "()V"), (44, .class_ 55), (1, u "java/lang/Math"), (9, u "insideSqueeze"), (0, u "(DDD)Z"), (4, .double 4622945017495814144), (1, .methodref 53 74), (0, .nameAndType 75 76), (0, u "min"), (0, u "(DD)D"), (29, u "POWERS_OF_TWO"), (0, u "[J"), (45, u "SMALL_SHAPE"), (0, u "D"), (1, u "LOG2_E"), (0, u "SERIES_1"), (0, u "SERIES_2"), (0, u "SERIES_3"), (0, u "SERIES_4"), (0, u "SERIES_5")] 10

def k2m0 : Method := { name := "<init>", desc := "()V", sig := { parameters := [], returnType := none }, accessFlags := 2, code := none }
def k2c1 : Code := { maxStack := 10, maxLocals := 8, code := prog_9_method_4_code, exceptionTable := #[], attributes := #[] }
def k2m1 : Method := { name := "insideSqueeze", desc := "(DDD)Z", sig := { parameters := [.double, .double, .double], returnType := some .boolean }, accessFlags := 8, code := some k2c1 }
/-- com/example/fairdice/fairdice/Variates -/
def k2 : Class := { plain "com/example/fairdice/fairdice/Variates" (some 0) with
  accessFlags := 49
  interfaces := #[]
  cf := some (fileOf pool2 1 #[] #[{ accessFlags := 2, nameIndex := 7, descriptorIndex := 8, attributes := #[] }, { accessFlags := 8, nameIndex := 65, descriptorIndex := 66, attributes := #[] }] 49 4 #[] #[{ accessFlags := 26, nameIndex := 153, descriptorIndex := 154, attributes := #[] }, { accessFlags := 26, nameIndex := 156, descriptorIndex := 154, attributes := #[] }, { accessFlags := 26, nameIndex := 157, descriptorIndex := 154, attributes := #[] }, { accessFlags := 26, nameIndex := 158, descriptorIndex := 154, attributes := #[] }, { accessFlags := 26, nameIndex := 159, descriptorIndex := 154, attributes := #[] }, { accessFlags := 26, nameIndex := 160, descriptorIndex := 154, attributes := #[] }, { accessFlags := 26, nameIndex := 161, descriptorIndex := 154, attributes := #[] }, { accessFlags := 26, nameIndex := 106, descriptorIndex := 107, attributes := #[] }])
  fields := #[{ name := "SMALL_SHAPE", type := .double, accessFlags := 26, slot := 0, constantValue := 0 }, { name := "LOG2_E", type := .double, accessFlags := 26, slot := 1, constantValue := 0 }, { name := "SERIES_1", type := .double, accessFlags := 26, slot := 2, constantValue := 0 }, { name := "SERIES_2", type := .double, accessFlags := 26, slot := 3, constantValue := 0 }, { name := "SERIES_3", type := .double, accessFlags := 26, slot := 4, constantValue := 0 }, { name := "SERIES_4", type := .double, accessFlags := 26, slot := 5, constantValue := 0 }, { name := "SERIES_5", type := .double, accessFlags := 26, slot := 6, constantValue := 0 }, { name := "POWERS_OF_TWO", type := (.array .long), accessFlags := 26, slot := 7, constantValue := 0 }]
  methods := #[k2m0, k2m1]
  instanceTypes := #[]
  staticTypes := #[.double, .double, .double, .double, .double, .double, .double, (.array .long)]
  resolved := Array.replicate 172 none
  statics := none }

def pool3 : Array CpInfo := pool [(1, .class_ 2), (0, u "java/lang/Math"), (1, .class_ 6), (1, u "java/lang/Object"), (0, u "<init>"), (0, u "()V"), (43, u "(DD)D"), (45, .class_ 100), (1, u "java/lang/Math$RandomNumberGeneratorHolder"), (71, u "negativeZeroFloatBits"), (0, u "J"), (2, u "negativeZeroDoubleBits"), (24, u "min"), (43, u "$assertionsDisabled"), (0, u "Z"), (91, u "twoToTheDoubleScaleDown"), (0, u "D"), (4, u "twoToTheDoubleScaleUp"), (9, u "E"), (3, u "PI"), (2, u "TAU"), (2, u "DEGREES_TO_RADIANS"), (0, u "RADIANS_TO_DEGREES")] 94

def k3m0 : Method := { name := "<init>", desc := "()V", sig := { parameters := [], returnType := none }, accessFlags := 2, code := none }
def k3c1 : Code := { maxStack := 4, maxLocals := 4, code := jdk_29_method_72_code, exceptionTable := #[], attributes := #[] }
def k3m1 : Method := { name := "min", desc := "(DD)D", sig := { parameters := [.double, .double], returnType := some .double }, accessFlags := 9, code := some k3c1 }
/-- java/lang/Math -/
def k3 : Class := { plain "java/lang/Math" (some 0) with
  accessFlags := 49
  interfaces := #[]
  cf := some (fileOf pool3 1 #[.nestMembers #[98]] #[{ accessFlags := 2, nameIndex := 7, descriptorIndex := 8, attributes := #[] }, { accessFlags := 9, nameIndex := 201, descriptorIndex := 52, attributes := #[] }] 49 4 #[] #[{ accessFlags := 25, nameIndex := 354, descriptorIndex := 339, attributes := #[] }, { accessFlags := 25, nameIndex := 358, descriptorIndex := 339, attributes := #[] }, { accessFlags := 25, nameIndex := 361, descriptorIndex := 339, attributes := #[] }, { accessFlags := 26, nameIndex := 364, descriptorIndex := 339, attributes := #[] }, { accessFlags := 26, nameIndex := 365, descriptorIndex := 339, attributes := #[] }, { accessFlags := 26, nameIndex := 172, descriptorIndex := 173, attributes := #[] }, { accessFlags := 26, nameIndex := 176, descriptorIndex := 173, attributes := #[] }, { accessFlags := 8, nameIndex := 344, descriptorIndex := 339, attributes := #[] }, { accessFlags := 8, nameIndex := 338, descriptorIndex := 339, attributes := #[] }, { accessFlags := 4120, nameIndex := 245, descriptorIndex := 246, attributes := #[] }])
  fields := #[{ name := "E", type := .double, accessFlags := 25, slot := 0, constantValue := 0 }, { name := "PI", type := .double, accessFlags := 25, slot := 1, constantValue := 0 }, { name := "TAU", type := .double, accessFlags := 25, slot := 2, constantValue := 0 }, { name := "DEGREES_TO_RADIANS", type := .double, accessFlags := 26, slot := 3, constantValue := 0 }, { name := "RADIANS_TO_DEGREES", type := .double, accessFlags := 26, slot := 4, constantValue := 0 }, { name := "negativeZeroFloatBits", type := .long, accessFlags := 26, slot := 5, constantValue := 0 }, { name := "negativeZeroDoubleBits", type := .long, accessFlags := 26, slot := 6, constantValue := 0 }, { name := "twoToTheDoubleScaleUp", type := .double, accessFlags := 8, slot := 7, constantValue := 0 }, { name := "twoToTheDoubleScaleDown", type := .double, accessFlags := 8, slot := 8, constantValue := 0 }, { name := "$assertionsDisabled", type := .boolean, accessFlags := 4120, slot := 9, constantValue := 0 }]
  methods := #[k3m0, k3m1]
  instanceTypes := #[]
  staticTypes := #[.double, .double, .double, .double, .double, .long, .long, .double, .double, .boolean]
  resolved := Array.replicate 460 none
  statics := none }

def pool4 : Array CpInfo := pool [(1, u "java/lang/Cloneable"), (0, .class_ 1), (0, u "java/lang/Object"), (0, .class_ 3)] 3

/-- java/lang/Cloneable -/
def k4 : Class := { plain "java/lang/Cloneable" (some 0) with
  accessFlags := 1537
  interfaces := #[]
  cf := some (fileOf pool4 2 #[] #[] 1537 4 #[] #[])
  fields := #[]
  methods := #[]
  instanceTypes := #[]
  staticTypes := #[]
  resolved := Array.replicate 8 none
  statics := none }

def pool5 : Array CpInfo := pool [(1, u "java/io/Serializable"), (0, .class_ 1), (0, u "java/lang/Object"), (0, .class_ 3)] 3

/-- java/io/Serializable -/
def k5 : Class := { plain "java/io/Serializable" (some 0) with
  accessFlags := 1537
  interfaces := #[]
  cf := some (fileOf pool5 2 #[] #[] 1537 4 #[] #[])
  fields := #[]
  methods := #[]
  instanceTypes := #[]
  staticTypes := #[]
  resolved := Array.replicate 8 none
  statics := none }

/-- the primitive byte -/
def k6 : Class := { plain "byte" none with kind := .primitive 'B', accessFlags := 0x411 }
/-- [B -/
def k7 : Class := { plain "[B" (some 0) with kind := .array 6 .byte, interfaces := #[4, 5], accessFlags := 1041 }

/-- the primitive int -/
def k8 : Class := { plain "int" none with kind := .primitive 'I', accessFlags := 0x411 }
/-- [I -/
def k9 : Class := { plain "[I" (some 0) with kind := .array 8 .int, interfaces := #[4, 5], accessFlags := 1041 }

def heap : Heap := #[]
def classes : Array Class := #[k0, k1, k2, k3, k4, k5, k6, k7, k8, k9]
def interned : List (Array UInt16 × Addr) := []
def slotsUsed : Nat := 0
def theMethod : MethodId := ⟨1, 1⟩
def args0 : Array Value := #[.int 5, .int 5, .int 7]
def aboutOver (below : List Frame) : State where
  vm := { classes := classes, interned := interned.toArray }
  heap := heap
  slotsUsed := slotsUsed
  threads := #[{ frames := .invoking theMethod args0 :: below }]
def below0 : List Frame := [.native { method := ⟨0, 0⟩, args := #[] }]
def about1 : State := aboutOver below0
def p0 : Program := .bare "" "" ""
def e0 : Env := launch0.env 0 0 0
theorem w_frames : about1.frames = Frame.invoking theMethod args0 :: below0 := rfl
set_option maxRecDepth 65536 in
theorem w_args : argsFit about1.vm theMethod args0 = true := by decide +kernel
set_option maxRecDepth 65536 in
theorem w_heap : heapFits about1 = true := by decide +kernel
set_option maxRecDepth 65536 in
theorem w_runnable : about1.curStatus? = some .runnable := by decide +kernel
set_option maxRecDepth 65536 in
theorem w_alone : about1.alone = true := by decide +kernel
set_option maxRecDepth 65536 in
theorem w_named : about1.methodNamed? x = some theMethod := by decide +kernel
set_option maxRecDepth 65536 in
theorem w_hears : about1.hears theMethod below0 = true := by decide +kernel
set_option maxRecDepth 65536 in
theorem w_ripe : about1.ripe theMethod args0 below0 = true := by decide +kernel
theorem w_running : about1.status = .running := rfl
set_option maxRecDepth 65536 in
theorem w_room : about1.hasRoom e0.platform room_1 = true :=
  launch0.hasRoom_least _ room_1 (by decide +kernel) (by decide +kernel) (by decide +kernel) (by decide +kernel) (by decide +kernel) (by decide +kernel)
theorem allAtoms_all (ts : List Jvm.Cond) (a : Array Jvm.Value) (st : Jvm.State) : (allAtoms ts).before a st = ts.all (fun c => c.before a st) := by
  induction ts with
  | nil => rfl
  | cons c t ih =>
    show (Jvm.Cond.and c (allAtoms t)).before a st = _
    rw [Jvm.Cond.before_and, ih, List.all_cons]
def words1 : List Jvm.Cond := Jvm.Cond.code x code maxLocals ret :: tables_1
/-- a 'code' word, met by the world's own term for the bytes: nothing is compared byte by byte -/
theorem code_word {y : MethodName} {bytes : ByteArray} {mx : Nat} {rt : Option FieldType} {a : Array Value} {s : State} {m : MethodId} {meth : Method} {c : Code} (h1 : s.methodNamed? y = some m) (h2 : s.vm.method? m = some meth) (h3 : meth.code = some c) (h4 : c.code = bytes)
    (h5 : (c.maxLocals == mx && c.exceptionTable.isEmpty && decide (c.maxStack ≤ mostOperands) && decide (meth.sig.returnType = rt) && !meth.locks && decide (parseMethodDescriptor y.desc = some meth.sig)) = true) : (Jvm.Cond.code y bytes mx rt).before a s = true := by
  simp only [Bool.and_eq_true, beq_iff_eq, Bool.not_eq_true', decide_eq_true_eq] at h5
  obtain ⟨⟨⟨⟨⟨g1, g2⟩, g3⟩, g4⟩, g5⟩, g6⟩ := h5
  simp [Cond.before, Cond.holds, Cond.value, h1, h2, h3, h4, g1, g2, g3, g4, g5, g6]
def isCode : Jvm.Cond → Bool
  | .code _ _ _ _ => true
  | _ => false
theorem all_split {L : List Jvm.Cond} {P : Jvm.Cond → Bool} (h1 : L.all (fun c => isCode c || P c) = true) (h2 : ∀ c ∈ L.filter isCode, P c = true) : L.all P = true := by
  refine List.all_eq_true.mpr fun c hc => ?_
  have h := List.all_eq_true.mp h1 c hc
  rcases Bool.eq_false_or_eq_true (isCode c) with hi | hi
  · exact h2 c (List.mem_filter.mpr ⟨hc, hi⟩)
  · simpa [hi] using h
set_option maxRecDepth 65536 in
theorem w_c0 : (Jvm.Cond.code x code maxLocals ret).before args0 about1 = true := code_word (m := ⟨1, 1⟩) (meth := k1m1) (c := k1c1) (by decide +kernel) rfl rfl rfl (by decide +kernel)
set_option maxRecDepth 65536 in
theorem w_c1 : (Jvm.Cond.code ({ cls := "com/example/fairdice/fairdice/Variates", name := "insideSqueeze", desc := "(DDD)Z" } : Jvm.MethodName) prog_9_method_4_code (8 : Nat) (Option.some Jvm.ClassFile.FieldType.boolean)).before args0 about1 = true := code_word (m := ⟨2, 1⟩) (meth := k2m1) (c := k2c1) (by decide +kernel) rfl rfl rfl (by decide +kernel)
set_option maxRecDepth 65536 in
theorem w_c2 : (Jvm.Cond.code ({ cls := "java/lang/Math", name := "min", desc := "(DD)D" } : Jvm.MethodName) jdk_29_method_72_code (4 : Nat) (Option.some Jvm.ClassFile.FieldType.double)).before args0 about1 = true := code_word (m := ⟨3, 1⟩) (meth := k3m1) (c := k3c1) (by decide +kernel) rfl rfl rfl (by decide +kernel)
def codes1 : List Jvm.Cond := [Jvm.Cond.code x code maxLocals ret, Jvm.Cond.code ({ cls := "com/example/fairdice/fairdice/Variates", name := "insideSqueeze", desc := "(DDD)Z" } : Jvm.MethodName) prog_9_method_4_code (8 : Nat) (Option.some Jvm.ClassFile.FieldType.boolean), Jvm.Cond.code ({ cls := "java/lang/Math", name := "min", desc := "(DD)D" } : Jvm.MethodName) jdk_29_method_72_code (4 : Nat) (Option.some Jvm.ClassFile.FieldType.double)]
set_option maxRecDepth 65536 in
theorem codes_eq : words1.filter isCode = codes1 := rfl
theorem w_codes : ∀ c ∈ words1.filter isCode, c.before args0 about1 = true := by
  rw [codes_eq]
  intro c hc
  simp only [codes1, List.mem_cons, List.not_mem_nil, or_false] at hc
  rcases hc with rfl | rfl | rfl
  · exact w_c0
  · exact w_c1
  · exact w_c2
set_option maxRecDepth 65536 in
theorem w_t1 : words1.all (fun c => isCode c || c.before args0 about1) = true := by decide +kernel
theorem w_tables : (allAtoms (Jvm.Cond.code x code maxLocals ret :: tables_1)).before args0 about1 = true := by
  rw [allAtoms_all]
  show words1.all (fun c => c.before args0 about1) = true
  refine all_split ?_ w_codes
  rw [w_t1]
set_option maxRecDepth 65536 in
theorem w_case : (Jvm.Cond.and given_1 narrow_1).before args0 about1 = true := by decide +kernel
theorem w_applies : (headSpec (Jvm.Cond.code x code maxLocals ret :: tables_1) room_1).applies x e0.platform about1 = true :=
  (Spec.applies_iff w_frames).mpr ⟨w_running, w_runnable, w_alone, w_named, w_hears, w_ripe, w_room, w_tables⟩
theorem atStart : AtStart classFile x code maxLocals ret World_1 tables_1 room_1 Calls_1 rest_1 Pre_1 launch0 p0 e0 about1 theMethod args0 below0 :=
  ⟨lists_1, trivial, launch0.admits_env _ _ _, launch0.least_env, fairChoices_fair.cas, fairChoices_fair.clock, w_frames, w_args, w_heap, w_applies, trivial, trivial, w_case⟩
end start1
theorem witness_1 : WitnessClaimed_1 := ⟨start1.p0, start1.e0, start1.about1, start1.theMethod, start1.args0, start1.below0, start1.atStart⟩
end Jvm.Pilot.@@N@@
