import JvmDerived
import JvmDerived.Pilot.@@N@@Statement
import JvmDerived.Pilot.@@N@@Code
set_option linter.unusedVariables false
set_option linter.unusedSimpArgs false
namespace Jvm.Pilot.@@N@@
open Jvm Jvm.ClassFile Sem Op Lib Jvm.Free Jvm.Stand Jvm.LawKit Jvm.RoadKit Bundle Jvm.Pilot.@@N@@.Jvm.D
/-! A walk in the backward style: 'own_Goes K T g': from the frame g over T the run comes to an end of which K holds. -/
def own_Goes (p : Program) (e : Env) (below : List Frame) (K : Outcome → State → Prop) (T : State) (g : JFrame) : Prop :=
  ∃ s₂ o, Steps p.tables e below (T.setTop g) s₂ ∧ s₂.status = .running ∧ Ended s₂ below o ∧ K o s₂
def own_K (Q : Option Value → Heap → List Loc → Prop) (U : State) (C S : Nat) : Outcome → State → Prop :=
  fun o U' => ∃ v L, o = .returned v ∧ Q v U'.heap L ∧ FrameEnd U o U' L C S
section OwnKit
variable {p : Program} {l : Launch} {e : Env} {R : Room} {s : State} {m : MethodId} {args : Array Value} {below : List Frame} {meth : Method} {c : Code} {T T' : State} {locs : List Loc} {cells slots : Nat} {Z : State} {a0 : Array Value} {h : Heap} {K : Outcome → State → Prop} {Q : Option Value → Heap → List Loc → Prop} {C S : Nat}
theorem own_by {g g' : JFrame} (st : ∀ t, Steps p.tables e below (T'.setTop g') t → Steps p.tables e below (T.setTop g) t) (k : own_Goes p e below K T' g') : own_Goes p e below K T g := by
  obtain ⟨s₂, o, h1, r⟩ := k
  exact ⟨s₂, o, st _ h1, r⟩
theorem own_retN (X : Stand p l e R s m args below meth c T locs cells slots) (hx : p.tables.exec = Jvm.exec) {pc : Nat} {Ls : Array Slot} {z : Int32} {t : FieldType} {rest : List Value} (hret : meth.sig.returnType = some t) (hlocks : meth.locks = false) (ht : t = .boolean ∨ t = .byte ∨ t = .char ∨ t = .short)
    (hd : decode c.code pc = .ok (.ireturn, 1)) (hc : cells ≤ C) (hs : slots ≤ S) {v : Int32} (hv : nar t z = v) (q : Q (some (.int v)) T.heap locs) : own_Goes p e below (own_K Q s C S) T (mkF m pc Ls (.int z :: rest)) := by
  subst hv
  obtain ⟨fs, hr, hrun, hended, hW, hsame⟩ := X.leave (v := some (.int (nar t z))) (fun h => by rw [hret] at h; cases h) hlocks
  exact ⟨_, _, retN X hx hret ht hd hr, hrun, hended, _, _, rfl, q, ⟨_, rfl⟩, hW, hsame.mono hc hs⟩
theorem own_retV (X : Stand p l e R s m args below meth c T locs cells slots) (hx : p.tables.exec = Jvm.exec) {pc : Nat} {Ls : Array Slot} {w : Value} {t : FieldType} {i : Instr} {rest : List Value} (hret : meth.sig.returnType = some t) (hlocks : meth.locks = false) (hn : narrow t w = w)
    (hi : (i = .ireturn ∧ (t = .int ∨ t = .boolean ∨ t = .byte ∨ t = .char ∨ t = .short) ∧ ∃ z, w = .int z) ∨ (i = .lreturn ∧ t = .long ∧ ∃ z, w = .long z) ∨ (i = .dreturn ∧ t = .double ∧ ∃ z, w = .double z) ∨ (i = .freturn ∧ t = .float ∧ ∃ z, w = .float z) ∨ (i = .areturn ∧ t.isReference = true ∧ w.isRef = true))
    (hd : decode c.code pc = .ok (i, 1)) (hc : cells ≤ C) (hs : slots ≤ S) (q : Q (some w) T.heap locs) : own_Goes p e below (own_K Q s C S) T (mkF m pc Ls (w :: rest)) := by
  obtain ⟨fs, hr, hrun, hended, hW, hsame⟩ := X.leave (v := some w) (fun h => by rw [hret] at h; cases h) hlocks
  exact ⟨_, _, retOut X hx hret hn hi hd hr, hrun, hended, _, _, rfl, q, ⟨_, rfl⟩, hW, hsame.mono hc hs⟩
theorem own_retI (X : Stand p l e R s m args below meth c T locs cells slots) (hx : p.tables.exec = Jvm.exec) {pc : Nat} {Ls : Array Slot} {z : Int32} {rest : List Value} (hret : meth.sig.returnType = some .int) (hlocks : meth.locks = false)
    (hd : decode c.code pc = .ok (.ireturn, 1)) (hc : cells ≤ C) (hs : slots ≤ S) (q : Q (some (.int z)) T.heap locs) : own_Goes p e below (own_K Q s C S) T (mkF m pc Ls (.int z :: rest)) :=
  own_retV X hx hret hlocks rfl (Or.inl ⟨rfl, Or.inl rfl, z, rfl⟩) hd hc hs q
theorem own_retJ (X : Stand p l e R s m args below meth c T locs cells slots) (hx : p.tables.exec = Jvm.exec) {pc : Nat} {Ls : Array Slot} {z : Int64} {rest : List Value} (hret : meth.sig.returnType = some .long) (hlocks : meth.locks = false)
    (hd : decode c.code pc = .ok (.lreturn, 1)) (hc : cells ≤ C) (hs : slots ≤ S) (q : Q (some (.long z)) T.heap locs) : own_Goes p e below (own_K Q s C S) T (mkF m pc Ls (.long z :: rest)) :=
  own_retV X hx hret hlocks rfl (Or.inr (Or.inl ⟨rfl, rfl, z, rfl⟩)) hd hc hs q
theorem own_retR (X : Stand p l e R s m args below meth c T locs cells slots) (hx : p.tables.exec = Jvm.exec) {pc : Nat} {Ls : Array Slot} {w : Value} {t : FieldType} {rest : List Value} (hret : meth.sig.returnType = some t) (hlocks : meth.locks = false) (ht : t.isReference = true) (hw : w.isRef = true)
    (hd : decode c.code pc = .ok (.areturn, 1)) (hc : cells ≤ C) (hs : slots ≤ S) (q : Q (some w) T.heap locs) : own_Goes p e below (own_K Q s C S) T (mkF m pc Ls (w :: rest)) :=
  own_retV X hx hret hlocks (by cases t <;> first | (cases ht; done) | (cases w <;> rfl)) (Or.inr (Or.inr (Or.inr (Or.inr ⟨rfl, ht, hw⟩)))) hd hc hs q
theorem own_ret0 (X : Stand p l e R s m args below meth c T locs cells slots) (hx : p.tables.exec = Jvm.exec) {pc : Nat} {Ls : Array Slot} (hret : meth.sig.returnType = none) (hlocks : meth.locks = false)
    (hd : decode c.code pc = .ok (.return_, 1)) (hc : cells ≤ C) (hs : slots ≤ S) (q : Q none T.heap locs) : own_Goes p e below (own_K Q s C S) T (mkF m pc Ls []) := by
  obtain ⟨fs, hr, hrun, hended, hW, hsame⟩ := X.leave (v := none) (fun _ => rfl) hlocks
  exact ⟨_, _, X.returnOut hx hret hd hr, hrun, hended, _, _, rfl, q, ⟨_, rfl⟩, hW, hsame.mono hc hs⟩
theorem own_lrem {g : JFrame} {target : State} (X : Stand p l e R s m args below meth c T locs cells slots) (hx : p.tables.exec = Jvm.exec) (hg : g.method = m) {x y : Int64} {rest : List Value} (hd : decode c.code g.pc = .ok (.lrem, 1)) (hs : g.stack = .long y :: .long x :: rest) (hy : y ≠ 0)
    (hr : Steps p.tables e below (T.setTop { g with pc := g.pc + 1, stack := .long (x % y) :: rest }) target) : Steps p.tables e below (T.setTop g) target := by
  have q : x - x / y * y = x % y := lrem_mod x y
  exact XS.lrem X.here hx hg hd hs hy (by rw [q]; exact hr)
/-- what a callee's theorem says -/
abbrev own_Met (l : Launch) (Z : State) (y : MethodName) (bytes : ByteArray) (maxL : Nat) (ret : Option FieldType) (rm : Room) (as' : Array Value) (h : Heap) (Q : Option Value → Heap → List Loc → Prop) : Prop :=
  MetFree l y (head1 [Cond.code y bytes maxL ret] rm) (fun a U => a = as' ∧ Z.Warmed39 U.vm ∧ U.heap = h) (fun _ _ _ _ _ => True) (fun _ U o U' => ∃ v L, o = .returned v ∧ Q v U'.heap L ∧ FrameEnd U o U' L rm.cells rm.slots)
theorem own_callS (X : Stand p l e R s m args below meth c T locs cells slots) (hx : p.tables.exec = Jvm.exec) (hZ : Z.Warmed39 s.vm) {own : String} {index : Nat} {y : MethodName} {bytes : ByteArray} {maxL : Nat} {ret : Option FieldType}
    (hown : s.vm.findClass own = some m.cls) (w1 : (Cond.methodLink own index y).before a0 Z = true) (w2 : (Cond.static y).before a0 Z = true) (w3 : (Cond.initialized y.cls).before a0 Z = true) (w4 : (Cond.code y bytes maxL ret).before a0 Z = true) (hy : y.cls ≠ "java/lang/invoke/MethodHandle" ∧ y.cls ≠ "java/lang/invoke/VarHandle")
    {rm : Room} {argsL rest : List Value} (hM : own_Met l Z y bytes maxL ret rm argsL.toArray h Q) (eT : T.heap = h) {W : Nat} (hf : rm.frames + 1 ≤ R.frames) (hl : W + (maxL + 11) + rm.locals ≤ R.locals) (hc : cells + rm.cells ≤ R.cells) (hs : slots + rm.slots ≤ R.slots)
    {g : JFrame} (hg : g.method = m) (hsize : g.locals.size = c.maxLocals) (hlen : ∀ sig, parseMethodDescriptor y.desc = some sig → argsL.length = sig.parameters.length)
    (hstack : g.stack = argsL.reverse ++ rest) (hW : 2 * g.monitorRoom + (rest.map fun v => v.category).sum ≤ W) (hdg : decode c.code g.pc = .ok (.invokestatic index, 3)) :
    ∃ (v : Option Value) (T' : State) (L : List Loc), Stand p l e R s m args below meth c T' (locs ++ L) (cells + rm.cells) (slots + rm.slots) ∧ Q v T'.heap L ∧ ∀ K, own_Goes p e below K T' { g with pc := g.pc + 3, stack := v.toList ++ rest } → own_Goes p e below K T g := by
  obtain ⟨v, vm₁, ⟨T', L', k', n'⟩, -, X', ⟨L, hQ, l1, l2, l3⟩, st⟩ := Jvm.LawKit.callS X hx hown (mvT hZ w1) (mvT hZ w2) (mvT hZ w3) (mvT hZ w4) hy (backOf (W := W) hM hZ w4 w3 hf hl) hg hsize hlen hstack hW hdg (fun _ _ => ⟨rfl, eT, hc, hs⟩)
  dsimp only [Pt.U, Pt.locs, Pt.cells, Pt.slots] at X' l1 l2 l3 st hQ
  subst l1 l2 l3
  exact ⟨v, T', L, X', hQ, fun K k => own_by st k⟩
theorem own_callI (X : Stand p l e R s m args below meth c T locs cells slots) (hx : p.tables.exec = Jvm.exec) (hZ : Z.Warmed39 s.vm) {own : String} {index : Nat} {y : MethodName} {bytes : ByteArray} {maxL : Nat} (hy1 : y.name = "<init>")
    (hown : s.vm.findClass own = some m.cls) (w1 : (Cond.methodLink own index y).before a0 Z = true) (w2 : (Cond.instanceMethod y).before a0 Z = true) (w3 : (Cond.initialized y.cls).before a0 Z = true) (w4 : (Cond.code y bytes maxL none).before a0 Z = true) (hy : y.cls ≠ "java/lang/invoke/MethodHandle" ∧ y.cls ≠ "java/lang/invoke/VarHandle")
    {rm : Room} {a : Addr} {argsL rest : List Value} (hM : own_Met l Z y bytes maxL none rm (.ref a :: argsL).toArray h Q) (eT : T.heap = h) {W : Nat} (hf : rm.frames + 1 ≤ R.frames) (hl : W + (maxL + 11) + rm.locals ≤ R.locals) (hc : cells + rm.cells ≤ R.cells) (hs : slots + rm.slots ≤ R.slots)
    {g : JFrame} (hg : g.method = m) (hsize : g.locals.size = c.maxLocals) (hlen : ∀ sig, parseMethodDescriptor y.desc = some sig → argsL.length = sig.parameters.length)
    (hstack : g.stack = argsL.reverse ++ .ref a :: rest) (hW : 2 * g.monitorRoom + (rest.map fun v => v.category).sum ≤ W) (hdg : decode c.code g.pc = .ok (.invokespecial index, 3)) :
    ∃ (v : Option Value) (T' : State) (L : List Loc), Stand p l e R s m args below meth c T' (locs ++ L) (cells + rm.cells) (slots + rm.slots) ∧ Q v T'.heap L ∧ ∀ K, own_Goes p e below K T' { g with pc := g.pc + 3, stack := v.toList ++ rest } → own_Goes p e below K T g := by
  obtain ⟨v, vm₁, ⟨T', L', k', n'⟩, -, X', ⟨L, hQ, l1, l2, l3⟩, st⟩ := X.specialBack hx hy1 hown (mvT hZ w1) (mvT hZ w2) (mvT hZ w4) hy (backOf (W := W) hM hZ w4 w3 hf hl) hg hsize (Steps.refl _) hlen hstack hW hdg (fun _ _ => ⟨rfl, eT, hc, hs⟩)
  dsimp only [Pt.U, Pt.locs, Pt.cells, Pt.slots] at X' l1 l2 l3 st hQ
  subst l1 l2 l3
  exact ⟨v, T', L, X', hQ, fun K k => own_by (fun t k => st.trans k) k⟩
theorem own_callV (X : Stand p l e R s m args below meth c T locs cells slots) (hx : p.tables.exec = Jvm.exec) (hZ : Z.Warmed39 s.vm) {own C : String} {index : Nat} {y : MethodName} {bytes : ByteArray} {maxL : Nat} {ret : Option FieldType}
    (hown : s.vm.findClass own = some m.cls) (w1 : (Cond.methodLink own index y).before a0 Z = true) (w5 : (Cond.declares y).before a0 Z = true) (w6 : (Cond.selects C y y).before a0 Z = true) (w2 : (Cond.instanceMethod y).before a0 Z = true) (w3 : (Cond.initialized y.cls).before a0 Z = true) (w4 : (Cond.code y bytes maxL ret).before a0 Z = true) (hy : y.cls ≠ "java/lang/invoke/MethodHandle" ∧ y.cls ≠ "java/lang/invoke/VarHandle")
    {rm : Room} {a : Addr} {argsL rest : List Value} (E : Exa Z h a C) (hM : own_Met l Z y bytes maxL ret rm (.ref a :: argsL).toArray h Q) (eT : T.heap = h) {W : Nat} (hf : rm.frames + 1 ≤ R.frames) (hl : W + (maxL + 11) + rm.locals ≤ R.locals) (hc : cells + rm.cells ≤ R.cells) (hs : slots + rm.slots ≤ R.slots)
    {g : JFrame} (hg : g.method = m) (hsize : g.locals.size = c.maxLocals) (hlen : ∀ sig, parseMethodDescriptor y.desc = some sig → argsL.length = sig.parameters.length)
    (hstack : g.stack = argsL.reverse ++ .ref a :: rest) (hW : 2 * g.monitorRoom + (rest.map fun v => v.category).sum ≤ W) (hdg : decode c.code g.pc = .ok (.invokevirtual index, 3)) :
    ∃ (v : Option Value) (T' : State) (L : List Loc), Stand p l e R s m args below meth c T' (locs ++ L) (cells + rm.cells) (slots + rm.slots) ∧ Q v T'.heap L ∧ ∀ K, own_Goes p e below K T' { g with pc := g.pc + 3, stack := v.toList ++ rest } → own_Goes p e below K T g := by
  obtain ⟨cB, kB, q1, q2, q3⟩ := isOf hZ eT E
  obtain ⟨v, vm₁, ⟨T', L', k', n'⟩, -, X', ⟨L, hQ, l1, l2, l3⟩, st⟩ := X.virtualBack hx hown (mvT hZ w1) (mvT hZ w5) (notFace_of_selects (args := #[]) (mvT hZ w6)) (mvT hZ w6) (mvT hZ w2) hy (backOf (W := W) hM hZ w4 w3 hf hl) q1 q3 hg hsize (Steps.refl _) hlen hstack hW hdg (fun _ _ => ⟨rfl, eT, hc, hs⟩)
  dsimp only [Pt.U, Pt.locs, Pt.cells, Pt.slots] at X' l1 l2 l3 st hQ
  subst l1 l2 l3
  exact ⟨v, T', L, X', hQ, fun K k => own_by (fun t k => st.trans k) k⟩
theorem own_callPv (X : Stand p l e R s m args below meth c T locs cells slots) (hx : p.tables.exec = Jvm.exec) (hZ : Z.Warmed39 s.vm) {own C : String} {index : Nat} {y : MethodName} {bytes : ByteArray} {maxL : Nat} {ret : Option FieldType}
    (hown : s.vm.findClass own = some m.cls) (w1 : (Cond.methodLink own index y).before a0 Z = true) (w6 : (Cond.selects y.cls y y).before a0 Z = true) (w2 : (Cond.instanceMethod y).before a0 Z = true) (w7 : (Cond.privateMethod y).before a0 Z = true) (w3 : (Cond.initialized y.cls).before a0 Z = true) (w4 : (Cond.code y bytes maxL ret).before a0 Z = true) (hy : y.cls ≠ "java/lang/invoke/MethodHandle" ∧ y.cls ≠ "java/lang/invoke/VarHandle")
    {rm : Room} {a : Addr} {argsL rest : List Value} (E : Exa Z h a C) (hM : own_Met l Z y bytes maxL ret rm (.ref a :: argsL).toArray h Q) (eT : T.heap = h) {W : Nat} (hf : rm.frames + 1 ≤ R.frames) (hl : W + (maxL + 11) + rm.locals ≤ R.locals) (hc : cells + rm.cells ≤ R.cells) (hs : slots + rm.slots ≤ R.slots)
    {g : JFrame} (hg : g.method = m) (hsize : g.locals.size = c.maxLocals) (hlen : ∀ sig, parseMethodDescriptor y.desc = some sig → argsL.length = sig.parameters.length)
    (hstack : g.stack = argsL.reverse ++ .ref a :: rest) (hW : 2 * g.monitorRoom + (rest.map fun v => v.category).sum ≤ W) (hdg : decode c.code g.pc = .ok (.invokevirtual index, 3)) :
    ∃ (v : Option Value) (T' : State) (L : List Loc), Stand p l e R s m args below meth c T' (locs ++ L) (cells + rm.cells) (slots + rm.slots) ∧ Q v T'.heap L ∧ ∀ K, own_Goes p e below K T' { g with pc := g.pc + 3, stack := v.toList ++ rest } → own_Goes p e below K T g := by
  obtain ⟨cq, q1, q2⟩ := E.cell
  obtain ⟨v, vm₁, ⟨T', L', k', n'⟩, -, X', ⟨L, hQ, l1, l2, l3⟩, st⟩ := X.privateBack hx hown (mvT hZ w1) (mvT hZ w2) (mvT hZ w6) (Cond.privateMethod_at (mvP hZ w7 (args := #[]))) (mvT hZ w4) hy (backOf (W := W) hM hZ w4 w3 hf hl) hg hsize (Steps.refl _) (by rw [eT]; exact q1) q2 hlen hstack hW hdg (fun _ _ => ⟨rfl, eT, hc, hs⟩)
  dsimp only [Pt.U, Pt.locs, Pt.cells, Pt.slots] at X' l1 l2 l3 st hQ
  subst l1 l2 l3
  exact ⟨v, T', L, X', hQ, fun K k => own_by (fun t k => st.trans k) k⟩
theorem own_Sta_keep {h' : Heap} {ws : List Addr} {O n d : String} {v : Value} (F : Sta Z h O n d v) (K : Keep h h' ws) (q : ∀ a ∈ ws, ∀ cell : Cell, h[a]? = some cell → cell.vm.isStatics = false) : Sta Z h' O n d v := by
  obtain ⟨cf, i, k, f, st, cell, h1, h2, h3, h4, h5, h6, h7⟩ := F
  refine ⟨cf, i, k, f, st, cell, h1, h2, h3, h4, K.2.1 st cell h5 (fun y => ?_), h6, h7⟩
  rw [q st y cell h5] at h6; cases h6
theorem own_selp {y : MethodName} {k : Nat} (w7 : (Cond.privateMethod y).before a0 Z = true) (w2 : (Cond.instanceMethod y).before a0 Z = true) (wi : (Cond.instantiable y.cls k).before a0 Z = true) (hy : y.cls ≠ "java/lang/invoke/MethodHandle" ∧ y.cls ≠ "java/lang/invoke/VarHandle") : (Cond.selects y.cls y y).before a0 Z = true := by
  obtain ⟨c, k, i1, i2, i3, i4, -⟩ := Cond.instantiable_spec wi
  rw [Bool.or_eq_false_iff] at i4
  exact Jvm.Stand.selects_self_of_private i1 i2 i4.1 (Cond.privateMethod_at w7) w2 hy
end OwnKit
theorem own_span (x : Int64) : 1 ≤ ((1 : Int64) + ((x &&& (4294967295 : Int64)) % (4294967295 : Int64))).toInt ∧ ((1 : Int64) + ((x &&& (4294967295 : Int64)) % (4294967295 : Int64))).toInt < 4294967296 := by
  have e := c_maskL x 4294967295 32 (by decide) (by decide)
  have l1 := Int.emod_nonneg x.toInt (show ((2 ^ 32 : Nat) : Int) ≠ 0 by decide)
  have z : ((x &&& (4294967295 : Int64)) % (4294967295 : Int64)).toInt = (x &&& (4294967295 : Int64)).toInt % 4294967295 := by
    rw [← lrem_mod]; exact (c_lrem _ _ 4294967295 rfl).1 (by rw [e]; exact l1)
  have a := c_ladd (1 : Int64) ((x &&& (4294967295 : Int64)) % (4294967295 : Int64))
  have r := rng64 ((1 : Int64) + ((x &&& (4294967295 : Int64)) % (4294967295 : Int64)))
  have l3 := Int.emod_nonneg (x &&& (4294967295 : Int64)).toInt (show (4294967295 : Int) ≠ 0 by decide)
  have l4 := Int.emod_lt_of_pos (x &&& (4294967295 : Int64)).toInt (show (0 : Int) < 4294967295 by decide)
  rw [z, show (1 : Int64).toInt = 1 from rfl] at a
  omega
theorem own_nz1 (q : Int64) (h : 1 ≤ q.toInt) : q ≠ 0 := fun e => by rw [e] at h; exact absurd h (by decide)
theorem own_exp (q : Int64) (h : 1 ≤ q.toInt) : ((4294967296 : Int64) % q).toInt = 4294967296 % q.toInt := by
  rw [← lrem_mod]; exact (c_lrem (4294967296 : Int64) q q.toInt rfl).1 (by decide)
theorem own_s1 (q r : Int64) (h1 : 1 ≤ q.toInt) (r1 : 0 ≤ r.toInt) (hc : ¬ r < q) : 0 ≤ (r - q).toInt := by
  rw [Int64.lt_iff_toInt_lt] at hc; have a := c_lsub r q; have := rng64 (r - q); have := rng64 r; omega
theorem own_s2 (q r : Int64) (n : Nat) (h1 : 1 ≤ q.toInt) (r1 : 0 ≤ r.toInt) (r2 : r.toInt < ((n + 1 : Nat) : Int)) (hc : ¬ r < q) : (r - q).toInt < (n : Int) := by
  rw [Int64.lt_iff_toInt_lt] at hc; have a := c_lsub r q; have := rng64 (r - q); have := rng64 r; omega
theorem own_s3 (q r : Int64) (h1 : 1 ≤ q.toInt) (r1 : 0 ≤ r.toInt) (hc : ¬ r < q) : (r - q).toInt % q.toInt = r.toInt % q.toInt := by
  rw [Int64.lt_iff_toInt_lt] at hc
  have e : (r - q).toInt = r.toInt + (-1) * q.toInt := by have a := c_lsub r q; have := rng64 (r - q); have := rng64 r; omega
  rw [e, Int.add_mul_emod_self_right]
theorem own_s4 (q r w : Int64) (r1 : 0 ≤ r.toInt) (hc : r < q) (r3 : r.toInt % q.toInt = w.toInt) : r = w := by
  rw [Int64.lt_iff_toInt_lt] at hc
  rw [← Int64.toInt_inj, ← r3, Int.emod_eq_of_lt r1 hc]
theorem own_a (q : Int64) (h1 : 1 ≤ q.toInt) (h2 : q.toInt < 4294967296) (hc : (1073741824 : Int64) < q) : 0 ≤ ((4294967296 : Int64) - q).toInt ∧ ((4294967296 : Int64) - q).toInt % q.toInt = 4294967296 % q.toInt := by
  have e : ((4294967296 : Int64) - q).toInt = 4294967296 + (-1) * q.toInt := by
    have a := c_lsub (4294967296 : Int64) q; have := rng64 ((4294967296 : Int64) - q); rw [show (4294967296 : Int64).toInt = 4294967296 from rfl] at a; omega
  refine ⟨by omega, ?_⟩
  rw [e, Int.add_mul_emod_self_right]
theorem own_q32 (q : Int64) (h1 : 1 ≤ q.toInt) (hc : ¬ (1073741824 : Int64) < q) : q.toInt32.toInt = q.toInt ∧ q.toInt ≤ 1073741824 := by
  rw [Int64.lt_iff_toInt_lt, show (1073741824 : Int64).toInt = 1073741824 from rfl] at hc
  have a := c_l2i q; have := rng32 q.toInt32; omega
theorem own_nz (q : Int64) (h1 : 1 ≤ q.toInt) (h2 : q.toInt < 4294967296) (hc : ¬ (1073741824 : Int64) < q) : q.toInt32 ≠ 0 := fun e => by
  have a := own_q32 q h1 hc; rw [e, show (0 : Int32).toInt = 0 from rfl] at a; omega
theorem own_b (q : Int64) (h1 : 1 ≤ q.toInt) (h2 : q.toInt < 4294967296) (hc : ¬ (1073741824 : Int64) < q) : 0 ≤ ((-2 : Int64) * ((-2147483648 : Int32) % q.toInt32).toInt64).toInt ∧ ((-2 : Int64) * ((-2147483648 : Int32) % q.toInt32).toInt64).toInt % q.toInt = 4294967296 % q.toInt := by
  obtain ⟨a1, a2⟩ := own_q32 q h1 hc
  have b := (c_irem (-2147483648 : Int32) q.toInt32 q.toInt a1).2 (by decide)
  rw [show (-2147483648 : Int32).toInt = -2147483648 from rfl, Int.neg_neg] at b
  have m1 := Int.emod_nonneg 2147483648 (show q.toInt ≠ 0 by omega)
  have m2 := Int.emod_lt_of_pos 2147483648 (show 0 < q.toInt by omega)
  have m3 := Int.mul_ediv_add_emod 2147483648 q.toInt
  have d := c_lmul (-2 : Int64) ((-2147483648 : Int32) % q.toInt32).toInt64
  have rr := rng64 ((-2 : Int64) * ((-2147483648 : Int32) % q.toInt32).toInt64)
  rw [c_i2l, b, show (-2 : Int64).toInt = -2 from rfl] at d
  have e : ((-2 : Int64) * ((-2147483648 : Int32) % q.toInt32).toInt64).toInt = 2 * (2147483648 % q.toInt) := by omega
  rw [e]
  refine ⟨by omega, ?_⟩
  generalize 2147483648 % q.toInt = mm at *
  generalize 2147483648 / q.toInt = kk at *
  have f : (4294967296 : Int) = 2 * mm + (2 * kk) * q.toInt := by
    have : 2 * kk * q.toInt = 2 * (q.toInt * kk) := by rw [Int.mul_assoc, Int.mul_comm kk]
    omega
  rw [f, Int.add_mul_emod_self_right]
theorem own_d_tm_0 : decode prog_1_method_23_code 0 = .ok (.lload_n 0, 1) := by decide +kernel
theorem own_d_tm_1 : decode prog_1_method_23_code 1 = .ok (.ldc2_w 165, 3) := by decide +kernel
theorem own_d_tm_4 : decode prog_1_method_23_code 4 = .ok (.lcmp, 1) := by decide +kernel
theorem own_d_tm_5 : decode prog_1_method_23_code 5 = .ok (.ifCond .le 12, 3) := by decide +kernel
theorem own_d_tm_8 : decode prog_1_method_23_code 8 = .ok (.ldc2_w 167, 3) := by decide +kernel
theorem own_d_tm_11 : decode prog_1_method_23_code 11 = .ok (.lload_n 0, 1) := by decide +kernel
theorem own_d_tm_12 : decode prog_1_method_23_code 12 = .ok (.lsub, 1) := by decide +kernel
theorem own_d_tm_13 : decode prog_1_method_23_code 13 = .ok (.lstore_n 2, 1) := by decide +kernel
theorem own_d_tm_14 : decode prog_1_method_23_code 14 = .ok (.goto 14, 3) := by decide +kernel
theorem own_d_tm_17 : decode prog_1_method_23_code 17 = .ok (.ldc2_w 169, 3) := by decide +kernel
theorem own_d_tm_20 : decode prog_1_method_23_code 20 = .ok (.ldc 171, 2) := by decide +kernel
theorem own_d_tm_22 : decode prog_1_method_23_code 22 = .ok (.lload_n 0, 1) := by decide +kernel
theorem own_d_tm_23 : decode prog_1_method_23_code 23 = .ok (.l2i, 1) := by decide +kernel
theorem own_d_tm_24 : decode prog_1_method_23_code 24 = .ok (.irem, 1) := by decide +kernel
theorem own_d_tm_25 : decode prog_1_method_23_code 25 = .ok (.i2l, 1) := by decide +kernel
theorem own_d_tm_26 : decode prog_1_method_23_code 26 = .ok (.lmul, 1) := by decide +kernel
theorem own_d_tm_27 : decode prog_1_method_23_code 27 = .ok (.lstore_n 2, 1) := by decide +kernel
theorem own_d_tm_28 : decode prog_1_method_23_code 28 = .ok (.lload_n 2, 1) := by decide +kernel
theorem own_d_tm_29 : decode prog_1_method_23_code 29 = .ok (.lload_n 0, 1) := by decide +kernel
theorem own_d_tm_30 : decode prog_1_method_23_code 30 = .ok (.lcmp, 1) := by decide +kernel
theorem own_d_tm_31 : decode prog_1_method_23_code 31 = .ok (.ifCond .lt 10, 3) := by decide +kernel
theorem own_d_tm_34 : decode prog_1_method_23_code 34 = .ok (.lload_n 2, 1) := by decide +kernel
theorem own_d_tm_35 : decode prog_1_method_23_code 35 = .ok (.lload_n 0, 1) := by decide +kernel
theorem own_d_tm_36 : decode prog_1_method_23_code 36 = .ok (.lsub, 1) := by decide +kernel
theorem own_d_tm_37 : decode prog_1_method_23_code 37 = .ok (.lstore_n 2, 1) := by decide +kernel
theorem own_d_tm_38 : decode prog_1_method_23_code 38 = .ok (.goto (-10), 3) := by decide +kernel
theorem own_d_tm_41 : decode prog_1_method_23_code 41 = .ok (.lload_n 2, 1) := by decide +kernel
theorem own_d_tm_42 : decode prog_1_method_23_code 42 = .ok (.lreturn, 1) := by decide +kernel
theorem own_pn_com_example_fairdice_fairdice_Draws : plainName "com/example/fairdice/fairdice/Draws" = true := by first | (simp [plainName, overriddenIn]; done) | decide +kernel
theorem own_ef_tm (m : MethodId) (q : Int64) : entryFrame m #[(.long q)] 4 = mkF m 0 #[.val (.long q), .second, .unset, .unset] [] := by first | rfl | (simp [entryFrame, mkF, argsToLocals, Value.category]; done)
def own_Q_tm (Z : State) (q : Int64) (w0 : Int64) (h0 : Heap) (n0 : Nat) (v : Option Value) (h : Heap) (L : List Loc) : Prop := v = some (.long w0) ∧ Fr n0 L ∧ h = h0
set_option maxRecDepth 65536 in
set_option maxHeartbeats 40000000 in
theorem own_rm_tm (l : Launch) (Z : State) (a0 : Array Value) (hw : ∀ d ∈ tables_1, d.before a0 Z = true) (ws : List Jvm.Cond) (q : Int64) (w0 : Int64) (h0 : Heap) (n0 : Nat) (Z0 : n0 ≤ h0.size) (hq1 : 1 ≤ q.toInt) (hq2 : q.toInt < 4294967296) (hw0 : w0.toInt = 4294967296 % q.toInt) :
    MetFree l (⟨"com/example/fairdice/fairdice/Draws", "twoTo32Mod", "(J)J"⟩ : MethodName) (head1 (Jvm.Cond.code (⟨"com/example/fairdice/fairdice/Draws", "twoTo32Mod", "(J)J"⟩ : MethodName) prog_1_method_23_code 4 (some .long) :: ws) ({ frames := 0, cells := 0, slots := 0, locals := 0 } : Room)) (fun a_ U_ => a_ = #[(.long q)] ∧ Z.Warmed39 U_.vm ∧ U_.heap = h0) (fun _ _ _ _ _ => True) (fun _ U_ o_ U'_ => ∃ v_ L_, o_ = .returned v_ ∧ own_Q_tm Z q w0 h0 n0 v_ U'_.heap L_ ∧ FrameEnd U_ o_ U'_ L_ ({ frames := 0, cells := 0, slots := 0, locals := 0 } : Room).cells ({ frames := 0, cells := 0, slots := 0, locals := 0 } : Room).slots) := by
  refine MetFree.of_bodySF (plainFor_of_name own_pn_com_example_fairdice_fairdice_Draws) hisR ?_
  intro p e s m args below meth c s₁ Bd hml0 hP hK
  obtain ⟨rfl, hZ, hh⟩ := hP
  have hx := Bd.exec
  have hby := Bd.bytes
  have hlk : meth.locks = false := BodyLoose.notSynchronized Bd
  have hml : c.maxLocals = 4 := hml0
  have hown : s.vm.findClass "com/example/fairdice/fairdice/Draws" = some m.cls := findClass_of_methodNamed Bd.named
  have hnm := (name_of_methodNamed Bd.named Bd.method).1
  have X0 : Stand p l e ({ frames := 0, cells := 0, slots := 0, locals := 0 } : Room) s m #[(.long q)] below meth c s₁ [] 0 0 := Stand.of_body Bd
  have e0 : s₁.heap = h0 := by rw [← hh, Bd.state]; rfl
  have N0 := Fr.nil n0
  show own_Goes p e below (own_K (own_Q_tm Z q w0 h0 n0) s ({ frames := 0, cells := 0, slots := 0, locals := 0 } : Room).cells ({ frames := 0, cells := 0, slots := 0, locals := 0 } : Room).slots) s₁ (entryFrame m #[(.long q)] 4)
  rw [own_ef_tm]
  have loop : ∀ (n : Nat) (r : Int64), 0 ≤ r.toInt → r.toInt < n → r.toInt % q.toInt = w0.toInt → own_Goes p e below (own_K (own_Q_tm Z q w0 h0 n0) s ({ frames := 0, cells := 0, slots := 0, locals := 0 } : Room).cells ({ frames := 0, cells := 0, slots := 0, locals := 0 } : Room).slots) s₁ (mkF m 28 #[.val (.long q), .second, .val (.long r), .second] []) := by
    intro n
    induction n with
    | zero => intro r r1 r2 r3; exact absurd r2 (by omega)
    | succ n ih =>
      intro r r1 r2 r3
      refine own_by (T' := s₁) (g' := (mkF m 29 #[.val (.long q), .second, .val (.long r), .second] [(.long r)])) (fun t_ k_ => XS.lloadN X0.here hx rfl (hb hby own_d_tm_28) rfl k_) ?_
      refine own_by (T' := s₁) (g' := (mkF m 30 #[.val (.long q), .second, .val (.long r), .second] [(.long q), (.long r)])) (fun t_ k_ => XS.lloadN X0.here hx rfl (hb hby own_d_tm_29) rfl k_) ?_
      refine own_by (T' := s₁) (g' := (mkF m 31 #[.val (.long q), .second, .val (.long r), .second] [(.int (lcmpW r q))])) (fun t_ k_ => XS.lcmp X0.here hx rfl (hb hby own_d_tm_30) rfl k_) ?_
      by_cases c31_1 : r < q
      · skip
        refine own_by (T' := s₁) (g' := (mkF m 41 #[.val (.long q), .second, .val (.long r), .second] [])) (fun t_ k_ => XS.ifYes X0.here hx rfl (pc0 := 31) (pc' := 41) rfl (hb hby own_d_tm_31) rfl ((if0 _ _).trans (tlt (((lw_lt _ _).mpr c31_1) : (lcmpW r q) < (0 : Int32))).1) (by decide) (by decide) k_) ?_
        refine own_by (T' := s₁) (g' := (mkF m 42 #[.val (.long q), .second, .val (.long r), .second] [(.long r)])) (fun t_ k_ => XS.lloadN X0.here hx rfl (hb hby own_d_tm_41) rfl k_) ?_
        refine own_retJ X0 hx Bd.returns hlk (hb hby own_d_tm_42) (by decide) (by decide) ?_
        rw [e0]
        exact ⟨by rw [own_s4 q r w0 r1 c31_1 r3], N0, rfl⟩
      · skip
        refine own_by (T' := s₁) (g' := (mkF m 34 #[.val (.long q), .second, .val (.long r), .second] [])) (fun t_ k_ => XS.ifNo X0.here hx rfl (hb hby own_d_tm_31) rfl ((if0 _ _).trans (flt ((fun q_ => c31_1 ((lw_lt _ _).mp q_)) : ¬ ((lcmpW r q) < (0 : Int32)))).1) k_) ?_
        refine own_by (T' := s₁) (g' := (mkF m 35 #[.val (.long q), .second, .val (.long r), .second] [(.long r)])) (fun t_ k_ => XS.lloadN X0.here hx rfl (hb hby own_d_tm_34) rfl k_) ?_
        refine own_by (T' := s₁) (g' := (mkF m 36 #[.val (.long q), .second, .val (.long r), .second] [(.long q), (.long r)])) (fun t_ k_ => XS.lloadN X0.here hx rfl (hb hby own_d_tm_35) rfl k_) ?_
        refine own_by (T' := s₁) (g' := (mkF m 37 #[.val (.long q), .second, .val (.long r), .second] [(.long (r - q))])) (fun t_ k_ => XS.lsub X0.here hx rfl (hb hby own_d_tm_36) rfl k_) ?_
        refine own_by (T' := s₁) (g' := (mkF m 38 #[.val (.long q), .second, .val (.long (r - q)), .second] [])) (fun t_ k_ => XS.lstoreN X0.here hx rfl (hb hby own_d_tm_37) rfl (l' := #[.val (.long q), .second, .val (.long (r - q)), .second]) rfl k_) ?_
        refine own_by (T' := s₁) (g' := (mkF m 28 #[.val (.long q), .second, .val (.long (r - q)), .second] [])) (fun t_ k_ => XS.goto X0.here hx rfl (pc0 := 38) (pc' := 28) rfl (hb hby own_d_tm_38) (by decide) (by decide) k_) ?_
        exact ih _ (own_s1 q r hq1 r1 c31_1) (own_s2 q r n hq1 r1 r2 c31_1) ((own_s3 q r hq1 r1 c31_1).trans r3)
  refine own_by (T' := s₁) (g' := (mkF m 1 #[.val (.long q), .second, .unset, .unset] [(.long q)])) (fun t_ k_ => XS.lloadN X0.here hx rfl (hb hby own_d_tm_0) rfl k_) ?_
  refine own_by (T' := s₁) (g' := (mkF m 4 #[.val (.long q), .second, .unset, .unset] [(.long (1073741824 : Int64)), (.long q)])) (fun t_ k_ => X0.ldc2Long hx hown (mvT hZ (hw _ (List.mem_of_getElem? (i := 6) rfl))) (g := (mkF m 1 #[.val (.long q), .second, .unset, .unset] [(.long q)])) rfl (hb hby own_d_tm_1) _ k_) ?_
  refine own_by (T' := s₁) (g' := (mkF m 5 #[.val (.long q), .second, .unset, .unset] [(.int (lcmpW q (1073741824 : Int64)))])) (fun t_ k_ => XS.lcmp X0.here hx rfl (hb hby own_d_tm_4) rfl k_) ?_
  by_cases c5_2 : (1073741824 : Int64) < q
  · skip
    refine own_by (T' := s₁) (g' := (mkF m 8 #[.val (.long q), .second, .unset, .unset] [])) (fun t_ k_ => XS.ifNo X0.here hx rfl (hb hby own_d_tm_5) rfl ((if0 _ _).trans (tlt (((lw_gt _ _).mpr c5_2) : (0 : Int32) < (lcmpW q (1073741824 : Int64)))).2.2.2) k_) ?_
    refine own_by (T' := s₁) (g' := (mkF m 11 #[.val (.long q), .second, .unset, .unset] [(.long (4294967296 : Int64))])) (fun t_ k_ => X0.ldc2Long hx hown (mvT hZ (hw _ (List.mem_of_getElem? (i := 9) rfl))) (g := (mkF m 8 #[.val (.long q), .second, .unset, .unset] [])) rfl (hb hby own_d_tm_8) _ k_) ?_
    refine own_by (T' := s₁) (g' := (mkF m 12 #[.val (.long q), .second, .unset, .unset] [(.long q), (.long (4294967296 : Int64))])) (fun t_ k_ => XS.lloadN X0.here hx rfl (hb hby own_d_tm_11) rfl k_) ?_
    refine own_by (T' := s₁) (g' := (mkF m 13 #[.val (.long q), .second, .unset, .unset] [(.long ((4294967296 : Int64) - q))])) (fun t_ k_ => XS.lsub X0.here hx rfl (hb hby own_d_tm_12) rfl k_) ?_
    refine own_by (T' := s₁) (g' := (mkF m 14 #[.val (.long q), .second, .val (.long ((4294967296 : Int64) - q)), .second] [])) (fun t_ k_ => XS.lstoreN X0.here hx rfl (hb hby own_d_tm_13) rfl (l' := #[.val (.long q), .second, .val (.long ((4294967296 : Int64) - q)), .second]) rfl k_) ?_
    refine own_by (T' := s₁) (g' := (mkF m 28 #[.val (.long q), .second, .val (.long ((4294967296 : Int64) - q)), .second] [])) (fun t_ k_ => XS.goto X0.here hx rfl (pc0 := 14) (pc' := 28) rfl (hb hby own_d_tm_14) (by decide) (by decide) k_) ?_
    obtain ⟨b1, b2⟩ := own_a q hq1 hq2 c5_2
    exact loop ((((4294967296 : Int64) - q)).toInt.toNat + 1) _ b1 (by omega) (b2.trans hw0.symm)
  · skip
    refine own_by (T' := s₁) (g' := (mkF m 17 #[.val (.long q), .second, .unset, .unset] [])) (fun t_ k_ => XS.ifYes X0.here hx rfl (pc0 := 5) (pc' := 17) rfl (hb hby own_d_tm_5) rfl ((if0 _ _).trans (flt ((fun q_ => c5_2 ((lw_gt _ _).mp q_)) : ¬ ((0 : Int32) < (lcmpW q (1073741824 : Int64))))).2.2.2) (by decide) (by decide) k_) ?_
    refine own_by (T' := s₁) (g' := (mkF m 20 #[.val (.long q), .second, .unset, .unset] [(.long (-2 : Int64))])) (fun t_ k_ => X0.ldc2Long hx hown (mvT hZ (hw _ (List.mem_of_getElem? (i := 7) rfl))) (g := (mkF m 17 #[.val (.long q), .second, .unset, .unset] [])) rfl (hb hby own_d_tm_17) _ k_) ?_
    refine own_by (T' := s₁) (g' := (mkF m 22 #[.val (.long q), .second, .unset, .unset] [(.int (-2147483648 : Int32)), (.long (-2 : Int64))])) (fun t_ k_ => X0.ldcInt hx hown (mvT hZ (hw _ (List.mem_of_getElem? (i := 8) rfl))) (g := (mkF m 20 #[.val (.long q), .second, .unset, .unset] [(.long (-2 : Int64))])) rfl (hb hby own_d_tm_20) _ k_) ?_
    refine own_by (T' := s₁) (g' := (mkF m 23 #[.val (.long q), .second, .unset, .unset] [(.long q), (.int (-2147483648 : Int32)), (.long (-2 : Int64))])) (fun t_ k_ => XS.lloadN X0.here hx rfl (hb hby own_d_tm_22) rfl k_) ?_
    refine own_by (T' := s₁) (g' := (mkF m 24 #[.val (.long q), .second, .unset, .unset] [(.int q.toInt32), (.int (-2147483648 : Int32)), (.long (-2 : Int64))])) (fun t_ k_ => XS.l2i X0.here hx rfl (hb hby own_d_tm_23) rfl k_) ?_
    refine own_by (T' := s₁) (g' := (mkF m 25 #[.val (.long q), .second, .unset, .unset] [(.int ((-2147483648 : Int32) % q.toInt32)), (.long (-2 : Int64))])) (fun t_ k_ => Jvm.RoadKit.iremM X0 hx rfl (hb hby own_d_tm_24) rfl (own_nz q hq1 hq2 c5_2) k_) ?_
    refine own_by (T' := s₁) (g' := (mkF m 26 #[.val (.long q), .second, .unset, .unset] [(.long ((-2147483648 : Int32) % q.toInt32).toInt64), (.long (-2 : Int64))])) (fun t_ k_ => XS.i2l X0.here hx rfl (hb hby own_d_tm_25) rfl k_) ?_
    refine own_by (T' := s₁) (g' := (mkF m 27 #[.val (.long q), .second, .unset, .unset] [(.long ((-2 : Int64) * ((-2147483648 : Int32) % q.toInt32).toInt64))])) (fun t_ k_ => XS.lmul X0.here hx rfl (hb hby own_d_tm_26) rfl k_) ?_
    refine own_by (T' := s₁) (g' := (mkF m 28 #[.val (.long q), .second, .val (.long ((-2 : Int64) * ((-2147483648 : Int32) % q.toInt32).toInt64)), .second] [])) (fun t_ k_ => XS.lstoreN X0.here hx rfl (hb hby own_d_tm_27) rfl (l' := #[.val (.long q), .second, .val (.long ((-2 : Int64) * ((-2147483648 : Int32) % q.toInt32).toInt64)), .second]) rfl k_) ?_
    obtain ⟨b1, b2⟩ := own_b q hq1 hq2 c5_2
    exact loop ((((-2 : Int64) * ((-2147483648 : Int32) % q.toInt32).toInt64)).toInt.toNat + 1) _ b1 (by omega) (b2.trans hw0.symm)
theorem own_pd0 : parseMethodDescriptor "(J)J" = some ⟨[.long], some .long⟩ := by decide +kernel
theorem own_pn_com_example_fairdice_fairdice_DrawsTwoTo32ModPinLaw : plainName "com/example/fairdice/fairdice/DrawsTwoTo32ModPinLaw" = true := by first | (simp [plainName, overriddenIn]; done) | decide +kernel
theorem own_ef_law (m : MethodId) (q0 : Int64) : entryFrame m #[(.long q0)] maxLocals = mkF m 0 #[.val (.long q0), .second, .unset, .unset, .unset, .unset, .unset, .unset] [] := by first | rfl | (simp [entryFrame, mkF, argsToLocals, Value.category, maxLocals]; done)
def own_Q_law (Z : State) (q0 : Int64) (h0 : Heap) (n0 : Nat) (v : Option Value) (h : Heap) (L : List Loc) : Prop := v = some (.int 1) ∧ Fr n0 L
set_option maxRecDepth 65536 in
set_option maxHeartbeats 40000000 in
theorem own_rm_law (l : Launch) (Z : State) (a0 : Array Value) (hw : ∀ d ∈ tables_1, d.before a0 Z = true) (ws : List Jvm.Cond) (q0 : Int64) (h0 : Heap) (n0 : Nat) (Z0 : n0 ≤ h0.size) :
    MetFree l x (head1 (Jvm.Cond.code x code maxLocals ret :: ws) room_1) (fun a_ U_ => a_ = #[(.long q0)] ∧ Z.Warmed39 U_.vm ∧ U_.heap = h0) (fun _ _ _ _ _ => True) (fun _ U_ o_ U'_ => ∃ v_ L_, o_ = .returned v_ ∧ own_Q_law Z q0 h0 n0 v_ U'_.heap L_ ∧ FrameEnd U_ o_ U'_ L_ room_1.cells room_1.slots) := by
  refine MetFree.of_bodySF (plainFor_of_name own_pn_com_example_fairdice_fairdice_DrawsTwoTo32ModPinLaw) hisR ?_
  intro p e s m args below meth c s₁ Bd hml0 hP hK
  obtain ⟨rfl, hZ, hh⟩ := hP
  have hx := Bd.exec
  have hby := Bd.bytes
  have hlk : meth.locks = false := BodyLoose.notSynchronized Bd
  have hml : c.maxLocals = 8 := hml0
  have hown : s.vm.findClass "com/example/fairdice/fairdice/DrawsTwoTo32ModPinLaw" = some m.cls := findClass_of_methodNamed Bd.named
  have hnm := (name_of_methodNamed Bd.named Bd.method).1
  have X0 : Stand p l e room_1 s m #[(.long q0)] below meth c s₁ [] 0 0 := Stand.of_body Bd
  have e0 : s₁.heap = h0 := by rw [← hh, Bd.state]; rfl
  have N0 := Fr.nil n0
  show own_Goes p e below (own_K (own_Q_law Z q0 h0 n0) s room_1.cells room_1.slots) s₁ (entryFrame m #[(.long q0)] maxLocals)
  rw [own_ef_law]
  refine own_by (T' := s₁) (g' := (mkF m 1 #[.val (.long q0), .second, .unset, .unset, .unset, .unset, .unset, .unset] [(.long (1 : Int64))])) (fun t_ k_ => XS.lconst X0.here hx rfl (hb hby at_0) k_) ?_
  refine own_by (T' := s₁) (g' := (mkF m 2 #[.val (.long q0), .second, .unset, .unset, .unset, .unset, .unset, .unset] [(.long q0), (.long (1 : Int64))])) (fun t_ k_ => XS.lloadN X0.here hx rfl (hb hby at_1) rfl k_) ?_
  refine own_by (T' := s₁) (g' := (mkF m 5 #[.val (.long q0), .second, .unset, .unset, .unset, .unset, .unset, .unset] [(.long (4294967295 : Int64)), (.long q0), (.long (1 : Int64))])) (fun t_ k_ => X0.ldc2Long hx hown (mvT hZ (hw _ (List.mem_of_getElem? (i := 0) rfl))) (g := (mkF m 2 #[.val (.long q0), .second, .unset, .unset, .unset, .unset, .unset, .unset] [(.long q0), (.long (1 : Int64))])) rfl (hb hby at_2) _ k_) ?_
  refine own_by (T' := s₁) (g' := (mkF m 6 #[.val (.long q0), .second, .unset, .unset, .unset, .unset, .unset, .unset] [(.long (q0 &&& (4294967295 : Int64))), (.long (1 : Int64))])) (fun t_ k_ => XS.land X0.here hx rfl (hb hby at_5) rfl k_) ?_
  refine own_by (T' := s₁) (g' := (mkF m 9 #[.val (.long q0), .second, .unset, .unset, .unset, .unset, .unset, .unset] [(.long (4294967295 : Int64)), (.long (q0 &&& (4294967295 : Int64))), (.long (1 : Int64))])) (fun t_ k_ => X0.ldc2Long hx hown (mvT hZ (hw _ (List.mem_of_getElem? (i := 0) rfl))) (g := (mkF m 6 #[.val (.long q0), .second, .unset, .unset, .unset, .unset, .unset, .unset] [(.long (q0 &&& (4294967295 : Int64))), (.long (1 : Int64))])) rfl (hb hby at_6) _ k_) ?_
  refine own_by (T' := s₁) (g' := (mkF m 10 #[.val (.long q0), .second, .unset, .unset, .unset, .unset, .unset, .unset] [(.long ((q0 &&& (4294967295 : Int64)) % (4294967295 : Int64))), (.long (1 : Int64))])) (fun t_ k_ => own_lrem X0 hx rfl (hb hby at_9) rfl (by decide) k_) ?_
  refine own_by (T' := s₁) (g' := (mkF m 11 #[.val (.long q0), .second, .unset, .unset, .unset, .unset, .unset, .unset] [(.long ((1 : Int64) + ((q0 &&& (4294967295 : Int64)) % (4294967295 : Int64))))])) (fun t_ k_ => XS.ladd X0.here hx rfl (hb hby at_10) rfl k_) ?_
  refine own_by (T' := s₁) (g' := (mkF m 12 #[.val (.long q0), .second, .val (.long ((1 : Int64) + ((q0 &&& (4294967295 : Int64)) % (4294967295 : Int64)))), .second, .unset, .unset, .unset, .unset] [])) (fun t_ k_ => XS.lstoreN X0.here hx rfl (hb hby at_11) rfl (l' := #[.val (.long q0), .second, .val (.long ((1 : Int64) + ((q0 &&& (4294967295 : Int64)) % (4294967295 : Int64)))), .second, .unset, .unset, .unset, .unset]) rfl k_) ?_
  obtain ⟨q, hq⟩ : ∃ z, z = ((1 : Int64) + ((q0 &&& (4294967295 : Int64)) % (4294967295 : Int64))) := ⟨_, rfl⟩
  rw [← hq]
  obtain ⟨hq1, hq2⟩ := own_span q0
  rw [← hq] at hq1 hq2
  refine own_by (T' := s₁) (g' := (mkF m 15 #[.val (.long q0), .second, .val (.long q), .second, .unset, .unset, .unset, .unset] [(.long (4294967296 : Int64))])) (fun t_ k_ => X0.ldc2Long hx hown (mvT hZ (hw _ (List.mem_of_getElem? (i := 1) rfl))) (g := (mkF m 12 #[.val (.long q0), .second, .val (.long q), .second, .unset, .unset, .unset, .unset] [])) rfl (hb hby at_12) _ k_) ?_
  refine own_by (T' := s₁) (g' := (mkF m 16 #[.val (.long q0), .second, .val (.long q), .second, .unset, .unset, .unset, .unset] [(.long q), (.long (4294967296 : Int64))])) (fun t_ k_ => XS.lloadN X0.here hx rfl (hb hby at_15) rfl k_) ?_
  refine own_by (T' := s₁) (g' := (mkF m 17 #[.val (.long q0), .second, .val (.long q), .second, .unset, .unset, .unset, .unset] [(.long ((4294967296 : Int64) % q))])) (fun t_ k_ => own_lrem X0 hx rfl (hb hby at_16) rfl (own_nz1 q hq1) k_) ?_
  refine own_by (T' := s₁) (g' := (mkF m 19 #[.val (.long q0), .second, .val (.long q), .second, .val (.long ((4294967296 : Int64) % q)), .second, .unset, .unset] [])) (fun t_ k_ => XS.lstore X0.here hx rfl (hb hby at_17) rfl (l' := #[.val (.long q0), .second, .val (.long q), .second, .val (.long ((4294967296 : Int64) % q)), .second, .unset, .unset]) rfl k_) ?_
  refine own_by (T' := s₁) (g' := (mkF m 20 #[.val (.long q0), .second, .val (.long q), .second, .val (.long ((4294967296 : Int64) % q)), .second, .unset, .unset] [(.long q)])) (fun t_ k_ => XS.lloadN X0.here hx rfl (hb hby at_19) rfl k_) ?_
  obtain ⟨_, T1, L1, X1, hQ1, st1⟩ := own_callS X0 hx hZ (y := (⟨"com/example/fairdice/fairdice/Draws", "twoTo32Mod", "(J)J"⟩ : MethodName)) hown (hw _ (List.mem_of_getElem? (i := 2) rfl)) (hw _ (List.mem_of_getElem? (i := 3) rfl)) (hw _ (List.mem_of_getElem? (i := 4) rfl)) (hw _ (List.mem_of_getElem? (i := 5) rfl)) (by decide) (argsL := [(.long q)]) (rest := []) (own_rm_tm l Z a0 hw [] q ((4294967296 : Int64) % q) h0 n0 Z0 hq1 hq2 (own_exp q hq1)) e0 (W := 0) (by decide) (by decide) (by decide) (by decide) (g := (mkF m 20 #[.val (.long q0), .second, .val (.long q), .second, .val (.long ((4294967296 : Int64) % q)), .second, .unset, .unset] [(.long q)])) rfl (by rw [hml]; rfl) (lenOf own_pd0 rfl) rfl (by show 2 * 0 + _ ≤ _; exact Nat.le_of_eq rfl) (hb hby at_20)
  obtain ⟨rfl, Nq1, e1⟩ := hQ1
  have N1 := Fr.app N0 Nq1
  refine st1 _ ?_
  show own_Goes p e below _ T1 (mkF m 23 #[.val (.long q0), .second, .val (.long q), .second, .val (.long ((4294967296 : Int64) % q)), .second, .unset, .unset] [(.long ((4294967296 : Int64) % q))])
  refine own_by (T' := T1) (g' := (mkF m 25 #[.val (.long q0), .second, .val (.long q), .second, .val (.long ((4294967296 : Int64) % q)), .second, .val (.long ((4294967296 : Int64) % q)), .second] [])) (fun t_ k_ => XS.lstore X1.here hx rfl (hb hby at_23) rfl (l' := #[.val (.long q0), .second, .val (.long q), .second, .val (.long ((4294967296 : Int64) % q)), .second, .val (.long ((4294967296 : Int64) % q)), .second]) rfl k_) ?_
  refine own_by (T' := T1) (g' := (mkF m 27 #[.val (.long q0), .second, .val (.long q), .second, .val (.long ((4294967296 : Int64) % q)), .second, .val (.long ((4294967296 : Int64) % q)), .second] [(.long ((4294967296 : Int64) % q))])) (fun t_ k_ => XS.lload X1.here hx rfl (hb hby at_25) rfl k_) ?_
  refine own_by (T' := T1) (g' := (mkF m 29 #[.val (.long q0), .second, .val (.long q), .second, .val (.long ((4294967296 : Int64) % q)), .second, .val (.long ((4294967296 : Int64) % q)), .second] [(.long ((4294967296 : Int64) % q)), (.long ((4294967296 : Int64) % q))])) (fun t_ k_ => XS.lload X1.here hx rfl (hb hby at_27) rfl k_) ?_
  refine own_by (T' := T1) (g' := (mkF m 30 #[.val (.long q0), .second, .val (.long q), .second, .val (.long ((4294967296 : Int64) % q)), .second, .val (.long ((4294967296 : Int64) % q)), .second] [(.int (lcmpW ((4294967296 : Int64) % q) ((4294967296 : Int64) % q)))])) (fun t_ k_ => XS.lcmp X1.here hx rfl (hb hby at_29) rfl k_) ?_
  refine own_by (T' := T1) (g' := (mkF m 33 #[.val (.long q0), .second, .val (.long q), .second, .val (.long ((4294967296 : Int64) % q)), .second, .val (.long ((4294967296 : Int64) % q)), .second] [])) (fun t_ k_ => XS.ifNo X1.here hx rfl (hb hby at_30) rfl ((if0 _ _).trans (teq (((lw_eq _ _).mpr rfl) : (lcmpW ((4294967296 : Int64) % q) ((4294967296 : Int64) % q)) = (0 : Int32))).2) k_) ?_
  refine own_by (T' := T1) (g' := (mkF m 34 #[.val (.long q0), .second, .val (.long q), .second, .val (.long ((4294967296 : Int64) % q)), .second, .val (.long ((4294967296 : Int64) % q)), .second] [(.int (1 : Int32))])) (fun t_ k_ => XS.iconst X1.here hx rfl (hb hby at_33) k_) ?_
  refine own_by (T' := T1) (g' := (mkF m 38 #[.val (.long q0), .second, .val (.long q), .second, .val (.long ((4294967296 : Int64) % q)), .second, .val (.long ((4294967296 : Int64) % q)), .second] [(.int (1 : Int32))])) (fun t_ k_ => XS.goto X1.here hx rfl (pc0 := 34) (pc' := 38) rfl (hb hby at_34) (by decide) (by decide) k_) ?_
  refine own_retN X1 hx (t := .boolean) Bd.returns hlk (by simp) (hb hby at_38) (by decide) (by decide) (v := (1 : Int32)) rfl ?_
  rw [e1]
  exact ⟨rfl, N1⟩
set_option maxRecDepth 65536 in
set_option maxHeartbeats 40000000 in
theorem own_comes {Post : Tables → Env → Array Value → State → Outcome → State → Prop} (hpost : ∀ tb e args s v u, (limb_1_1.after args s (.returned v) u = true ∧ limb_1_2.after args s (.returned v) u = true ∧ True) → FrameEnd s (.returned v) u (Jvm.fieldLocs frame_1_writes args s ++ Jvm.arrayLocs frame_1_arrays args s ++ Jvm.staticLocs frame_1_statics s) 0 0 → Post tb e args s (.returned v) u) :
    ArmFor flags0 classFile x code maxLocals ret World_1 tables_1 room_1 Calls_1 rest_1 Pre_1 Post := by
  intro l hfl _ _ p e ha hc hk s m args below hf hA hF happ hP
  obtain ⟨hcalls, hrest, hpre⟩ := hP
  obtain ⟨-, -, -, hnamed, -, -, -, hat⟩ := (Spec.applies_iff hf).mp happ
  obtain ⟨hg, hn⟩ := and_e (Cond.before_iff.mp (show (Jvm.Cond.and given_1 narrow_1).before args s = true from hpre))
  obtain ⟨g0, gr0⟩ := and_e hg
  obtain ⟨w0, rfl⟩ : ∃ w0 : Value, args = #[w0] := by
    have hs : args.size = 1 := by simpa [Cond.value, given_1] using g0
    obtain ⟨L⟩ := args
    match L, hs with
    | [w0], _ => exact ⟨w0, rfl⟩
  have hw := fun d (hd : d ∈ tables_1) => atoms_spec (ws := Jvm.Cond.code x code maxLocals ret :: tables_1) hat d (List.mem_cons_of_mem _ hd)
  have hfit : Fit s := fun {y c} hc i hi => by
    obtain ⟨ha, rfl⟩ := Array.getElem?_eq_some_iff.mp hc
    have q := List.all_eq_true.mp ((Array.all_eq_true_iff_forall_mem.mp hF) _ (Array.getElem_mem ha)) i (List.mem_range.mpr hi)
    simpa [Array.getElem?_eq_getElem hi] using q
  obtain ⟨i0, ei0⟩ := isL_v gr0
  obtain rfl : w0 = (.long i0) := Option.some.inj ei0
  obtain ⟨n, o, h1, h2, h3, _, L, rfl, ⟨rfl, N⟩, hq⟩ := own_rm_law l s _ hw tables_1 i0  s.heap s.heap.size (Nat.le_refl _)  p e ha hc hk s m _ below hf ((Spec.applies_iff_loose hf).mp happ).1 ⟨rfl, State.Warmed39.refl s, rfl⟩ trivial
  refine ⟨n, _, h1, h2, h3, hpost _ _ _ _ _ _ ⟨Cond.after_iff.mpr rfl, Cond.after_iff.mpr (eq_i res_at (Term.int_eval (1)) rfl), trivial⟩ ⟨hq.1, hq.2.1, (hq.2.2.sift fun y hy => Or.inr (N y hy)).mono (by decide) (by decide)⟩⟩
theorem main_1_1 : Claimed_1_1 := own_comes fun _ _ _ _ _ _ h hF => ⟨h.1, hF⟩
theorem main_1_2 : Claimed_1_2 := own_comes fun _ _ _ _ _ _ h hF => ⟨h.2.1, hF⟩
end Jvm.Pilot.@@N@@
namespace Jvm.Pilot.@@N@@
open Jvm Jvm.ClassFile Sem Op Lib Jvm.Free Jvm.Stand Jvm.Pilot.@@N@@.Jvm.D
/-! MADE BY PROGRAM (witnessworld.py) out of the Statement's table words and the real class files: 9 classes; the members and pool entries that the words name. The judged class is class 1, her method 1. -/
namespace start1
open Jvm.ClassFile
def u (s : String) : CpInfo := .utf8 (stringToUtf16 s)
/-- a pool by its gaps: so many unusable entries, then the entry; so many at the end -/
def gap : Nat → List CpInfo → List CpInfo
  | 0, r => r
  | n + 1, r => .unusable :: gap n r
def poolList (es : List (Nat × CpInfo)) (last : Nat) : List CpInfo := es.foldr (fun e r => gap e.1 (e.2 :: r)) (gap last [])
def pool (es : List (Nat × CpInfo)) (last : Nat) : Array CpInfo := ⟨poolList es last⟩
def fileOf (pool : Array CpInfo) (this : Nat) (attrs : Array Attribute := #[]) (ms : Array MethodInfo := #[]) (fl : Nat := 33) (sup : Nat := 0) (ifs : Array Nat := #[]) (fds : Array FieldInfo := #[]) : ClassFile where
  minorVersion := 0
  majorVersion := 65
  constantPool := pool
  accessFlags := fl
  thisClass := this
  superClass := sup
  interfaces := ifs
  fields := fds
  methods := ms
  attributes := attrs
def plain (name : String) (sup : Option ClassId) : Class where
  name := name
  kind := .ordinary
  loader := none
  accessFlags := 33
  super := sup
  interfaces := #[]
  cf := none
  fields := #[]
  methods := #[]
  instanceTypes := #[]
  staticTypes := #[]
  resolved := #[]
  callSites := []
  init := .initialized
  statics := none
  mirror := none

def pool0 : Array CpInfo := pool [(5, u "<init>"), (0, u "()V"), (1, .class_ 10), (1, u "java/lang/Object")] 113

def k0m0 : Method := { name := "<init>", desc := "()V", sig := { parameters := [], returnType := none }, accessFlags := 1, code := none }
/-- java/lang/Object -/
def k0 : Class := { plain "java/lang/Object" none with
  accessFlags := 33
  interfaces := #[]
  cf := some (fileOf pool0 8 #[] #[{ accessFlags := 1, nameIndex := 5, descriptorIndex := 6, attributes := #[] }] 33 0 #[] #[])
  fields := #[]
  methods := #[k0m0]
  instanceTypes := #[]
  staticTypes := #[]
  resolved := Array.replicate 124 none
  statics := none }

def pool1 : Array CpInfo := pool [(2, .class_ 4), (1, u "java/lang/Object"), (0, u "<init>"), (0, u "()V"), (0, .long 4294967295), (1, .long 4294967296), (1, .methodref 12 13), (0, .class_ 14), (0, .nameAndType 15 16), (0, u "com/example/fairdice/fairdice/Draws"), (0, u "twoTo32Mod"), (0, u "(J)J"), (0, .class_ 18), (0, u "com/example/fairdice/fairdice/DrawsTwoTo32ModPinLaw"), (2, u "law"), (0, u "(J)Z")] 3

def k1m0 : Method := { name := "<init>", desc := "()V", sig := { parameters := [], returnType := none }, accessFlags := 2, code := none }
def k1c1 : Code := { maxStack := 6, maxLocals := 8, code := code, exceptionTable := #[], attributes := #[] }
def k1m1 : Method := { name := "law", desc := "(J)Z", sig := { parameters := [.long], returnType := some .boolean }, accessFlags := 9, code := some k1c1 }
/-- com/example/fairdice/fairdice/DrawsTwoTo32ModPinLaw -/
def k1 : Class := { plain "com/example/fairdice/fairdice/DrawsTwoTo32ModPinLaw" (some 0) with
  accessFlags := 49
  interfaces := #[]
  cf := some (fileOf pool1 17 #[] #[{ accessFlags := 2, nameIndex := 5, descriptorIndex := 6, attributes := #[] }, { accessFlags := 9, nameIndex := 21, descriptorIndex := 22, attributes := #[] }] 49 2 #[] #[])
  fields := #[]
  methods := #[k1m0, k1m1]
  instanceTypes := #[]
  staticTypes := #[]
  resolved := Array.replicate 26 none
  statics := none }

def pool2 : Array CpInfo := pool [(2, .class_ 4), (1, u "java/lang/Object"), (0, u "<init>"), (0, u "()V"), (9, .class_ 18), (1, u "com/example/fairdice/fairdice/Draws"), (76, u "LOW_BYTE_FIRST"), (0, u "Ljava/lang/invoke/VarHandle;"), (66, u "twoTo32Mod"), (0, u "(J)J"), (0, .long 1073741824), (1, .long 4294967296), (1, .long 18446744073709551614), (1, .integer 2147483648), (28, u "LOW_HALF"), (0, u "J")] 38

def k2m0 : Method := { name := "<init>", desc := "()V", sig := { parameters := [], returnType := none }, accessFlags := 2, code := none }
def k2c1 : Code := { maxStack := 5, maxLocals := 4, code := prog_1_method_23_code, exceptionTable := #[], attributes := #[] }
def k2m1 : Method := { name := "twoTo32Mod", desc := "(J)J", sig := { parameters := [.long], returnType := some .long }, accessFlags := 8, code := some k2c1 }
/-- com/example/fairdice/fairdice/Draws -/
def k2 : Class := { plain "com/example/fairdice/fairdice/Draws" (some 0) with
  accessFlags := 49
  interfaces := #[]
  cf := some (fileOf pool2 16 #[] #[{ accessFlags := 2, nameIndex := 5, descriptorIndex := 6, attributes := #[] }, { accessFlags := 8, nameIndex := 163, descriptorIndex := 164, attributes := #[] }] 49 2 #[] #[{ accessFlags := 26, nameIndex := 200, descriptorIndex := 201, attributes := #[] }, { accessFlags := 26, nameIndex := 95, descriptorIndex := 96, attributes := #[] }])
  fields := #[{ name := "LOW_HALF", type := .long, accessFlags := 26, slot := 0, constantValue := 0 }, { name := "LOW_BYTE_FIRST", type := (.object "java/lang/invoke/VarHandle"), accessFlags := 26, slot := 1, constantValue := 0 }]
  methods := #[k2m0, k2m1]
  instanceTypes := #[]
  staticTypes := #[.long, (.object "java/lang/invoke/VarHandle")]
  resolved := Array.replicate 240 none
  statics := none }

def pool3 : Array CpInfo := pool [(1, u "java/lang/Cloneable"), (0, .class_ 1), (0, u "java/lang/Object"), (0, .class_ 3)] 3

/-- java/lang/Cloneable -/
def k3 : Class := { plain "java/lang/Cloneable" (some 0) with
  accessFlags := 1537
  interfaces := #[]
  cf := some (fileOf pool3 2 #[] #[] 1537 4 #[] #[])
  fields := #[]
  methods := #[]
  instanceTypes := #[]
  staticTypes := #[]
  resolved := Array.replicate 8 none
  statics := none }

def pool4 : Array CpInfo := pool [(1, u "java/io/Serializable"), (0, .class_ 1), (0, u "java/lang/Object"), (0, .class_ 3)] 3

/-- java/io/Serializable -/
def k4 : Class := { plain "java/io/Serializable" (some 0) with
  accessFlags := 1537
  interfaces := #[]
  cf := some (fileOf pool4 2 #[] #[] 1537 4 #[] #[])
  fields := #[]
  methods := #[]
  instanceTypes := #[]
  staticTypes := #[]
  resolved := Array.replicate 8 none
  statics := none }

/-- the primitive byte -/
def k5 : Class := { plain "byte" none with kind := .primitive 'B', accessFlags := 0x411 }
/-- [B -/
def k6 : Class := { plain "[B" (some 0) with kind := .array 5 .byte, interfaces := #[3, 4], accessFlags := 1041 }

/-- the primitive int -/
def k7 : Class := { plain "int" none with kind := .primitive 'I', accessFlags := 0x411 }
/-- [I -/
def k8 : Class := { plain "[I" (some 0) with kind := .array 7 .int, interfaces := #[3, 4], accessFlags := 1041 }

def heap : Heap := #[]
def classes : Array Class := #[k0, k1, k2, k3, k4, k5, k6, k7, k8]
def interned : List (Array UInt16 × Addr) := []
def slotsUsed : Nat := 0
def theMethod : MethodId := ⟨1, 1⟩
def args0 : Array Value := #[.long 5]
def aboutOver (below : List Frame) : State where
  vm := { classes := classes, interned := interned.toArray }
  heap := heap
  slotsUsed := slotsUsed
  threads := #[{ frames := .invoking theMethod args0 :: below }]
def below0 : List Frame := [.native { method := ⟨0, 0⟩, args := #[] }]
def about1 : State := aboutOver below0
def p0 : Program := .bare "" "" ""
def e0 : Env := launch0.env 0 0 0
theorem w_frames : about1.frames = Frame.invoking theMethod args0 :: below0 := rfl
set_option maxRecDepth 65536 in
theorem w_args : argsFit about1.vm theMethod args0 = true := by decide +kernel
set_option maxRecDepth 65536 in
theorem w_heap : heapFits about1 = true := by decide +kernel
set_option maxRecDepth 65536 in
theorem w_runnable : about1.curStatus? = some .runnable := by decide +kernel
set_option maxRecDepth 65536 in
theorem w_alone : about1.alone = true := by decide +kernel
set_option maxRecDepth 65536 in
theorem w_named : about1.methodNamed? x = some theMethod := by decide +kernel
set_option maxRecDepth 65536 in
theorem w_hears : about1.hears theMethod below0 = true := by decide +kernel
set_option maxRecDepth 65536 in
theorem w_ripe : about1.ripe theMethod args0 below0 = true := by decide +kernel
theorem w_running : about1.status = .running := rfl
set_option maxRecDepth 65536 in
theorem w_room : about1.hasRoom e0.platform room_1 = true :=
  launch0.hasRoom_least _ room_1 (by decide +kernel) (by decide +kernel) (by decide +kernel) (by decide +kernel) (by decide +kernel) (by decide +kernel)
theorem allAtoms_all (ts : List Jvm.Cond) (a : Array Jvm.Value) (st : Jvm.State) : (allAtoms ts).before a st = ts.all (fun c => c.before a st) := by
  induction ts with
  | nil => rfl
  | cons c t ih =>
    show (Jvm.Cond.and c (allAtoms t)).before a st = _
    rw [Jvm.Cond.before_and, ih, List.all_cons]
def words1 : List Jvm.Cond := Jvm.Cond.code x code maxLocals ret :: tables_1
/-- a 'code' word, met by the world's own term for the bytes: nothing is compared byte by byte -/
theorem code_word {y : MethodName} {bytes : ByteArray} {mx : Nat} {rt : Option FieldType} {a : Array Value} {s : State} {m : MethodId} {meth : Method} {c : Code} (h1 : s.methodNamed? y = some m) (h2 : s.vm.method? m = some meth) (h3 : meth.code = some c) (h4 : c.code = bytes)
    (h5 : (c.maxLocals == mx && c.exceptionTable.isEmpty && decide (c.maxStack ≤ mostOperands) && decide (meth.sig.returnType = rt) && !meth.locks && decide (parseMethodDescriptor y.desc = some meth.sig)) = true) : (Jvm.Cond.code y bytes mx rt).before a s = true := by
  simp only [Bool.and_eq_true, beq_iff_eq, Bool.not_eq_true', decide_eq_true_eq] at h5
  obtain ⟨⟨⟨⟨⟨g1, g2⟩, g3⟩, g4⟩, g5⟩, g6⟩ := h5
  simp [Cond.before, Cond.holds, Cond.value, h1, h2, h3, h4, g1, g2, g3, g4, g5, g6]
def isCode : Jvm.Cond → Bool
  | .code _ _ _ _ => true
  | _ => false
theorem all_split {L : List Jvm.Cond} {P : Jvm.Cond → Bool} (h1 : L.all (fun c => isCode c || P c) = true) (h2 : ∀ c ∈ L.filter isCode, P c = true) : L.all P = true := by
  refine List.all_eq_true.mpr fun c hc => ?_
  have h := List.all_eq_true.mp h1 c hc
  rcases Bool.eq_false_or_eq_true (isCode c) with hi | hi
  · exact h2 c (List.mem_filter.mpr ⟨hc, hi⟩)
  · simpa [hi] using h
set_option maxRecDepth 65536 in
theorem w_c0 : (Jvm.Cond.code x code maxLocals ret).before args0 about1 = true := code_word (m := ⟨1, 1⟩) (meth := k1m1) (c := k1c1) (by decide +kernel) rfl rfl rfl (by decide +kernel)
set_option maxRecDepth 65536 in
theorem w_c1 : (Jvm.Cond.code ({ cls := "com/example/fairdice/fairdice/Draws", name := "twoTo32Mod", desc := "(J)J" } : Jvm.MethodName) prog_1_method_23_code (4 : Nat) (Option.some Jvm.ClassFile.FieldType.long)).before args0 about1 = true := code_word (m := ⟨2, 1⟩) (meth := k2m1) (c := k2c1) (by decide +kernel) rfl rfl rfl (by decide +kernel)
def codes1 : List Jvm.Cond := [Jvm.Cond.code x code maxLocals ret, Jvm.Cond.code ({ cls := "com/example/fairdice/fairdice/Draws", name := "twoTo32Mod", desc := "(J)J" } : Jvm.MethodName) prog_1_method_23_code (4 : Nat) (Option.some Jvm.ClassFile.FieldType.long)]
set_option maxRecDepth 65536 in
theorem codes_eq : words1.filter isCode = codes1 := rfl
theorem w_codes : ∀ c ∈ words1.filter isCode, c.before args0 about1 = true := by
  rw [codes_eq]
  intro c hc
  simp only [codes1, List.mem_cons, List.not_mem_nil, or_false] at hc
  rcases hc with rfl | rfl
  · exact w_c0
  · exact w_c1
set_option maxRecDepth 65536 in
theorem w_t1 : words1.all (fun c => isCode c || c.before args0 about1) = true := by decide +kernel
theorem w_tables : (allAtoms (Jvm.Cond.code x code maxLocals ret :: tables_1)).before args0 about1 = true := by
  rw [allAtoms_all]
  show words1.all (fun c => c.before args0 about1) = true
  refine all_split ?_ w_codes
  rw [w_t1]
set_option maxRecDepth 65536 in
theorem w_case : (Jvm.Cond.and given_1 narrow_1).before args0 about1 = true := by decide +kernel
theorem w_applies : (headSpec (Jvm.Cond.code x code maxLocals ret :: tables_1) room_1).applies x e0.platform about1 = true :=
  (Spec.applies_iff w_frames).mpr ⟨w_running, w_runnable, w_alone, w_named, w_hears, w_ripe, w_room, w_tables⟩
theorem atStart : AtStart classFile x code maxLocals ret World_1 tables_1 room_1 Calls_1 rest_1 Pre_1 launch0 p0 e0 about1 theMethod args0 below0 :=
  ⟨lists_1, trivial, launch0.admits_env _ _ _, launch0.least_env, fairChoices_fair.cas, fairChoices_fair.clock, w_frames, w_args, w_heap, w_applies, trivial, trivial, w_case⟩
end start1
theorem witness_1 : WitnessClaimed_1 := ⟨start1.p0, start1.e0, start1.about1, start1.theMethod, start1.args0, start1.below0, start1.atStart⟩
end Jvm.Pilot.@@N@@
