import JvmDerived
import JvmDerived.Pilot.@@N@@Statement
import JvmDerived.Pilot.@@N@@Code
set_option linter.unusedVariables false
set_option linter.unusedSimpArgs false
namespace Jvm.Pilot.@@N@@
open Jvm Jvm.ClassFile Sem Op Lib Jvm.Free Jvm.Stand Jvm.LawKit Jvm.RoadKit Bundle Jvm.Pilot.@@N@@.Jvm.D
/-! A walk in the backward style: 'own_Goes K T g': from the frame g over T the run comes to an end of which K holds. -/
def own_Goes (p : Program) (e : Env) (below : List Frame) (K : Outcome → State → Prop) (T : State) (g : JFrame) : Prop :=
  ∃ s₂ o, Steps p.tables e below (T.setTop g) s₂ ∧ s₂.status = .running ∧ Ended s₂ below o ∧ K o s₂
def own_K (Q : Option Value → Heap → List Loc → Prop) (U : State) (C S : Nat) : Outcome → State → Prop :=
  fun o U' => ∃ v L, o = .returned v ∧ Q v U'.heap L ∧ FrameEnd U o U' L C S
section OwnKit
variable {p : Program} {l : Launch} {e : Env} {R : Room} {s : State} {m : MethodId} {args : Array Value} {below : List Frame} {meth : Method} {c : Code} {T T' : State} {locs : List Loc} {cells slots : Nat} {Z : State} {a0 : Array Value} {h : Heap} {K : Outcome → State → Prop} {Q : Option Value → Heap → List Loc → Prop} {C S : Nat}
theorem own_by {g g' : JFrame} (st : ∀ t, Steps p.tables e below (T'.setTop g') t → Steps p.tables e below (T.setTop g) t) (k : own_Goes p e below K T' g') : own_Goes p e below K T g := by
  obtain ⟨s₂, o, h1, r⟩ := k
  exact ⟨s₂, o, st _ h1, r⟩
theorem own_retN (X : Stand p l e R s m args below meth c T locs cells slots) (hx : p.tables.exec = Jvm.exec) {pc : Nat} {Ls : Array Slot} {z : Int32} {t : FieldType} {rest : List Value} (hret : meth.sig.returnType = some t) (hlocks : meth.locks = false) (ht : t = .boolean ∨ t = .byte ∨ t = .char ∨ t = .short)
    (hd : decode c.code pc = .ok (.ireturn, 1)) (hc : cells ≤ C) (hs : slots ≤ S) {v : Int32} (hv : nar t z = v) (q : Q (some (.int v)) T.heap locs) : own_Goes p e below (own_K Q s C S) T (mkF m pc Ls (.int z :: rest)) := by
  subst hv
  obtain ⟨fs, hr, hrun, hended, hW, hsame⟩ := X.leave (v := some (.int (nar t z))) (fun h => by rw [hret] at h; cases h) hlocks
  exact ⟨_, _, retN X hx hret ht hd hr, hrun, hended, _, _, rfl, q, ⟨_, rfl⟩, hW, hsame.mono hc hs⟩
theorem own_retV (X : Stand p l e R s m args below meth c T locs cells slots) (hx : p.tables.exec = Jvm.exec) {pc : Nat} {Ls : Array Slot} {w : Value} {t : FieldType} {i : Instr} {rest : List Value} (hret : meth.sig.returnType = some t) (hlocks : meth.locks = false) (hn : narrow t w = w)
    (hi : (i = .ireturn ∧ (t = .int ∨ t = .boolean ∨ t = .byte ∨ t = .char ∨ t = .short) ∧ ∃ z, w = .int z) ∨ (i = .lreturn ∧ t = .long ∧ ∃ z, w = .long z) ∨ (i = .dreturn ∧ t = .double ∧ ∃ z, w = .double z) ∨ (i = .freturn ∧ t = .float ∧ ∃ z, w = .float z) ∨ (i = .areturn ∧ t.isReference = true ∧ w.isRef = true))
    (hd : decode c.code pc = .ok (i, 1)) (hc : cells ≤ C) (hs : slots ≤ S) (q : Q (some w) T.heap locs) : own_Goes p e below (own_K Q s C S) T (mkF m pc Ls (w :: rest)) := by
  obtain ⟨fs, hr, hrun, hended, hW, hsame⟩ := X.leave (v := some w) (fun h => by rw [hret] at h; cases h) hlocks
  exact ⟨_, _, retOut X hx hret hn hi hd hr, hrun, hended, _, _, rfl, q, ⟨_, rfl⟩, hW, hsame.mono hc hs⟩
theorem own_retI (X : Stand p l e R s m args below meth c T locs cells slots) (hx : p.tables.exec = Jvm.exec) {pc : Nat} {Ls : Array Slot} {z : Int32} {rest : List Value} (hret : meth.sig.returnType = some .int) (hlocks : meth.locks = false)
    (hd : decode c.code pc = .ok (.ireturn, 1)) (hc : cells ≤ C) (hs : slots ≤ S) (q : Q (some (.int z)) T.heap locs) : own_Goes p e below (own_K Q s C S) T (mkF m pc Ls (.int z :: rest)) :=
  own_retV X hx hret hlocks rfl (Or.inl ⟨rfl, Or.inl rfl, z, rfl⟩) hd hc hs q
theorem own_retJ (X : Stand p l e R s m args below meth c T locs cells slots) (hx : p.tables.exec = Jvm.exec) {pc : Nat} {Ls : Array Slot} {z : Int64} {rest : List Value} (hret : meth.sig.returnType = some .long) (hlocks : meth.locks = false)
    (hd : decode c.code pc = .ok (.lreturn, 1)) (hc : cells ≤ C) (hs : slots ≤ S) (q : Q (some (.long z)) T.heap locs) : own_Goes p e below (own_K Q s C S) T (mkF m pc Ls (.long z :: rest)) :=
  own_retV X hx hret hlocks rfl (Or.inr (Or.inl ⟨rfl, rfl, z, rfl⟩)) hd hc hs q
theorem own_retR (X : Stand p l e R s m args below meth c T locs cells slots) (hx : p.tables.exec = Jvm.exec) {pc : Nat} {Ls : Array Slot} {w : Value} {t : FieldType} {rest : List Value} (hret : meth.sig.returnType = some t) (hlocks : meth.locks = false) (ht : t.isReference = true) (hw : w.isRef = true)
    (hd : decode c.code pc = .ok (.areturn, 1)) (hc : cells ≤ C) (hs : slots ≤ S) (q : Q (some w) T.heap locs) : own_Goes p e below (own_K Q s C S) T (mkF m pc Ls (w :: rest)) :=
  own_retV X hx hret hlocks (by cases t <;> first | (cases ht; done) | (cases w <;> rfl)) (Or.inr (Or.inr (Or.inr (Or.inr ⟨rfl, ht, hw⟩)))) hd hc hs q
theorem own_ret0 (X : Stand p l e R s m args below meth c T locs cells slots) (hx : p.tables.exec = Jvm.exec) {pc : Nat} {Ls : Array Slot} (hret : meth.sig.returnType = none) (hlocks : meth.locks = false)
    (hd : decode c.code pc = .ok (.return_, 1)) (hc : cells ≤ C) (hs : slots ≤ S) (q : Q none T.heap locs) : own_Goes p e below (own_K Q s C S) T (mkF m pc Ls []) := by
  obtain ⟨fs, hr, hrun, hended, hW, hsame⟩ := X.leave (v := none) (fun _ => rfl) hlocks
  exact ⟨_, _, X.returnOut hx hret hd hr, hrun, hended, _, _, rfl, q, ⟨_, rfl⟩, hW, hsame.mono hc hs⟩
theorem own_lrem {g : JFrame} {target : State} (X : Stand p l e R s m args below meth c T locs cells slots) (hx : p.tables.exec = Jvm.exec) (hg : g.method = m) {x y : Int64} {rest : List Value} (hd : decode c.code g.pc = .ok (.lrem, 1)) (hs : g.stack = .long y :: .long x :: rest) (hy : y ≠ 0)
    (hr : Steps p.tables e below (T.setTop { g with pc := g.pc + 1, stack := .long (x % y) :: rest }) target) : Steps p.tables e below (T.setTop g) target := by
  have q : x - x / y * y = x % y := lrem_mod x y
  exact XS.lrem X.here hx hg hd hs hy (by rw [q]; exact hr)
/-- what a callee's theorem says -/
abbrev own_Met (l : Launch) (Z : State) (y : MethodName) (bytes : ByteArray) (maxL : Nat) (ret : Option FieldType) (rm : Room) (as' : Array Value) (h : Heap) (Q : Option Value → Heap → List Loc → Prop) : Prop :=
  MetFree l y (head1 [Cond.code y bytes maxL ret] rm) (fun a U => a = as' ∧ Z.Warmed39 U.vm ∧ U.heap = h) (fun _ _ _ _ _ => True) (fun _ U o U' => ∃ v L, o = .returned v ∧ Q v U'.heap L ∧ FrameEnd U o U' L rm.cells rm.slots)
theorem own_callS (X : Stand p l e R s m args below meth c T locs cells slots) (hx : p.tables.exec = Jvm.exec) (hZ : Z.Warmed39 s.vm) {own : String} {index : Nat} {y : MethodName} {bytes : ByteArray} {maxL : Nat} {ret : Option FieldType}
    (hown : s.vm.findClass own = some m.cls) (w1 : (Cond.methodLink own index y).before a0 Z = true) (w2 : (Cond.static y).before a0 Z = true) (w3 : (Cond.initialized y.cls).before a0 Z = true) (w4 : (Cond.code y bytes maxL ret).before a0 Z = true) (hy : y.cls ≠ "java/lang/invoke/MethodHandle" ∧ y.cls ≠ "java/lang/invoke/VarHandle")
    {rm : Room} {argsL rest : List Value} (hM : own_Met l Z y bytes maxL ret rm argsL.toArray h Q) (eT : T.heap = h) {W : Nat} (hf : rm.frames + 1 ≤ R.frames) (hl : W + (maxL + 11) + rm.locals ≤ R.locals) (hc : cells + rm.cells ≤ R.cells) (hs : slots + rm.slots ≤ R.slots)
    {g : JFrame} (hg : g.method = m) (hsize : g.locals.size = c.maxLocals) (hlen : ∀ sig, parseMethodDescriptor y.desc = some sig → argsL.length = sig.parameters.length)
    (hstack : g.stack = argsL.reverse ++ rest) (hW : 2 * g.monitorRoom + (rest.map fun v => v.category).sum ≤ W) (hdg : decode c.code g.pc = .ok (.invokestatic index, 3)) :
    ∃ (v : Option Value) (T' : State) (L : List Loc), Stand p l e R s m args below meth c T' (locs ++ L) (cells + rm.cells) (slots + rm.slots) ∧ Q v T'.heap L ∧ ∀ K, own_Goes p e below K T' { g with pc := g.pc + 3, stack := v.toList ++ rest } → own_Goes p e below K T g := by
  obtain ⟨v, vm₁, ⟨T', L', k', n'⟩, -, X', ⟨L, hQ, l1, l2, l3⟩, st⟩ := Jvm.LawKit.callS X hx hown (mvT hZ w1) (mvT hZ w2) (mvT hZ w3) (mvT hZ w4) hy (backOf (W := W) hM hZ w4 w3 hf hl) hg hsize hlen hstack hW hdg (fun _ _ => ⟨rfl, eT, hc, hs⟩)
  dsimp only [Pt.U, Pt.locs, Pt.cells, Pt.slots] at X' l1 l2 l3 st hQ
  subst l1 l2 l3
  exact ⟨v, T', L, X', hQ, fun K k => own_by st k⟩
theorem own_callI (X : Stand p l e R s m args below meth c T locs cells slots) (hx : p.tables.exec = Jvm.exec) (hZ : Z.Warmed39 s.vm) {own : String} {index : Nat} {y : MethodName} {bytes : ByteArray} {maxL : Nat} (hy1 : y.name = "<init>")
    (hown : s.vm.findClass own = some m.cls) (w1 : (Cond.methodLink own index y).before a0 Z = true) (w2 : (Cond.instanceMethod y).before a0 Z = true) (w3 : (Cond.initialized y.cls).before a0 Z = true) (w4 : (Cond.code y bytes maxL none).before a0 Z = true) (hy : y.cls ≠ "java/lang/invoke/MethodHandle" ∧ y.cls ≠ "java/lang/invoke/VarHandle")
    {rm : Room} {a : Addr} {argsL rest : List Value} (hM : own_Met l Z y bytes maxL none rm (.ref a :: argsL).toArray h Q) (eT : T.heap = h) {W : Nat} (hf : rm.frames + 1 ≤ R.frames) (hl : W + (maxL + 11) + rm.locals ≤ R.locals) (hc : cells + rm.cells ≤ R.cells) (hs : slots + rm.slots ≤ R.slots)
    {g : JFrame} (hg : g.method = m) (hsize : g.locals.size = c.maxLocals) (hlen : ∀ sig, parseMethodDescriptor y.desc = some sig → argsL.length = sig.parameters.length)
    (hstack : g.stack = argsL.reverse ++ .ref a :: rest) (hW : 2 * g.monitorRoom + (rest.map fun v => v.category).sum ≤ W) (hdg : decode c.code g.pc = .ok (.invokespecial index, 3)) :
    ∃ (v : Option Value) (T' : State) (L : List Loc), Stand p l e R s m args below meth c T' (locs ++ L) (cells + rm.cells) (slots + rm.slots) ∧ Q v T'.heap L ∧ ∀ K, own_Goes p e below K T' { g with pc := g.pc + 3, stack := v.toList ++ rest } → own_Goes p e below K T g := by
  obtain ⟨v, vm₁, ⟨T', L', k', n'⟩, -, X', ⟨L, hQ, l1, l2, l3⟩, st⟩ := X.specialBack hx hy1 hown (mvT hZ w1) (mvT hZ w2) (mvT hZ w4) hy (backOf (W := W) hM hZ w4 w3 hf hl) hg hsize (Steps.refl _) hlen hstack hW hdg (fun _ _ => ⟨rfl, eT, hc, hs⟩)
  dsimp only [Pt.U, Pt.locs, Pt.cells, Pt.slots] at X' l1 l2 l3 st hQ
  subst l1 l2 l3
  exact ⟨v, T', L, X', hQ, fun K k => own_by (fun t k => st.trans k) k⟩
theorem own_callV (X : Stand p l e R s m args below meth c T locs cells slots) (hx : p.tables.exec = Jvm.exec) (hZ : Z.Warmed39 s.vm) {own C : String} {index : Nat} {y : MethodName} {bytes : ByteArray} {maxL : Nat} {ret : Option FieldType}
    (hown : s.vm.findClass own = some m.cls) (w1 : (Cond.methodLink own index y).before a0 Z = true) (w5 : (Cond.declares y).before a0 Z = true) (w6 : (Cond.selects C y y).before a0 Z = true) (w2 : (Cond.instanceMethod y).before a0 Z = true) (w3 : (Cond.initialized y.cls).before a0 Z = true) (w4 : (Cond.code y bytes maxL ret).before a0 Z = true) (hy : y.cls ≠ "java/lang/invoke/MethodHandle" ∧ y.cls ≠ "java/lang/invoke/VarHandle")
    {rm : Room} {a : Addr} {argsL rest : List Value} (E : Exa Z h a C) (hM : own_Met l Z y bytes maxL ret rm (.ref a :: argsL).toArray h Q) (eT : T.heap = h) {W : Nat} (hf : rm.frames + 1 ≤ R.frames) (hl : W + (maxL + 11) + rm.locals ≤ R.locals) (hc : cells + rm.cells ≤ R.cells) (hs : slots + rm.slots ≤ R.slots)
    {g : JFrame} (hg : g.method = m) (hsize : g.locals.size = c.maxLocals) (hlen : ∀ sig, parseMethodDescriptor y.desc = some sig → argsL.length = sig.parameters.length)
    (hstack : g.stack = argsL.reverse ++ .ref a :: rest) (hW : 2 * g.monitorRoom + (rest.map fun v => v.category).sum ≤ W) (hdg : decode c.code g.pc = .ok (.invokevirtual index, 3)) :
    ∃ (v : Option Value) (T' : State) (L : List Loc), Stand p l e R s m args below meth c T' (locs ++ L) (cells + rm.cells) (slots + rm.slots) ∧ Q v T'.heap L ∧ ∀ K, own_Goes p e below K T' { g with pc := g.pc + 3, stack := v.toList ++ rest } → own_Goes p e below K T g := by
  obtain ⟨cB, kB, q1, q2, q3⟩ := isOf hZ eT E
  obtain ⟨v, vm₁, ⟨T', L', k', n'⟩, -, X', ⟨L, hQ, l1, l2, l3⟩, st⟩ := X.virtualBack hx hown (mvT hZ w1) (mvT hZ w5) (notFace_of_selects (args := #[]) (mvT hZ w6)) (mvT hZ w6) (mvT hZ w2) hy (backOf (W := W) hM hZ w4 w3 hf hl) q1 q3 hg hsize (Steps.refl _) hlen hstack hW hdg (fun _ _ => ⟨rfl, eT, hc, hs⟩)
  dsimp only [Pt.U, Pt.locs, Pt.cells, Pt.slots] at X' l1 l2 l3 st hQ
  subst l1 l2 l3
  exact ⟨v, T', L, X', hQ, fun K k => own_by (fun t k => st.trans k) k⟩
theorem own_callPv (X : Stand p l e R s m args below meth c T locs cells slots) (hx : p.tables.exec = Jvm.exec) (hZ : Z.Warmed39 s.vm) {own C : String} {index : Nat} {y : MethodName} {bytes : ByteArray} {maxL : Nat} {ret : Option FieldType}
    (hown : s.vm.findClass own = some m.cls) (w1 : (Cond.methodLink own index y).before a0 Z = true) (w6 : (Cond.selects y.cls y y).before a0 Z = true) (w2 : (Cond.instanceMethod y).before a0 Z = true) (w7 : (Cond.privateMethod y).before a0 Z = true) (w3 : (Cond.initialized y.cls).before a0 Z = true) (w4 : (Cond.code y bytes maxL ret).before a0 Z = true) (hy : y.cls ≠ "java/lang/invoke/MethodHandle" ∧ y.cls ≠ "java/lang/invoke/VarHandle")
    {rm : Room} {a : Addr} {argsL rest : List Value} (E : Exa Z h a C) (hM : own_Met l Z y bytes maxL ret rm (.ref a :: argsL).toArray h Q) (eT : T.heap = h) {W : Nat} (hf : rm.frames + 1 ≤ R.frames) (hl : W + (maxL + 11) + rm.locals ≤ R.locals) (hc : cells + rm.cells ≤ R.cells) (hs : slots + rm.slots ≤ R.slots)
    {g : JFrame} (hg : g.method = m) (hsize : g.locals.size = c.maxLocals) (hlen : ∀ sig, parseMethodDescriptor y.desc = some sig → argsL.length = sig.parameters.length)
    (hstack : g.stack = argsL.reverse ++ .ref a :: rest) (hW : 2 * g.monitorRoom + (rest.map fun v => v.category).sum ≤ W) (hdg : decode c.code g.pc = .ok (.invokevirtual index, 3)) :
    ∃ (v : Option Value) (T' : State) (L : List Loc), Stand p l e R s m args below meth c T' (locs ++ L) (cells + rm.cells) (slots + rm.slots) ∧ Q v T'.heap L ∧ ∀ K, own_Goes p e below K T' { g with pc := g.pc + 3, stack := v.toList ++ rest } → own_Goes p e below K T g := by
  obtain ⟨cq, q1, q2⟩ := E.cell
  obtain ⟨v, vm₁, ⟨T', L', k', n'⟩, -, X', ⟨L, hQ, l1, l2, l3⟩, st⟩ := X.privateBack hx hown (mvT hZ w1) (mvT hZ w2) (mvT hZ w6) (Cond.privateMethod_at (mvP hZ w7 (args := #[]))) (mvT hZ w4) hy (backOf (W := W) hM hZ w4 w3 hf hl) hg hsize (Steps.refl _) (by rw [eT]; exact q1) q2 hlen hstack hW hdg (fun _ _ => ⟨rfl, eT, hc, hs⟩)
  dsimp only [Pt.U, Pt.locs, Pt.cells, Pt.slots] at X' l1 l2 l3 st hQ
  subst l1 l2 l3
  exact ⟨v, T', L, X', hQ, fun K k => own_by (fun t k => st.trans k) k⟩
theorem own_Sta_keep {h' : Heap} {ws : List Addr} {O n d : String} {v : Value} (F : Sta Z h O n d v) (K : Keep h h' ws) (q : ∀ a ∈ ws, ∀ cell : Cell, h[a]? = some cell → cell.vm.isStatics = false) : Sta Z h' O n d v := by
  obtain ⟨cf, i, k, f, st, cell, h1, h2, h3, h4, h5, h6, h7⟩ := F
  refine ⟨cf, i, k, f, st, cell, h1, h2, h3, h4, K.2.1 st cell h5 (fun y => ?_), h6, h7⟩
  rw [q st y cell h5] at h6; cases h6
theorem own_selp {y : MethodName} {k : Nat} (w7 : (Cond.privateMethod y).before a0 Z = true) (w2 : (Cond.instanceMethod y).before a0 Z = true) (wi : (Cond.instantiable y.cls k).before a0 Z = true) (hy : y.cls ≠ "java/lang/invoke/MethodHandle" ∧ y.cls ≠ "java/lang/invoke/VarHandle") : (Cond.selects y.cls y y).before a0 Z = true := by
  obtain ⟨c, k, i1, i2, i3, i4, -⟩ := Cond.instantiable_spec wi
  rw [Bool.or_eq_false_iff] at i4
  exact Jvm.Stand.selects_self_of_private i1 i2 i4.1 (Cond.privateMethod_at w7) w2 hy
end OwnKit
/-! arrays of ints, bytes, chars: a length and a function -/
def own_Ia (Z : State) (h : Heap) (a : Addr) (ty : FieldType) (n : Nat) (f : Nat → Int32) : Prop := ∃ c : Cell, Arr Z h a c ty ∧ c.slots.size = n ∧ (∀ i, i < n → c.slots[i]? = some (.int (f i))) ∧ ∀ i, i < n → fits ty (.int (f i)) = true
section OwnArr
variable {p : Program} {l : Launch} {e : Env} {R : Room} {s : State} {m : MethodId} {args : Array Value} {below : List Frame} {meth : Method} {c : Code} {T T' : State} {locs : List Loc} {cells slots : Nat} {Z : State} {a0 : Array Value} {h h' : Heap} {a b : Addr} {ty : FieldType} {n : Nat} {f : Nat → Int32}
theorem own_Ia_lt (F : own_Ia Z h a ty n f) : a < h.size := by obtain ⟨c, A, -⟩ := F; exact A.lt
theorem own_Ia_ext (E : Ext h h') (F : own_Ia Z h a ty n f) : own_Ia Z h' a ty n f := by obtain ⟨c, A, r⟩ := F; exact ⟨c, A.ext E, r⟩
theorem own_Ia_other {sl : Nat} {v : Value} (W : Wr h h' b sl v) (F : own_Ia Z h a ty n f) (q : a ≠ b) : own_Ia Z h' a ty n f := by obtain ⟨c, A, r⟩ := F; exact ⟨c, A.other W q, r⟩
theorem own_Ia_keep {ws : List Addr} (K : Keep h h' ws) (F : own_Ia Z h a ty n f) (q : a ∉ ws) : own_Ia Z h' a ty n f := by obtain ⟨c, A, r⟩ := F; exact ⟨c, ⟨K.2.1 a c A.1 q, A.2⟩, r⟩
theorem own_Ia_set {j : Nat} {x : Int32} (W : Wr h h' a j (.int x)) (F : own_Ia Z h a ty n f) (hf : fits ty (.int x) = true) : own_Ia Z h' a ty n (fun i => if i = j then x else f i) := by
  obtain ⟨c, A, S, H, G⟩ := F
  refine ⟨c.setSlot j (.int x), A.same W, by rw [sz_set]; exact S, fun i hi => ?_, fun i hi => ?_⟩
  · by_cases q : i = j
    · subst q
      have : i < c.slots.size := by rw [S]; exact hi
      simp [Cell.setSlot, this]
    · have := H i hi
      simp only [Cell.setSlot, if_neg q]
      rw [Array.getElem?_setIfInBounds_ne (Ne.symm q)]; exact this
  · dsimp only
    by_cases q : i = j
    · rw [if_pos q]; exact hf
    · rw [if_neg q]; exact G i hi
theorem own_Ia_new {k : ClassId} {z : Int32} (A : Arr Z h a (newA k ty z) ty) (hd : defaultValue ty = .int 0) (hf : fits ty (.int 0) = true) (hz : z.toNatClampNeg = n) : own_Ia Z h a ty n (fun _ => 0) := by
  subst hz
  refine ⟨_, A, sz_new _ _ _, fun i hi => ?_, fun i hi => hf⟩
  simp [newA, hd, hi]
theorem own_Ia_congr {f' : Nat → Int32} (F : own_Ia Z h a ty n f) (q : ∀ i, i < n → f i = f' i) : own_Ia Z h a ty n f' := by
  obtain ⟨c, A, S, H, G⟩ := F; exact ⟨c, A, S, fun i hi => by rw [H i hi, q i hi], fun i hi => by rw [← q i hi]; exact G i hi⟩
theorem own_bal (X : Stand p l e R s m args below meth c T locs cells slots) (hx : p.tables.exec = Jvm.exec) (hZ : Z.Warmed39 s.vm) (eT : T.heap = h) (F : own_Ia Z h a .byte n f) {j : Int32} (hj0 : ¬ j < 0) (hj1 : j.toNatClampNeg < n) {g : JFrame} (hg : g.method = m) {rest : List Value} (hs : g.stack = .int j :: .ref a :: rest) (hd : decode c.code g.pc = .ok (.baload, 1)) (t : State)
    (k : Steps p.tables e below (T.setTop { g with pc := g.pc + 1, stack := .int (f j.toNatClampNeg) :: rest }) t) : Steps p.tables e below (T.setTop g) t := by
  obtain ⟨c, A, S, H, G⟩ := F
  exact X.baloadBytes hx (by rw [eT]; exact A.1) (State.isArrayOf_alike hZ.alike A.2.1) A.2.2 (fun q => q.elim hj0 (fun q => absurd hj1 (by rw [← S]; exact Nat.not_lt.mpr q))) (H _ hj1) hg hs hd t k
theorem own_cal (X : Stand p l e R s m args below meth c T locs cells slots) (hx : p.tables.exec = Jvm.exec) (hZ : Z.Warmed39 s.vm) (eT : T.heap = h) (F : own_Ia Z h a .char n f) {j : Int32} (hj0 : ¬ j < 0) (hj1 : j.toNatClampNeg < n) {g : JFrame} (hg : g.method = m) {rest : List Value} (hs : g.stack = .int j :: .ref a :: rest) (hd : decode c.code g.pc = .ok (.caload, 1)) (t : State)
    (k : Steps p.tables e below (T.setTop { g with pc := g.pc + 1, stack := .int (f j.toNatClampNeg) :: rest }) t) : Steps p.tables e below (T.setTop g) t := by
  obtain ⟨c, A, S, H, G⟩ := F
  exact X.caload hx (by rw [eT]; exact A.1) (State.isArrayOf_alike hZ.alike A.2.1) A.2.2 (fun q => q.elim hj0 (fun q => absurd hj1 (by rw [← S]; exact Nat.not_lt.mpr q))) (H _ hj1) hg hs hd t k
theorem own_ial (X : Stand p l e R s m args below meth c T locs cells slots) (hx : p.tables.exec = Jvm.exec) (hZ : Z.Warmed39 s.vm) (eT : T.heap = h) (F : own_Ia Z h a .int n f) {j : Int32} (hj0 : ¬ j < 0) (hj1 : j.toNatClampNeg < n) {g : JFrame} (hg : g.method = m) {rest : List Value} (hs : g.stack = .int j :: .ref a :: rest) (hd : decode c.code g.pc = .ok (.iaload, 1)) (t : State)
    (k : Steps p.tables e below (T.setTop { g with pc := g.pc + 1, stack := .int (f j.toNatClampNeg) :: rest }) t) : Steps p.tables e below (T.setTop g) t := by
  obtain ⟨c, A, S, H, G⟩ := F
  exact X.iaload hx (by rw [eT]; exact A.1) (State.isArrayOf_alike hZ.alike A.2.1) A.2.2 (fun q => q.elim hj0 (fun q => absurd hj1 (by rw [← S]; exact Nat.not_lt.mpr q))) (H _ hj1) hg hs hd t k
theorem own_alen (X : Stand p l e R s m args below meth c T locs cells slots) (hx : p.tables.exec = Jvm.exec) (hZ : Z.Warmed39 s.vm) (eT : T.heap = h) (F : own_Ia Z h a ty n f) {z : Int32} (hz : n.toInt32 = z) {g : JFrame} (hg : g.method = m) {rest : List Value} (hs : g.stack = .ref a :: rest) (hd : decode c.code g.pc = .ok (.arraylength, 1)) (t : State)
    (k : Steps p.tables e below (T.setTop { g with pc := g.pc + 1, stack := .int z :: rest }) t) : Steps p.tables e below (T.setTop g) t := by
  obtain ⟨c, A, S, H, G⟩ := F
  subst hz S
  exact X.arraylength hx (by rw [eT]; exact A.1) (State.isArrayOf_alike hZ.alike A.2.1) hg hs hd t k
theorem own_bas (X : Stand p l e R s m args below meth c T locs cells slots) (hx : p.tables.exec = Jvm.exec) (hZ : Z.Warmed39 s.vm) (eT : T.heap = h) (F : own_Ia Z h a .byte n f) {j x : Int32} (hj0 : ¬ j < 0) (hj1 : j.toNatClampNeg < n) {g : JFrame} (hg : g.method = m) {rest : List Value} (hs : g.stack = .int x :: .int j :: .ref a :: rest) (hd : decode c.code g.pc = .ok (.bastore, 1)) :
    ∃ T' h', Stand p l e R s m args below meth c T' (locs ++ [⟨a, j.toNatClampNeg⟩]) cells slots ∧ T'.heap = h' ∧ Wr h h' a j.toNatClampNeg (.int (nar .byte x)) ∧ ∀ target, Steps p.tables e below (T'.setTop { g with pc := g.pc + 1, stack := rest }) target → Steps p.tables e below (T.setTop g) target := by
  obtain ⟨c, A, S, H, G⟩ := F
  exact stB X hx hZ eT A (fun q => q.elim hj0 (fun q => absurd hj1 (by rw [← S]; exact Nat.not_lt.mpr q))) hg hs hd
theorem own_cas (X : Stand p l e R s m args below meth c T locs cells slots) (hx : p.tables.exec = Jvm.exec) (hZ : Z.Warmed39 s.vm) (eT : T.heap = h) (F : own_Ia Z h a .char n f) {j x : Int32} (hj0 : ¬ j < 0) (hj1 : j.toNatClampNeg < n) {g : JFrame} (hg : g.method = m) {rest : List Value} (hs : g.stack = .int x :: .int j :: .ref a :: rest) (hd : decode c.code g.pc = .ok (.castore, 1)) :
    ∃ T' h', Stand p l e R s m args below meth c T' (locs ++ [⟨a, j.toNatClampNeg⟩]) cells slots ∧ T'.heap = h' ∧ Wr h h' a j.toNatClampNeg (.int (nar .char x)) ∧ ∀ target, Steps p.tables e below (T'.setTop { g with pc := g.pc + 1, stack := rest }) target → Steps p.tables e below (T.setTop g) target := by
  obtain ⟨c, A, S, H, G⟩ := F
  exact stC X hx hZ eT A (fun q => q.elim hj0 (fun q => absurd hj1 (by rw [← S]; exact Nat.not_lt.mpr q))) hg hs hd
theorem own_ias (X : Stand p l e R s m args below meth c T locs cells slots) (hx : p.tables.exec = Jvm.exec) (hZ : Z.Warmed39 s.vm) (eT : T.heap = h) (F : own_Ia Z h a .int n f) {j x : Int32} (hj0 : ¬ j < 0) (hj1 : j.toNatClampNeg < n) {g : JFrame} (hg : g.method = m) {rest : List Value} (hs : g.stack = .int x :: .int j :: .ref a :: rest) (hd : decode c.code g.pc = .ok (.iastore, 1)) :
    ∃ T' h', Stand p l e R s m args below meth c T' (locs ++ [⟨a, j.toNatClampNeg⟩]) cells slots ∧ T'.heap = h' ∧ Wr h h' a j.toNatClampNeg (.int x) ∧ ∀ target, Steps p.tables e below (T'.setTop { g with pc := g.pc + 1, stack := rest }) target → Steps p.tables e below (T.setTop g) target := by
  obtain ⟨c, A, S, H, G⟩ := F
  exact stI X hx hZ eT A (fun q => q.elim hj0 (fun q => absurd hj1 (by rw [← S]; exact Nat.not_lt.mpr q))) hg hs hd
end OwnArr
section OwnCp
variable {p : Program} {l : Launch} {e : Env} {R : Room} {s : State} {m : MethodId} {args : Array Value} {below : List Frame} {meth : Method} {c : Code} {T T' : State} {locs : List Loc} {cells slots : Nat} {Z : State} {a0 : Array Value} {h h' : Heap} {a b : Addr} {ty : FieldType} {n n' : Nat} {f f' : Nat → Int32}
theorem own_n32 (hn : n < 2 ^ 31) : n.toInt32.toNatClampNeg = n := by
  have := len_toInt hn
  simp only [Int32.toNatClampNeg]; omega
theorem own_rget (g : Nat → Value) (d : Value) (i : Nat) : ((List.range n).map g).getD i d = if i < n then g i else d := by
  by_cases q : i < n
  · simp [List.getD_eq_getElem?_getD, q]
  · simp [List.getD_eq_getElem?_getD, q]
theorem own_Ia_arv (F : own_Ia Z h a ty n f) (hn : n < 2 ^ 31) : ∃ k, Arv Z h a k ty n.toInt32 ((List.range n).map fun i => .int (f i)) (.int 0) := by
  obtain ⟨c, A, S, H, G⟩ := F
  have hz := own_n32 hn
  have hl := len_toInt hn
  refine ⟨c.cls, c, A, rfl, by rw [hz]; exact S, ?_, fun k hk => ?_, fun i hi => ?_⟩
  · rw [Int32.lt_iff_toInt_lt, hl, show (0 : Int32).toInt = 0 from rfl]; omega
  · rw [S] at hk; rw [own_rget, if_pos hk]; exact H k hk
  · rw [S] at hi; rw [own_rget, if_pos hi]; exact G i hi
theorem own_arv_Ia {k : ClassId} {z : Int32} {vs : List Value} {dv : Value} (F : Arv Z h a k ty z vs dv) (hz : z.toNatClampNeg = n) (q : ∀ i, i < n → vs.getD i dv = .int (f i)) : own_Ia Z h a ty n f := by
  obtain ⟨c, A, -, S, -, H, G⟩ := F
  rw [hz] at S
  refine ⟨c, A, S, fun i hi => ?_, fun i hi => ?_⟩
  · rw [H i (by rw [S]; exact hi), q i hi]
  · rw [← q i hi]; exact G i (by rw [S]; exact hi)
theorem own_cpl (g g' : Nat → Value) (d : Value) (sp dp nn : Nat) (h4 : sp + nn ≤ n) (h5 : dp + nn ≤ n') (i : Nat) (hi : i < n') :
    ((((List.range n').map g').take dp ++ (List.range nn).map (fun i => ((List.range n).map g).getD (sp + i) d)) ++ ((List.range n').map g').drop (dp + nn)).getD i d = if dp ≤ i ∧ i < dp + nn then g (sp + (i - dp)) else g' i := by
  have l1 : (((List.range n').map g').take dp).length = dp := by simp; omega
  have l2 : ((((List.range n').map g').take dp ++ (List.range nn).map (fun i => ((List.range n).map g).getD (sp + i) d))).length = dp + nn := by rw [List.length_append, l1]; simp
  rw [List.getD_eq_getElem?_getD]
  by_cases q1 : i < dp
  · rw [List.getElem?_append_left (by rw [l2]; omega), List.getElem?_append_left (by rw [l1]; exact q1), if_neg (by omega)]
    rw [List.getElem?_take_of_lt q1]
    simp [hi]
  · by_cases q2 : i < dp + nn
    · rw [List.getElem?_append_left (by rw [l2]; exact q2), List.getElem?_append_right (by rw [l1]; omega), l1, if_pos ⟨by omega, q2⟩]
      have q3 : i - dp < nn := by omega
      have q4 : sp + (i - dp) < n := by omega
      simp only [List.getElem?_map, List.getElem?_range q3, Option.map_some, Option.getD_some]
      rw [own_rget, if_pos q4]
    · rw [List.getElem?_append_right (by rw [l2]; omega), l2, if_neg (by omega)]
      rw [List.getElem?_drop, show dp + nn + (i - (dp + nn)) = i by omega]
      simp [hi]
theorem own_cp (X : Stand p l e R s m args below meth c T locs cells slots) (hx : p.tables.exec = Jvm.exec) (hZ : Z.Warmed39 s.vm) {own : String} {index : Nat} (hown : s.vm.findClass own = some m.cls)
    (w1 : (Cond.methodLink own index Jvm.Stand.acN).before a0 Z = true) (w2 : (Cond.native Jvm.Stand.acN).before a0 Z = true) (w3 : (Cond.static Jvm.Stand.acN).before a0 Z = true) (w4 : (Cond.initialized "java/lang/System").before a0 Z = true) (eT : T.heap = h)
    (A : own_Ia Z h a ty n f) (B : own_Ia Z h b ty n' f') (hty : refKind ty = false) (hn : n < 2 ^ 31) (hn' : n' < 2 ^ 31) {sp dp nn : Int32} (h1 : ¬ sp < 0) (h2 : ¬ dp < 0) (h3 : ¬ nn < 0) (h4 : sp.toNatClampNeg + nn.toNatClampNeg ≤ n) (h5 : dp.toNatClampNeg + nn.toNatClampNeg ≤ n')
    {n0 : Nat} (N : Fr n0 locs) (ge : n0 ≤ b) {g : JFrame} (hg : g.method = m) (hsize : g.locals.size = c.maxLocals) {rest : List Value} (hs : g.stack = .int nn :: .int dp :: .ref b :: .int sp :: .ref a :: rest) (hd : decode c.code g.pc = .ok (.invokestatic index, 3))
    (hf : 1 ≤ R.frames) {W : Nat} (hW : 2 * g.monitorRoom + (rest.map fun v => v.category).sum ≤ W) (hlo : W + 18 ≤ R.locals) :
    ∃ T' h' L, Stand p l e R s m args below meth c T' L cells slots ∧ T'.heap = h' ∧ Fr n0 L ∧ Keep h h' [b] ∧ own_Ia Z h' b ty n' (fun i => if dp.toNatClampNeg ≤ i ∧ i < dp.toNatClampNeg + nn.toNatClampNeg then f (sp.toNatClampNeg + (i - dp.toNatClampNeg)) else f' i) ∧
      ∀ target, Steps p.tables e below (T'.setTop { g with pc := g.pc + 3, stack := rest }) target → Steps p.tables e below (T.setTop g) target := by
  obtain ⟨k, A'⟩ := own_Ia_arv A hn
  obtain ⟨k', B'⟩ := own_Ia_arv B hn'
  obtain ⟨T', h', L, X', e', N', K', V', st⟩ := cpA X hx hZ hown w1 w2 w3 w4 eT A' B' (Or.inl ⟨rfl, hty⟩) h1 h2 h3 (by rw [own_n32 hn]; exact h4) (by rw [own_n32 hn']; exact h5) rfl (by simpa using h5) N ge hg hsize hs hd hf hW (by show W + 18 ≤ _; exact hlo)
  refine ⟨T', h', L, X', e', N', K', own_arv_Ia V' (own_n32 hn') (fun i hi => ?_), st⟩
  rw [own_cpl _ _ _ _ _ _ h4 h5 i hi]
  split <;> rfl
end OwnCp
/-! walks that may have interned a String: the Stand is over 's.setVm vm1', 's.Since vm1 n' says what came of the tables -/
def own_KS (Q : Option Value → Heap → List Loc → Prop) (U : State) (C S : Nat) : Outcome → State → Prop :=
  fun o U' => ∃ v L, o = .returned v ∧ Q v U'.heap L ∧ ReturnedEndW U o U' L C S
section OwnS
variable {p : Program} {l : Launch} {e : Env} {R : Room} {s : State} {m : MethodId} {args : Array Value} {below : List Frame} {meth : Method} {c : Code} {T T' : State} {locs : List Loc} {cells slots : Nat} {Z : State} {a0 : Array Value} {h h' : Heap} {K : Outcome → State → Prop} {Q : Option Value → Heap → List Loc → Prop} {C S n : Nat} {vm1 : Vm}
theorem own_retVW (X : Stand p l e R (s.setVm vm1) m args below meth c T locs cells slots) (hS : s.Since vm1 n) (hn0 : n ≤ T.heap.size) (hx : p.tables.exec = Jvm.exec) {pc : Nat} {Ls : Array Slot} {w : Value} {t : FieldType} {i : Instr} {rest : List Value} (hret : meth.sig.returnType = some t) (hlocks : meth.locks = false) (hn : narrow t w = w)
    (hi : (i = .ireturn ∧ (t = .int ∨ t = .boolean ∨ t = .byte ∨ t = .char ∨ t = .short) ∧ ∃ z, w = .int z) ∨ (i = .lreturn ∧ t = .long ∧ ∃ z, w = .long z) ∨ (i = .dreturn ∧ t = .double ∧ ∃ z, w = .double z) ∨ (i = .freturn ∧ t = .float ∧ ∃ z, w = .float z) ∨ (i = .areturn ∧ t.isReference = true ∧ w.isRef = true))
    (hd : decode c.code pc = .ok (i, 1)) (hc : cells ≤ C) (hs : slots ≤ S) (q : Q (some w) T.heap locs) : own_Goes p e below (own_KS Q s C S) T (mkF m pc Ls (w :: rest)) := by
  obtain ⟨fs, hr, hrun, hended, hW⟩ := X.leaveW hS hn0 (v := some w) (fun h => by rw [hret] at h; cases h) hlocks
  exact ⟨_, _, retOut X hx hret hn hi hd hr, hrun, hended, _, _, rfl, q, hW.1, hW.2.1, hW.2.2.1, hW.2.2.2.mono hc hs⟩
theorem own_retRW (X : Stand p l e R (s.setVm vm1) m args below meth c T locs cells slots) (hS : s.Since vm1 n) (hn0 : n ≤ T.heap.size) (hx : p.tables.exec = Jvm.exec) {pc : Nat} {Ls : Array Slot} {w : Value} {t : FieldType} {rest : List Value} (hret : meth.sig.returnType = some t) (hlocks : meth.locks = false) (ht : t.isReference = true) (hw : w.isRef = true)
    (hd : decode c.code pc = .ok (.areturn, 1)) (hc : cells ≤ C) (hs : slots ≤ S) (q : Q (some w) T.heap locs) : own_Goes p e below (own_KS Q s C S) T (mkF m pc Ls (w :: rest)) :=
  own_retVW X hS hn0 hx hret hlocks (by cases t <;> first | (cases ht; done) | (cases w <;> rfl)) (Or.inr (Or.inr (Or.inr (Or.inr ⟨rfl, ht, hw⟩)))) hd hc hs q
theorem own_retIW (X : Stand p l e R (s.setVm vm1) m args below meth c T locs cells slots) (hS : s.Since vm1 n) (hn0 : n ≤ T.heap.size) (hx : p.tables.exec = Jvm.exec) {pc : Nat} {Ls : Array Slot} {z : Int32} {rest : List Value} (hret : meth.sig.returnType = some .int) (hlocks : meth.locks = false)
    (hd : decode c.code pc = .ok (.ireturn, 1)) (hc : cells ≤ C) (hs : slots ≤ S) (q : Q (some (.int z)) T.heap locs) : own_Goes p e below (own_KS Q s C S) T (mkF m pc Ls (.int z :: rest)) :=
  own_retVW X hS hn0 hx hret hlocks rfl (Or.inl ⟨rfl, Or.inl rfl, z, rfl⟩) hd hc hs q
theorem own_retNW (X : Stand p l e R (s.setVm vm1) m args below meth c T locs cells slots) (hS : s.Since vm1 n) (hn0 : n ≤ T.heap.size) (hx : p.tables.exec = Jvm.exec) {pc : Nat} {Ls : Array Slot} {z : Int32} {t : FieldType} {rest : List Value} (hret : meth.sig.returnType = some t) (hlocks : meth.locks = false) (ht : t = .boolean ∨ t = .byte ∨ t = .char ∨ t = .short)
    (hd : decode c.code pc = .ok (.ireturn, 1)) (hc : cells ≤ C) (hs : slots ≤ S) {v : Int32} (hv : nar t z = v) (q : Q (some (.int v)) T.heap locs) : own_Goes p e below (own_KS Q s C S) T (mkF m pc Ls (.int z :: rest)) := by
  subst hv
  obtain ⟨fs, hr, hrun, hended, hW⟩ := X.leaveW hS hn0 (v := some (.int (nar t z))) (fun h => by rw [hret] at h; cases h) hlocks
  exact ⟨_, _, retN X hx hret ht hd hr, hrun, hended, _, _, rfl, q, hW.1, hW.2.1, hW.2.2.1, hW.2.2.2.mono hc hs⟩
theorem own_ret0W (X : Stand p l e R (s.setVm vm1) m args below meth c T locs cells slots) (hS : s.Since vm1 n) (hn0 : n ≤ T.heap.size) (hx : p.tables.exec = Jvm.exec) {pc : Nat} {Ls : Array Slot} (hret : meth.sig.returnType = none) (hlocks : meth.locks = false)
    (hd : decode c.code pc = .ok (.return_, 1)) (hc : cells ≤ C) (hs : slots ≤ S) (q : Q none T.heap locs) : own_Goes p e below (own_KS Q s C S) T (mkF m pc Ls []) := by
  obtain ⟨fs, hr, hrun, hended, hW⟩ := X.leaveW hS hn0 (v := none) (fun _ => rfl) hlocks
  exact ⟨_, _, X.returnOut hx hret hd hr, hrun, hended, _, _, rfl, q, hW.1, hW.2.1, hW.2.2.1, hW.2.2.2.mono hc hs⟩
/-- what the theorem of a callee says that may intern -/
abbrev own_MetS (l : Launch) (Z : State) (y : MethodName) (bytes : ByteArray) (maxL : Nat) (ret : Option FieldType) (rm : Room) (as' : Array Value) (h : Heap) (Q : Option Value → Heap → List Loc → Prop) : Prop :=
  MetFree l y (head1 [Cond.code y bytes maxL ret] rm) (fun a U => a = as' ∧ Z.Warmed39 U.vm ∧ U.heap = h ∧ U.vm.interned = Z.vm.interned) (fun _ _ _ _ _ => True) (fun _ U o U' => ∃ v L, o = .returned v ∧ Q v U'.heap L ∧ ReturnedEndW U o U' L rm.cells rm.slots)
theorem own_backS {y : MethodName} {bytes : ByteArray} {maxL : Nat} {ret : Option FieldType} {rm : Room} {len W : Nat} {as' : Array Value} (hM : own_MetS l Z y bytes maxL ret rm as' h Q)
    (hZ : Z.Warmed39 s.vm) (hI : s.vm.interned = Z.vm.interned) (wc : (Cond.code y bytes maxL ret).before a0 Z = true) (wz : (Cond.initialized y.cls).before a0 Z = true) (hf : rm.frames + 1 ≤ R.frames) (hl : W + (maxL + 11) + rm.locals ≤ R.locals) :
    BackS l R p e below s args y len W (fun A a => a = as' ∧ A.U.heap = h ∧ A.cells + rm.cells ≤ R.cells ∧ A.slots + rm.slots ≤ R.slots)
      (fun A _ v B => ∃ L, Q v B.U.heap L ∧ B.locs = A.locs ++ L ∧ B.cells = A.cells + rm.cells ∧ B.slots = A.slots + rm.slots) :=
  BackS.of_freeW (bytes := bytes) (maxL := maxL) (ret := ret) (E := fun _ _ o t L k n => k = rm.cells ∧ n = rm.slots ∧ ∃ v, o = .returned v ∧ Q v t.heap L) hM hf hl
    (fun m meth c A a Y hp => have hU : Z.Warmed39 A.U.vm := wtrans hZ Y.warmed
      ⟨by show (Cond.and _ .tt).before a A.U = true; rw [Cond.before_and, mv hU wc]; rfl, mv hU wc, mv hU wz, hp.2.2.1, hp.2.2.2⟩)
    (fun m meth c A a g mk Y hp => ⟨hp.1, wtrans hZ Y.warmed, hp.2.1, (Y.warmed.interned_eq).trans hI⟩) (fun _ _ _ _ _ _ _ _ _ => trivial)
    (fun _ _ _ _ ⟨v, L, h1, h2, h3⟩ => ⟨L, _, _, h3, rfl, rfl, v, h1, h2⟩)
    (fun m meth c A a g mk v t L k n Y hp _ _ ⟨e1, e2, v', e3, e4⟩ => by cases e3; subst e1 e2; exact ⟨L, e4, rfl, rfl, rfl⟩)
theorem own_callSS (X : Stand p l e R s m args below meth c T locs cells slots) (hx : p.tables.exec = Jvm.exec) (hZ : Z.Warmed39 s.vm) (hI : s.vm.interned = Z.vm.interned) {own : String} {index : Nat} {y : MethodName} {bytes : ByteArray} {maxL : Nat} {ret : Option FieldType}
    (hown : s.vm.findClass own = some m.cls) (w1 : (Cond.methodLink own index y).before a0 Z = true) (w2 : (Cond.static y).before a0 Z = true) (w3 : (Cond.initialized y.cls).before a0 Z = true) (w4 : (Cond.code y bytes maxL ret).before a0 Z = true) (hy : y.cls ≠ "java/lang/invoke/MethodHandle" ∧ y.cls ≠ "java/lang/invoke/VarHandle")
    {rm : Room} {argsL rest : List Value} (hM : own_MetS l Z y bytes maxL ret rm argsL.toArray h Q) (eT : T.heap = h) {W : Nat} (hf : rm.frames + 1 ≤ R.frames) (hl : W + (maxL + 11) + rm.locals ≤ R.locals) (hc : cells + rm.cells ≤ R.cells) (hs : slots + rm.slots ≤ R.slots)
    {g : JFrame} (hg : g.method = m) (hsize : g.locals.size = c.maxLocals) (hlen : ∀ sig, parseMethodDescriptor y.desc = some sig → argsL.length = sig.parameters.length)
    (hstack : g.stack = argsL.reverse ++ rest) (hW : 2 * g.monitorRoom + (rest.map fun v => v.category).sum ≤ W) (hdg : decode c.code g.pc = .ok (.invokestatic index, 3)) :
    ∃ (v : Option Value) (T' : State) (L : List Loc), Stand p l e R (s.setVm T'.vm) m args below meth c T' (locs ++ L) (cells + rm.cells) (slots + rm.slots) ∧ s.Since T'.vm T'.heap.size ∧ Z.Warmed39 (s.setVm T'.vm).vm ∧ (s.setVm T'.vm).vm.findClass own = some m.cls ∧ Q v T'.heap L ∧ ∀ K, own_Goes p e below K T' { g with pc := g.pc + 3, stack := v.toList ++ rest } → own_Goes p e below K T g := by
  obtain ⟨v, vm₁, ⟨T', L', k', n'⟩, -, X', hS, hgr, ⟨L, hQ, l1, l2, l3⟩, st⟩ := callSS X hx hown (mvT hZ w1) (mvT hZ w2) (mvT hZ w3) (mvT hZ w4) hy (own_backS (W := W) hM hZ hI w4 w3 hf hl) hg hsize hlen hstack hW hdg (fun _ _ => ⟨rfl, eT, hc, hs⟩)
  dsimp only [Pt.U, Pt.locs, Pt.cells, Pt.slots] at X' hS hgr l1 l2 l3 st hQ
  subst l1 l2 l3
  exact ⟨v, T', L, X', hS, State.Warmed39.trans hZ hS.1, (hS.1.alike.findClass _ _).trans hown, hQ, fun K k => own_by (fun t k => st.trans k) k⟩
theorem own_callIS (X : Stand p l e R s m args below meth c T locs cells slots) (hx : p.tables.exec = Jvm.exec) (hZ : Z.Warmed39 s.vm) (hI : s.vm.interned = Z.vm.interned) {own : String} {index : Nat} {y : MethodName} {bytes : ByteArray} {maxL : Nat} (hy1 : y.name = "<init>")
    (hown : s.vm.findClass own = some m.cls) (w1 : (Cond.methodLink own index y).before a0 Z = true) (w2 : (Cond.instanceMethod y).before a0 Z = true) (w3 : (Cond.initialized y.cls).before a0 Z = true) (w4 : (Cond.code y bytes maxL none).before a0 Z = true) (hy : y.cls ≠ "java/lang/invoke/MethodHandle" ∧ y.cls ≠ "java/lang/invoke/VarHandle")
    {rm : Room} {a : Addr} {argsL rest : List Value} (hM : own_MetS l Z y bytes maxL none rm (.ref a :: argsL).toArray h Q) (eT : T.heap = h) {W : Nat} (hf : rm.frames + 1 ≤ R.frames) (hl : W + (maxL + 11) + rm.locals ≤ R.locals) (hc : cells + rm.cells ≤ R.cells) (hs : slots + rm.slots ≤ R.slots)
    {g : JFrame} (hg : g.method = m) (hsize : g.locals.size = c.maxLocals) (hlen : ∀ sig, parseMethodDescriptor y.desc = some sig → argsL.length = sig.parameters.length)
    (hstack : g.stack = argsL.reverse ++ .ref a :: rest) (hW : 2 * g.monitorRoom + (rest.map fun v => v.category).sum ≤ W) (hdg : decode c.code g.pc = .ok (.invokespecial index, 3)) :
    ∃ (v : Option Value) (T' : State) (L : List Loc), Stand p l e R (s.setVm T'.vm) m args below meth c T' (locs ++ L) (cells + rm.cells) (slots + rm.slots) ∧ s.Since T'.vm T'.heap.size ∧ Z.Warmed39 (s.setVm T'.vm).vm ∧ (s.setVm T'.vm).vm.findClass own = some m.cls ∧ Q v T'.heap L ∧ ∀ K, own_Goes p e below K T' { g with pc := g.pc + 3, stack := v.toList ++ rest } → own_Goes p e below K T g := by
  obtain ⟨v, vm₁, ⟨T', L', k', n'⟩, -, X', hS, hgr, ⟨L, hQ, l1, l2, l3⟩, st⟩ := X.specialBackS hx hy1 hown (mvT hZ w1) (mvT hZ w2) (mvT hZ w4) hy (own_backS (W := W) hM hZ hI w4 w3 hf hl) hg hsize (Steps.refl _) hlen hstack hW hdg (fun _ _ => ⟨rfl, eT, hc, hs⟩)
  dsimp only [Pt.U, Pt.locs, Pt.cells, Pt.slots] at X' hS hgr l1 l2 l3 st hQ
  subst l1 l2 l3
  exact ⟨v, T', L, X', hS, State.Warmed39.trans hZ hS.1, (hS.1.alike.findClass _ _).trans hown, hQ, fun K k => own_by (fun t k => st.trans k) k⟩
theorem own_callVS (X : Stand p l e R s m args below meth c T locs cells slots) (hx : p.tables.exec = Jvm.exec) (hZ : Z.Warmed39 s.vm) (hI : s.vm.interned = Z.vm.interned) {own C : String} {index : Nat} {y : MethodName} {bytes : ByteArray} {maxL : Nat} {ret : Option FieldType}
    (hown : s.vm.findClass own = some m.cls) (w1 : (Cond.methodLink own index y).before a0 Z = true) (w5 : (Cond.declares y).before a0 Z = true) (w6 : (Cond.selects C y y).before a0 Z = true) (w2 : (Cond.instanceMethod y).before a0 Z = true) (w3 : (Cond.initialized y.cls).before a0 Z = true) (w4 : (Cond.code y bytes maxL ret).before a0 Z = true) (hy : y.cls ≠ "java/lang/invoke/MethodHandle" ∧ y.cls ≠ "java/lang/invoke/VarHandle")
    {rm : Room} {a : Addr} {argsL rest : List Value} (E : Exa Z h a C) (hM : own_MetS l Z y bytes maxL ret rm (.ref a :: argsL).toArray h Q) (eT : T.heap = h) {W : Nat} (hf : rm.frames + 1 ≤ R.frames) (hl : W + (maxL + 11) + rm.locals ≤ R.locals) (hc : cells + rm.cells ≤ R.cells) (hs : slots + rm.slots ≤ R.slots)
    {g : JFrame} (hg : g.method = m) (hsize : g.locals.size = c.maxLocals) (hlen : ∀ sig, parseMethodDescriptor y.desc = some sig → argsL.length = sig.parameters.length)
    (hstack : g.stack = argsL.reverse ++ .ref a :: rest) (hW : 2 * g.monitorRoom + (rest.map fun v => v.category).sum ≤ W) (hdg : decode c.code g.pc = .ok (.invokevirtual index, 3)) :
    ∃ (v : Option Value) (T' : State) (L : List Loc), Stand p l e R (s.setVm T'.vm) m args below meth c T' (locs ++ L) (cells + rm.cells) (slots + rm.slots) ∧ s.Since T'.vm T'.heap.size ∧ Z.Warmed39 (s.setVm T'.vm).vm ∧ (s.setVm T'.vm).vm.findClass own = some m.cls ∧ Q v T'.heap L ∧ ∀ K, own_Goes p e below K T' { g with pc := g.pc + 3, stack := v.toList ++ rest } → own_Goes p e below K T g := by
  obtain ⟨cB, kB, q1, q2, q3⟩ := isOf hZ eT E
  obtain ⟨v, vm₁, ⟨T', L', k', n'⟩, -, X', hS, hgr, ⟨L, hQ, l1, l2, l3⟩, st⟩ := X.virtualBackS hx hown (mvT hZ w1) (mvT hZ w5) (notFace_of_selects (args := #[]) (mvT hZ w6)) (mvT hZ w6) (mvT hZ w2) hy (own_backS (W := W) hM hZ hI w4 w3 hf hl) q1 q3 hg hsize (Steps.refl _) hlen hstack hW hdg (fun _ _ => ⟨rfl, eT, hc, hs⟩)
  dsimp only [Pt.U, Pt.locs, Pt.cells, Pt.slots] at X' hS hgr l1 l2 l3 st hQ
  subst l1 l2 l3
  exact ⟨v, T', L, X', hS, State.Warmed39.trans hZ hS.1, (hS.1.alike.findClass _ _).trans hown, hQ, fun K k => own_by (fun t k => st.trans k) k⟩
theorem own_ib (hI : s.vm.interned = Z.vm.interned) : IB Z s.vm [] := ⟨#[], by rw [hI]; simp, fun q hq => by simp at hq⟩
/-- a String constant, loaded once by this walk: a String of the text's bytes -/
theorem own_ldcS (X : Stand p l e R s m args below meth c T locs cells slots) (hx : p.tables.exec = Jvm.exec) (hZ : Z.Warmed39 s.vm) (hI : s.vm.interned = Z.vm.interned) {own text : String} {index : Nat} (hown : s.vm.findClass own = some m.cls) (w : (Cond.stringLink own index text).before a0 Z = true) (wS : ∀ a ∈ Bundle.stringAtoms, a.before a0 Z = true)
    (eT : T.heap = h) (hsz : s.heap.size ≤ h.size) (N : Fr s.heap.size locs) (hkeep : ∀ (b : Addr) (cl : Cell), Z.heap[b]? = some cl → s.heap[b]? = some cl) (hh : Jvm.Lit.constHeld Z own index) (hcw : Jvm.Lit.compactW.before a0 Z = true)
    {nl : Nat} {f : Nat → Int32} (hn31 : nl < 2 ^ 31) (ht : (∀ c ∈ text.toList, c.toNat < 256) ∧ text.toList.map (fun c => Value.int (Jvm.Lit.byteI c.toNat.toUInt16)) = (List.range nl).map (fun i => Value.int (f i)))
    {g : JFrame} (hg : g.method = m) (hd : decode c.code g.pc = .ok (.ldc index, 2)) {n : Nat} (hn : 4 * text.toList.length ≤ n) (hbig : n ≤ 536870912) (hc : cells + 2 ≤ R.cells) (hl' : slots + (n + 4) ≤ R.slots) :
    ∃ (a b : Addr) (T' : State) (h' : Heap), Stand p l e R (s.setVm T'.vm) m args below meth c T' locs (cells + 2) (slots + (n + 4)) ∧ T'.heap = h' ∧ Ext h h' ∧ s.Since T'.vm h'.size ∧ Z.Warmed39 (s.setVm T'.vm).vm ∧ (s.setVm T'.vm).vm.findClass own = some m.cls ∧
      Exa Z h' a "java/lang/String" ∧ Fld Z h' a "java/lang/String" "coder" "B" (.int 0) ∧ Fld Z h' a "java/lang/String" "value" "[B" (.ref b) ∧ own_Ia Z h' b .byte nl f ∧ Lit (s.setVm T'.vm) own index a ∧
      ∀ target, Steps p.tables e below (T'.setTop { g with pc := g.pc + 2, stack := .ref a :: g.stack }) target → Steps p.tables e below (T.setTop g) target := by
  obtain ⟨a, T', h', k1, b, k, X', e', E', hS, hk1, hZ', hown', A, Fc, Fv, V, -, -, -, hLit, st⟩ := ldcSVL (vm0 := s.vm) (Ts := []) (z := nl.toInt32) X hx hZ hown w wS eT (State.WarmedH.since (State.WarmedH.refl s) s.heap.size) hsz N hkeep (own_ib hI) (by simp) hh hcw ht (by rw [Int32.lt_iff_toInt_lt, len_toInt hn31, show (0 : Int32).toInt = 0 from rfl]; omega) (by rw [own_n32 hn31]; simp) hg hd hn hbig hc hl'
  refine ⟨a, b, T', h', X', e', E', ?_, hZ', hown', A, Fc, Fv, own_arv_Ia V (own_n32 hn31) (fun i hi => ?_), hLit, st⟩
  · exact ⟨hS.1, fun j q hj hq => ⟨(hS.2 j q hj hq).1, Nat.lt_of_lt_of_le (hS.2 j q hj hq).2 hk1⟩⟩
  · rw [own_rget, if_pos hi]
end OwnS
theorem own_fI {s : State} {args : Array Value} {t : Term} {O n d : String} {a : Addr} {k : Int32} (ht : t.eval args s none [] s = some (.ref a)) (h : (Jvm.Cond.eq (.field t O n d) (.int k)).value args s none s [] = some true) : Fld s s.heap a O n d (.int k) := by
  obtain ⟨x, y, e1, e2, k1, k2⟩ := cmp_v (Or.inl h)
  cases e2
  obtain ⟨z, rfl⟩ := k2
  have e3 : (Term.int k).eval args s none [] s = some (.int k) := rfl
  have q : z = k := by simpa [Cond.value, e1, e3] using h
  subst q
  exact Fld.start (by rw [← fld_at ht]; exact e1)
theorem own_fN {s : State} {args : Array Value} {t : Term} {O n d : String} {a : Addr} (ht : t.eval args s none [] s = some (.ref a)) (h : (Jvm.Cond.eq (.field t O n d) .null).value args s none s [] = some true) : Fld s s.heap a O n d .null :=
  Fld.start (by rw [← fld_at ht]; exact null_v h)
theorem own_fR {s : State} {args : Array Value} {t u : Term} {O n d : String} {a b : Addr} (ht : t.eval args s none [] s = some (.ref a)) (hu : u.eval args s none [] s = some (.ref b)) (h : (Jvm.Cond.eq (.field t O n d) u).value args s none s [] = some true) : Fld s s.heap a O n d (.ref b) := by
  obtain ⟨x, y, e1, e2, k1, k2⟩ := cmp_v (Or.inl h)
  cases hu.symm.trans e2
  have q : x = .ref b := by
    rcases ref_cases k2.2 with rfl | ⟨z, rfl⟩
    · simp [Cond.value, e1, e2] at h
    · simp [Cond.value, e1, e2] at h; rw [h]
  subst q
  exact Fld.start (by rw [← fld_at ht]; exact e1)
def own_tn (k : Nat) : Nat := match k with | 0 => 1 | 1 => 1 | 2 => 1 | 3 => 1 | 4 => 3 | 5 => 3 | _ => 0
def own_tx (k i : Nat) : Int32 := match k with
  | 0 => 43 | 1 => 45 | 2 => 42 | 3 => 47
  | 4 => (match i with | 0 => 109 | 1 => 105 | _ => 110)
  | _ => (match i with | 0 => 109 | 1 => 97 | _ => 120)
theorem own_tn_lt (k : Nat) : own_tn k < 100 := by unfold own_tn; split <;> decide
def own_Op (Z : State) (h : Heap) (k : Nat) (a : Addr) : Prop := ∃ y b : Addr, Exa Z h a "com/example/arcwright/arcwright/model/policy/Operator" ∧ Fld Z h a "com/example/arcwright/arcwright/model/policy/Operator" "symbol" "Ljava/lang/String;" (.ref y) ∧ Exa Z h y "java/lang/String" ∧ Fld Z h y "java/lang/String" "coder" "B" (.int 0) ∧ Fld Z h y "java/lang/String" "value" "[B" (.ref b) ∧ own_Ia Z h b .byte (own_tn k) (own_tx k)
theorem own_Op_at {Z : State} {h : Heap} {k k' : Nat} {a : Addr} (e : k' = k) (O : own_Op Z h k a) : own_Op Z h k' a := e ▸ O
theorem own_tx_at {Z : State} {h : Heap} {b : Addr} {k k' : Nat} (e : k' = k) (V : own_Ia Z h b .byte (own_tn k) (own_tx k)) : own_Ia Z h b .byte (own_tn k') (own_tx k') := e ▸ V
theorem own_k5 (k : Int32) (hk : 0 ≤ k.toInt ∧ k.toInt < 6) (c0 : ¬ k = (0 : Int32)) (c1 : ¬ k = (1 : Int32)) (c2 : ¬ k = (2 : Int32)) (c3 : ¬ k = (3 : Int32)) (c4 : ¬ k = (4 : Int32)) : k.toNatClampNeg = 5 := by
  simp only [← Int32.toInt_inj, show (0 : Int32).toInt = 0 from rfl, show (1 : Int32).toInt = 1 from rfl, show (2 : Int32).toInt = 2 from rfl, show (3 : Int32).toInt = 3 from rfl, show (4 : Int32).toInt = 4 from rfl] at c0 c1 c2 c3 c4
  simp only [Int32.toNatClampNeg]; omega
theorem own_ix6 (q : Int32) : 0 ≤ ((q &&& (2147483647 : Int32)) % (6 : Int32)).toInt ∧ ((q &&& (2147483647 : Int32)) % (6 : Int32)).toInt < 6 := by
  have e := c_mask q 2147483647 31 (by decide) (by decide)
  have z := (c_irem (q &&& (2147483647 : Int32)) (6 : Int32) 6 rfl).1 (by rw [e]; exact Int.emod_nonneg _ (by decide))
  have l1 := Int.emod_nonneg (q &&& (2147483647 : Int32)).toInt (show (6 : Int) ≠ 0 by decide)
  have l2 := Int.emod_lt_of_pos (q &&& (2147483647 : Int32)).toInt (show (0 : Int) < 6 by decide)
  rw [z]; omega
theorem own_kold {Z : State} {h0 h : Heap} (hold : ∀ (b : Addr) (cl : Cell), Z.heap[b]? = some cl → h0[b]? = some cl) (K : Keep h0 h []) : ∀ (b : Addr) (cl : Cell), Z.heap[b]? = some cl → h[b]? = some cl := fun b cl q => K.2.1 b cl (hold b cl q) nin0
/-! equal texts -/
def own_same (n1 : Nat) (f1 : Nat → Int32) (n2 : Nat) (f2 : Nat → Int32) (r : Int32) : Prop := (r = (1 : Int32) ∧ n1 = n2 ∧ ∀ i, i < n1 → f1 i = f2 i) ∨ (r = (0 : Int32) ∧ (n1 ≠ n2 ∨ ∃ i, i < n1 ∧ f1 i ≠ f2 i))
theorem own_same_refl (n : Nat) (f : Nat → Int32) : own_same n f n f (1 : Int32) := Or.inl ⟨rfl, rfl, fun _ _ => rfl⟩
theorem own_r1 {n1 n2 : Nat} {f1 f2 : Nat → Int32} {r : Int32} (hr : own_same n1 f1 n2 f2 r) (h : ¬ r = (0 : Int32)) : r = (1 : Int32) := by
  rcases hr with hr | hr
  · exact hr.1
  · exact absurd hr.1 h
theorem own_s0 (n1 n2 : Nat) (f1 f2 : Nat → Int32) (r : Int32) (hr : own_same n1 f1 n2 f2 r) (h : n1 ≠ n2) : r = (0 : Int32) := by
  rcases hr with hr | hr
  · exact absurd hr.2.1 h
  · exact hr.1
theorem own_s1 (n1 n2 : Nat) (f1 f2 : Nat → Int32) (r : Int32) (hr : own_same n1 f1 n2 f2 r) (e : n1 = n2) (h : ∀ i, i < n1 → f1 i = f2 i) : r = (1 : Int32) := by
  rcases hr with hr | hr
  · exact hr.1
  · rcases hr.2 with q | ⟨i, q1, q2⟩
    · exact absurd e q
    · exact absurd (h i q1) q2
theorem own_s2 (n1 n2 : Nat) (f1 f2 : Nat → Int32) (r : Int32) (i : Nat) (hr : own_same n1 f1 n2 f2 r) (hi : i < n1) (h : ¬ f1 i = f2 i) : r = (0 : Int32) := by
  rcases hr with hr | hr
  · exact absurd (hr.2.2 i hi) h
  · exact hr.1
theorem own_sS {Z : State} {h : Heap} {a1 a2 b1 b2 : Addr} {n1 n2 : Nat} {f1 f2 : Nat → Int32} {r : Int32} (hr : own_same n1 f1 n2 f2 r) (e : a1 = a2) (W1 : Fld Z h a1 "java/lang/String" "value" "[B" (.ref b1)) (W2 : Fld Z h a2 "java/lang/String" "value" "[B" (.ref b2)) (V1 : own_Ia Z h b1 .byte n1 f1) (V2 : own_Ia Z h b2 .byte n2 f2) : r = (1 : Int32) := by
  subst e
  have eb : b1 = b2 := Classical.byContradiction fun q => Fld.ne W1 W2 (fun w => q (Value.ref.inj w)) rfl
  subst eb
  obtain ⟨c1, A1, S1, H1, -⟩ := V1
  obtain ⟨c2, A2, S2, H2, -⟩ := V2
  cases A1.1.symm.trans A2.1
  have en : n1 = n2 := S1.symm.trans S2
  refine own_s1 n1 n2 f1 f2 r hr en (fun i hi => ?_)
  have q := (H1 i hi).symm.trans (H2 i (en ▸ hi))
  exact Value.int.inj (Option.some.inj q)
theorem own_nl (n : Nat) (h : n < 100) : n.toInt32.toInt = n := len_toInt (by omega)
theorem own_neq (n1 n2 : Nat) (h1 : n1 < 100) (h2 : n2 < 100) (h : n1.toInt32 = n2.toInt32) : n1 = n2 := by
  rw [← Int32.toInt_inj, own_nl n1 h1, own_nl n2 h2] at h; omega
theorem own_neq' (n1 n2 : Nat) (h : ¬ n1.toInt32 = n2.toInt32) : n1 ≠ n2 := fun e => h (by rw [e])
theorem own_fe (n : Nat) (i : Int32) (hn : n < 100) (h : 0 ≤ i.toInt ∧ i.toInt ≤ n) : (i + (1 : Int32)).toInt = i.toInt + 1 := by
  have a := c_iadd i 1; rw [show (1 : Int32).toInt = 1 from rfl] at a; have := rng32 (i + 1); omega
theorem own_e1 (n : Nat) (i : Int32) (kk : Nat) (hn : n < 100) (i1 : 0 ≤ i.toInt ∧ i.toInt ≤ n) (i2 : ((n : Int) - i.toInt).toNat = kk + 1) : 0 ≤ (i + (1 : Int32)).toInt ∧ (i + (1 : Int32)).toInt ≤ n := by rw [own_fe n i hn i1]; omega
theorem own_e2 (n : Nat) (i : Int32) (kk : Nat) (hn : n < 100) (i1 : 0 ≤ i.toInt ∧ i.toInt ≤ n) (i2 : ((n : Int) - i.toInt).toNat = kk + 1) : ((n : Int) - (i + (1 : Int32)).toInt).toNat = kk := by rw [own_fe n i hn i1]; omega
theorem own_e3 (n : Nat) (i : Int32) (kk : Nat) (f1 f2 : Nat → Int32) (hn : n < 100) (i1 : 0 ≤ i.toInt ∧ i.toInt ≤ n) (i2 : ((n : Int) - i.toInt).toNat = kk + 1) (i3 : ∀ j : Nat, (j : Int) < i.toInt → f1 j = f2 j) (h : f1 i.toNatClampNeg = f2 i.toNatClampNeg) : ∀ j : Nat, (j : Int) < (i + (1 : Int32)).toInt → f1 j = f2 j := by
  intro j hj
  rw [own_fe n i hn i1] at hj
  by_cases q : (j : Int) < i.toInt
  · exact i3 j q
  · have : j = i.toNatClampNeg := by simp only [Int32.toNatClampNeg]; omega
    rw [this]; exact h
theorem own_e4 (n : Nat) (i : Int32) (kk : Nat) (hn : n < 100) (i1 : 0 ≤ i.toInt ∧ i.toInt ≤ n) (i2 : ((n : Int) - i.toInt).toNat = kk + 1) : ¬ i < 0 ∧ i.toNatClampNeg < n := by
  refine ⟨by rw [Int32.lt_iff_toInt_lt, show (0 : Int32).toInt = 0 from rfl]; omega, ?_⟩
  simp only [Int32.toNatClampNeg]; omega
theorem own_e5 (n : Nat) (i : Int32) (hn : n < 100) (i1 : 0 ≤ i.toInt ∧ i.toInt ≤ n) (i2 : ((n : Int) - i.toInt).toNat = 0) : ¬ i < n.toInt32 := by rw [Int32.lt_iff_toInt_lt, own_nl n hn]; omega
theorem own_e6 (n : Nat) (i : Int32) (kk : Nat) (hn : n < 100) (i1 : 0 ≤ i.toInt ∧ i.toInt ≤ n) (i2 : ((n : Int) - i.toInt).toNat = kk + 1) : i < n.toInt32 := by rw [Int32.lt_iff_toInt_lt, own_nl n hn]; omega
theorem own_e7 (n : Nat) (i : Int32) (f1 f2 : Nat → Int32) (i1 : 0 ≤ i.toInt ∧ i.toInt ≤ n) (i2 : ((n : Int) - i.toInt).toNat = 0) (i3 : ∀ j : Nat, (j : Int) < i.toInt → f1 j = f2 j) : ∀ j, j < n → f1 j = f2 j := fun j hj => i3 j (by omega)
/-! the law's last comparison -/
def own_rq (ka kb : Int32) : Int32 := if ka = kb then (1 : Int32) else (0 : Int32)
theorem own_rq_y (ka kb : Int32) (h : ka = kb) : own_rq ka kb = (1 : Int32) := by unfold own_rq; rw [if_pos h]
theorem own_rq_n (ka kb : Int32) (h : ¬ ka = kb) : own_rq ka kb = (0 : Int32) := by unfold own_rq; rw [if_neg h]
theorem own_tnp : ∀ a : Fin 6, 0 < own_tn a.1 := by decide
theorem own_txd : ∀ a b : Fin 6, a ≠ b → own_tn a.1 ≠ own_tn b.1 ∨ ∃ i, i < own_tn a.1 ∧ own_tx a.1 i ≠ own_tx b.1 i := by
  intro a b h
  by_cases q : own_tn a.1 = own_tn b.1
  · right
    by_cases q0 : own_tx a.1 0 = own_tx b.1 0
    · refine ⟨1, ?_⟩
      revert a b; decide
    · refine ⟨0, ?_, q0⟩
      exact own_tnp a
  · exact Or.inl q
theorem own_rq_same (ka kb : Int32) (h1 : 0 ≤ ka.toInt ∧ ka.toInt < 6) (h2 : 0 ≤ kb.toInt ∧ kb.toInt < 6) : own_same (own_tn ka.toNatClampNeg) (own_tx ka.toNatClampNeg) (own_tn kb.toNatClampNeg) (own_tx kb.toNatClampNeg) (own_rq ka kb) := by
  by_cases q : ka = kb
  · rw [own_rq_y ka kb q, q]; exact own_same_refl _ _
  · rw [own_rq_n ka kb q]
    refine Or.inr ⟨rfl, ?_⟩
    have la : ka.toNatClampNeg < 6 := by simp only [Int32.toNatClampNeg]; omega
    have lb : kb.toNatClampNeg < 6 := by simp only [Int32.toNatClampNeg]; omega
    refine own_txd ⟨ka.toNatClampNeg, la⟩ ⟨kb.toNatClampNeg, lb⟩ (fun e => q ?_)
    have e' : ka.toNatClampNeg = kb.toNatClampNeg := congrArg Fin.val e
    rw [← Int32.toInt_inj]
    simp only [Int32.toNatClampNeg] at e'; omega
/-! an array that the case's words tell -/
theorem own_arr {s : State} {args : Array Value} {t : Term} {b : Addr} {n : Nat} {z : Int32} {f : Nat → Int32} (hf : Fit s) (ht : t.eval args s none [] s = some (.ref b)) (ha : (Jvm.Cond.arrayOf t .byte).value args s none s [] = some true) (hl : (Jvm.Cond.eq (.length t) (.int z)).value args s none s [] = some true) (hz : z = Int32.ofNat n ∧ n < 2 ^ 31)
    (he : ∀ i, i < n → (Jvm.Cond.eq (.elem t (.int (Int32.ofNat i))) (.int (f i))).value args s none s [] = some true) : own_Ia s s.heap b .byte n f := by
  obtain ⟨rfl, hn⟩ := hz
  obtain ⟨c, A⟩ := Arr.start ht ha
  have hlen := Cond.eq_int (beq_iff_eq.mpr hl : (Jvm.Cond.eq (.length t) (.int (Int32.ofNat n))).holds args s none s [] = true) rfl
  obtain ⟨sd, SA, hev, harrAt, hv⟩ := Term.length_spec hlen
  cases hev.symm.trans ht
  have h31 := SBG.length_lt hev harrAt hlen
  have hat := Arr.fin (Vm.Alike.refl _) A
  cases harrAt.symm.trans hat
  have hsz : c.slots.size = n := by
    have h2 : Int32.ofNat n = c.slots.size.toInt32 := Value.int.inj hv
    have h3 := congrArg Int32.toInt h2
    rw [Int32.toInt_ofNat_small hn, len_toInt h31] at h3; omega
  have hel : ∀ i, i < n → c.slots[i]? = some (.int (f i)) := fun i hi => by
    have e1 := Cond.eq_int (beq_iff_eq.mpr (he i hi) : (Jvm.Cond.eq (.elem t (.int (Int32.ofNat i))) (.int (f i))).holds args s none s [] = true) rfl
    rw [SBG.elem_at (ix := .int (Int32.ofNat i)) hev harrAt (by omega) h31 rfl] at e1; exact e1
  refine ⟨c, A, hsz, hel, fun i hi => ?_⟩
  have e1 : (Nat.toInt32 i).toNatClampNeg = i := by simp only [Int32.toNatClampNeg, len_toInt (show i < 2 ^ 31 by omega)]; rfl
  exact elem_fits (j := Nat.toInt32 i) hf A (idx_in (by omega) h31) (by rw [e1]; exact hel i hi)
theorem own_ws {Z : State} {a0 : Array Value} (hw : ∀ d ∈ tables_1, d.before a0 Z = true) : ∀ a ∈ Bundle.stringAtoms, a.before a0 Z = true := by
  intro d hd
  simp only [Bundle.stringAtoms, List.mem_cons, List.not_mem_nil, or_false] at hd
  rcases hd with rfl | rfl | rfl | rfl | rfl | rfl | rfl
  · exact (hw _ (List.mem_of_getElem? (i := 50) rfl))
  · exact (hw _ (List.mem_of_getElem? (i := 51) rfl))
  · exact (hw _ (List.mem_of_getElem? (i := 52) rfl))
  · exact (hw _ (List.mem_of_getElem? (i := 53) rfl))
  · exact (hw _ (List.mem_of_getElem? (i := 54) rfl))
  · exact (hw _ (List.mem_of_getElem? (i := 55) rfl))
  · exact (hw _ (List.mem_of_getElem? (i := 56) rfl))
theorem own_d_idx_0 : decode method_2_code 0 = .ok (.iload_n 0, 1) := by decide +kernel
theorem own_d_idx_1 : decode method_2_code 1 = .ok (.ldc 7, 2) := by decide +kernel
theorem own_d_idx_3 : decode method_2_code 3 = .ok (.iand, 1) := by decide +kernel
theorem own_d_idx_4 : decode method_2_code 4 = .ok (.bipush 6, 2) := by decide +kernel
theorem own_d_idx_6 : decode method_2_code 6 = .ok (.irem, 1) := by decide +kernel
theorem own_d_idx_7 : decode method_2_code 7 = .ok (.ireturn, 1) := by decide +kernel
theorem own_pn_com_example_arcwright_arcwright_learn_gp_NodeOfPinLaw : plainName "com/example/arcwright/arcwright/learn/gp/NodeOfPinLaw" = true := by first | (simp [plainName, overriddenIn]; done) | decide +kernel
theorem own_ef_idx (m : MethodId) (q : Int32) : entryFrame m #[(.int q)] 1 = mkF m 0 #[.val (.int q)] [] := by first | (simp [entryFrame, mkF, argsToLocals, Value.category]; done) | rfl
def own_Q_idx (Z : State) (q : Int32) (h0 : Heap) (n0 : Nat) (v : Option Value) (h : Heap) (L : List Loc) : Prop := v = some (.int ((q &&& (2147483647 : Int32)) % (6 : Int32))) ∧ Fr n0 L ∧ h = h0
set_option maxRecDepth 65536 in
set_option maxHeartbeats 40000000 in
theorem own_rm_idx (l : Launch) (Z : State) (a0 : Array Value) (hw : ∀ d ∈ tables_1, d.before a0 Z = true) (ws : List Jvm.Cond) (q : Int32) (h0 : Heap) (n0 : Nat) (Z0 : n0 ≤ h0.size) :
    MetFree l (⟨"com/example/arcwright/arcwright/learn/gp/NodeOfPinLaw", "index", "(I)I"⟩ : MethodName) (head1 (Jvm.Cond.code (⟨"com/example/arcwright/arcwright/learn/gp/NodeOfPinLaw", "index", "(I)I"⟩ : MethodName) method_2_code 1 (some .int) :: ws) ({ frames := 0, cells := 0, slots := 0, locals := 0 } : Room)) (fun a_ U_ => a_ = #[(.int q)] ∧ Z.Warmed39 U_.vm ∧ U_.heap = h0) (fun _ _ _ _ _ => True) (fun _ U_ o_ U'_ => ∃ v_ L_, o_ = .returned v_ ∧ own_Q_idx Z q h0 n0 v_ U'_.heap L_ ∧ FrameEnd U_ o_ U'_ L_ ({ frames := 0, cells := 0, slots := 0, locals := 0 } : Room).cells ({ frames := 0, cells := 0, slots := 0, locals := 0 } : Room).slots) := by
  refine MetFree.of_bodySF (plainFor_of_name own_pn_com_example_arcwright_arcwright_learn_gp_NodeOfPinLaw) hisR ?_
  intro p e s m args below meth c s₁ Bd hml0 hP hK
  obtain ⟨rfl, hZ, hh⟩ := hP
  have hx := Bd.exec
  have hby := Bd.bytes
  have hlk : meth.locks = false := BodyLoose.notSynchronized Bd
  have hml : c.maxLocals = 1 := hml0
  have hown : s.vm.findClass "com/example/arcwright/arcwright/learn/gp/NodeOfPinLaw" = some m.cls := findClass_of_methodNamed Bd.named
  have hnm := (name_of_methodNamed Bd.named Bd.method).1
  have X0 : Stand p l e ({ frames := 0, cells := 0, slots := 0, locals := 0 } : Room) s m #[(.int q)] below meth c s₁ [] 0 0 := Stand.of_body Bd
  have e0 : s₁.heap = h0 := by rw [← hh, Bd.state]; rfl
  have N0 := Fr.nil n0
  show own_Goes p e below (own_K (own_Q_idx Z q h0 n0) s ({ frames := 0, cells := 0, slots := 0, locals := 0 } : Room).cells ({ frames := 0, cells := 0, slots := 0, locals := 0 } : Room).slots) s₁ (entryFrame m #[(.int q)] 1)
  rw [own_ef_idx]
  refine own_by (T' := s₁) (g' := (mkF m 1 #[.val (.int q)] [(.int q)])) (fun t_ k_ => XS.iloadN X0.here hx rfl (hb hby own_d_idx_0) rfl k_) ?_
  refine own_by (T' := s₁) (g' := (mkF m 3 #[.val (.int q)] [(.int (2147483647 : Int32)), (.int q)])) (fun t_ k_ => X0.ldcInt hx hown (mvT hZ (hw _ (List.mem_of_getElem? (i := 4) rfl))) (g := (mkF m 1 #[.val (.int q)] [(.int q)])) rfl (hb hby own_d_idx_1) _ k_) ?_
  refine own_by (T' := s₁) (g' := (mkF m 4 #[.val (.int q)] [(.int (q &&& (2147483647 : Int32)))])) (fun t_ k_ => XS.iand X0.here hx rfl (hb hby own_d_idx_3) rfl k_) ?_
  refine own_by (T' := s₁) (g' := (mkF m 6 #[.val (.int q)] [(.int (6 : Int32)), (.int (q &&& (2147483647 : Int32)))])) (fun t_ k_ => XS.bipush X0.here hx rfl (hb hby own_d_idx_4) k_) ?_
  refine own_by (T' := s₁) (g' := (mkF m 7 #[.val (.int q)] [(.int ((q &&& (2147483647 : Int32)) % (6 : Int32)))])) (fun t_ k_ => Jvm.RoadKit.iremM X0 hx rfl (hb hby own_d_idx_6) rfl (by decide) k_) ?_
  refine own_retI X0 hx Bd.returns hlk (hb hby own_d_idx_7) (by decide) (by decide) ?_
  rw [e0]
  exact ⟨rfl, N0, rfl⟩
theorem own_d_pick_0 : decode method_3_code 0 = .ok (.iload_n 0, 1) := by decide +kernel
theorem own_d_pick_1 : decode method_3_code 1 = .ok (.ifCond .ne 7, 3) := by decide +kernel
theorem own_d_pick_4 : decode method_3_code 4 = .ok (.getstatic 8, 3) := by decide +kernel
theorem own_d_pick_7 : decode method_3_code 7 = .ok (.areturn, 1) := by decide +kernel
theorem own_d_pick_8 : decode method_3_code 8 = .ok (.iload_n 0, 1) := by decide +kernel
theorem own_d_pick_9 : decode method_3_code 9 = .ok (.iconst 1, 1) := by decide +kernel
theorem own_d_pick_10 : decode method_3_code 10 = .ok (.if_icmp .ne 7, 3) := by decide +kernel
theorem own_d_pick_13 : decode method_3_code 13 = .ok (.getstatic 14, 3) := by decide +kernel
theorem own_d_pick_16 : decode method_3_code 16 = .ok (.areturn, 1) := by decide +kernel
theorem own_d_pick_17 : decode method_3_code 17 = .ok (.iload_n 0, 1) := by decide +kernel
theorem own_d_pick_18 : decode method_3_code 18 = .ok (.iconst 2, 1) := by decide +kernel
theorem own_d_pick_19 : decode method_3_code 19 = .ok (.if_icmp .ne 7, 3) := by decide +kernel
theorem own_d_pick_22 : decode method_3_code 22 = .ok (.getstatic 17, 3) := by decide +kernel
theorem own_d_pick_25 : decode method_3_code 25 = .ok (.areturn, 1) := by decide +kernel
theorem own_d_pick_26 : decode method_3_code 26 = .ok (.iload_n 0, 1) := by decide +kernel
theorem own_d_pick_27 : decode method_3_code 27 = .ok (.iconst 3, 1) := by decide +kernel
theorem own_d_pick_28 : decode method_3_code 28 = .ok (.if_icmp .ne 7, 3) := by decide +kernel
theorem own_d_pick_31 : decode method_3_code 31 = .ok (.getstatic 20, 3) := by decide +kernel
theorem own_d_pick_34 : decode method_3_code 34 = .ok (.areturn, 1) := by decide +kernel
theorem own_d_pick_35 : decode method_3_code 35 = .ok (.iload_n 0, 1) := by decide +kernel
theorem own_d_pick_36 : decode method_3_code 36 = .ok (.iconst 4, 1) := by decide +kernel
theorem own_d_pick_37 : decode method_3_code 37 = .ok (.if_icmp .ne 7, 3) := by decide +kernel
theorem own_d_pick_40 : decode method_3_code 40 = .ok (.getstatic 23, 3) := by decide +kernel
theorem own_d_pick_43 : decode method_3_code 43 = .ok (.areturn, 1) := by decide +kernel
theorem own_d_pick_44 : decode method_3_code 44 = .ok (.getstatic 26, 3) := by decide +kernel
theorem own_d_pick_47 : decode method_3_code 47 = .ok (.areturn, 1) := by decide +kernel
theorem own_ef_pick (m : MethodId) (k : Int32) : entryFrame m #[(.int k)] 1 = mkF m 0 #[.val (.int k)] [] := by first | (simp [entryFrame, mkF, argsToLocals, Value.category]; done) | rfl
def own_Q_pick (Z : State) (k : Int32) (a_ADD : Addr) (a_SUBTRACT : Addr) (a_MULTIPLY : Addr) (a_DIVIDE : Addr) (a_MIN : Addr) (a_MAX : Addr) (h0 : Heap) (n0 : Nat) (v : Option Value) (h : Heap) (L : List Loc) : Prop := ∃ op, v = some (.ref op) ∧ Fr n0 L ∧ h = h0 ∧ own_Op Z h0 k.toNatClampNeg op
set_option maxRecDepth 65536 in
set_option maxHeartbeats 40000000 in
theorem own_rm_pick (l : Launch) (Z : State) (a0 : Array Value) (hw : ∀ d ∈ tables_1, d.before a0 Z = true) (ws : List Jvm.Cond) (k : Int32) (a_ADD : Addr) (a_SUBTRACT : Addr) (a_MULTIPLY : Addr) (a_DIVIDE : Addr) (a_MIN : Addr) (a_MAX : Addr) (h0 : Heap) (n0 : Nat) (Z0 : n0 ≤ h0.size) (S_ADD : Sta Z h0 "com/example/arcwright/arcwright/model/policy/Operator" "ADD" "Lcom/example/arcwright/arcwright/model/policy/Operator;" (.ref a_ADD)) (S_SUBTRACT : Sta Z h0 "com/example/arcwright/arcwright/model/policy/Operator" "SUBTRACT" "Lcom/example/arcwright/arcwright/model/policy/Operator;" (.ref a_SUBTRACT)) (S_MULTIPLY : Sta Z h0 "com/example/arcwright/arcwright/model/policy/Operator" "MULTIPLY" "Lcom/example/arcwright/arcwright/model/policy/Operator;" (.ref a_MULTIPLY)) (S_DIVIDE : Sta Z h0 "com/example/arcwright/arcwright/model/policy/Operator" "DIVIDE" "Lcom/example/arcwright/arcwright/model/policy/Operator;" (.ref a_DIVIDE)) (S_MIN : Sta Z h0 "com/example/arcwright/arcwright/model/policy/Operator" "MIN" "Lcom/example/arcwright/arcwright/model/policy/Operator;" (.ref a_MIN)) (S_MAX : Sta Z h0 "com/example/arcwright/arcwright/model/policy/Operator" "MAX" "Lcom/example/arcwright/arcwright/model/policy/Operator;" (.ref a_MAX)) (O_ADD : own_Op Z h0 0 a_ADD) (O_SUBTRACT : own_Op Z h0 1 a_SUBTRACT) (O_MULTIPLY : own_Op Z h0 2 a_MULTIPLY) (O_DIVIDE : own_Op Z h0 3 a_DIVIDE) (O_MIN : own_Op Z h0 4 a_MIN) (O_MAX : own_Op Z h0 5 a_MAX) (hk : 0 ≤ k.toInt ∧ k.toInt < 6) :
    MetFree l (⟨"com/example/arcwright/arcwright/learn/gp/NodeOfPinLaw", "pick", "(I)Lcom/example/arcwright/arcwright/model/policy/Operator;"⟩ : MethodName) (head1 (Jvm.Cond.code (⟨"com/example/arcwright/arcwright/learn/gp/NodeOfPinLaw", "pick", "(I)Lcom/example/arcwright/arcwright/model/policy/Operator;"⟩ : MethodName) method_3_code 1 (some (.object "com/example/arcwright/arcwright/model/policy/Operator")) :: ws) ({ frames := 0, cells := 0, slots := 0, locals := 0 } : Room)) (fun a_ U_ => a_ = #[(.int k)] ∧ Z.Warmed39 U_.vm ∧ U_.heap = h0) (fun _ _ _ _ _ => True) (fun _ U_ o_ U'_ => ∃ v_ L_, o_ = .returned v_ ∧ own_Q_pick Z k a_ADD a_SUBTRACT a_MULTIPLY a_DIVIDE a_MIN a_MAX h0 n0 v_ U'_.heap L_ ∧ FrameEnd U_ o_ U'_ L_ ({ frames := 0, cells := 0, slots := 0, locals := 0 } : Room).cells ({ frames := 0, cells := 0, slots := 0, locals := 0 } : Room).slots) := by
  refine MetFree.of_bodySF (plainFor_of_name own_pn_com_example_arcwright_arcwright_learn_gp_NodeOfPinLaw) hisR ?_
  intro p e s m args below meth c s₁ Bd hml0 hP hK
  obtain ⟨rfl, hZ, hh⟩ := hP
  have hx := Bd.exec
  have hby := Bd.bytes
  have hlk : meth.locks = false := BodyLoose.notSynchronized Bd
  have hml : c.maxLocals = 1 := hml0
  have hown : s.vm.findClass "com/example/arcwright/arcwright/learn/gp/NodeOfPinLaw" = some m.cls := findClass_of_methodNamed Bd.named
  have hnm := (name_of_methodNamed Bd.named Bd.method).1
  have X0 : Stand p l e ({ frames := 0, cells := 0, slots := 0, locals := 0 } : Room) s m #[(.int k)] below meth c s₁ [] 0 0 := Stand.of_body Bd
  have e0 : s₁.heap = h0 := by rw [← hh, Bd.state]; rfl
  have N0 := Fr.nil n0
  show own_Goes p e below (own_K (own_Q_pick Z k a_ADD a_SUBTRACT a_MULTIPLY a_DIVIDE a_MIN a_MAX h0 n0) s ({ frames := 0, cells := 0, slots := 0, locals := 0 } : Room).cells ({ frames := 0, cells := 0, slots := 0, locals := 0 } : Room).slots) s₁ (entryFrame m #[(.int k)] 1)
  rw [own_ef_pick]
  refine own_by (T' := s₁) (g' := (mkF m 1 #[.val (.int k)] [(.int k)])) (fun t_ k_ => XS.iloadN X0.here hx rfl (hb hby own_d_pick_0) rfl k_) ?_
  by_cases c1_1 : k = (0 : Int32)
  · skip
    refine own_by (T' := s₁) (g' := (mkF m 4 #[.val (.int k)] [])) (fun t_ k_ => XS.ifNo X0.here hx rfl (hb hby own_d_pick_1) rfl ((if0 _ _).trans (teq (c1_1 : k = (0 : Int32))).2) k_) ?_
    obtain ⟨T2, X2, e2, st2⟩ := getS2 X0 hx hZ hown (host := "") (Or.inl (hw _ (List.mem_of_getElem? (i := 8) rfl))) Via.refl e0 S_ADD (g := (mkF m 4 #[.val (.int k)] [])) rfl (hb hby own_d_pick_4)
    refine own_by (T' := T2) (g' := (mkF m 7 #[.val (.int k)] [(.ref a_ADD)])) st2 ?_
    refine own_retR X2 hx Bd.returns hlk rfl rfl (hb hby own_d_pick_7) (by decide) (by decide) ?_
    rw [e2]
    exact ⟨_, rfl, N0, rfl, own_Op_at (by rw [c1_1]; first | done | rfl) O_ADD⟩
  · skip
    refine own_by (T' := s₁) (g' := (mkF m 8 #[.val (.int k)] [])) (fun t_ k_ => XS.ifYes X0.here hx rfl (pc0 := 1) (pc' := 8) rfl (hb hby own_d_pick_1) rfl ((if0 _ _).trans (feq (c1_1 : ¬ (k = (0 : Int32)))).2) (by decide) (by decide) k_) ?_
    refine own_by (T' := s₁) (g' := (mkF m 9 #[.val (.int k)] [(.int k)])) (fun t_ k_ => XS.iloadN X0.here hx rfl (hb hby own_d_pick_8) rfl k_) ?_
    refine own_by (T' := s₁) (g' := (mkF m 10 #[.val (.int k)] [(.int (1 : Int32)), (.int k)])) (fun t_ k_ => XS.iconst X0.here hx rfl (hb hby own_d_pick_9) k_) ?_
    by_cases c10_3 : k = (1 : Int32)
    · skip
      refine own_by (T' := s₁) (g' := (mkF m 13 #[.val (.int k)] [])) (fun t_ k_ => XS.icmpNo X0.here hx rfl (hb hby own_d_pick_10) rfl (teq (c10_3 : k = (1 : Int32))).2 k_) ?_
      obtain ⟨T4, X4, e4, st4⟩ := getS2 X0 hx hZ hown (host := "") (Or.inl (hw _ (List.mem_of_getElem? (i := 81) rfl))) Via.refl e0 S_SUBTRACT (g := (mkF m 13 #[.val (.int k)] [])) rfl (hb hby own_d_pick_13)
      refine own_by (T' := T4) (g' := (mkF m 16 #[.val (.int k)] [(.ref a_SUBTRACT)])) st4 ?_
      refine own_retR X4 hx Bd.returns hlk rfl rfl (hb hby own_d_pick_16) (by decide) (by decide) ?_
      rw [e4]
      exact ⟨_, rfl, N0, rfl, own_Op_at (by rw [c10_3]; first | done | rfl) O_SUBTRACT⟩
    · skip
      refine own_by (T' := s₁) (g' := (mkF m 17 #[.val (.int k)] [])) (fun t_ k_ => XS.icmpYes X0.here hx rfl (pc0 := 10) (pc' := 17) rfl (hb hby own_d_pick_10) rfl (feq (c10_3 : ¬ (k = (1 : Int32)))).2 (by decide) (by decide) k_) ?_
      refine own_by (T' := s₁) (g' := (mkF m 18 #[.val (.int k)] [(.int k)])) (fun t_ k_ => XS.iloadN X0.here hx rfl (hb hby own_d_pick_17) rfl k_) ?_
      refine own_by (T' := s₁) (g' := (mkF m 19 #[.val (.int k)] [(.int (2 : Int32)), (.int k)])) (fun t_ k_ => XS.iconst X0.here hx rfl (hb hby own_d_pick_18) k_) ?_
      by_cases c19_5 : k = (2 : Int32)
      · skip
        refine own_by (T' := s₁) (g' := (mkF m 22 #[.val (.int k)] [])) (fun t_ k_ => XS.icmpNo X0.here hx rfl (hb hby own_d_pick_19) rfl (teq (c19_5 : k = (2 : Int32))).2 k_) ?_
        obtain ⟨T6, X6, e6, st6⟩ := getS2 X0 hx hZ hown (host := "") (Or.inl (hw _ (List.mem_of_getElem? (i := 79) rfl))) Via.refl e0 S_MULTIPLY (g := (mkF m 22 #[.val (.int k)] [])) rfl (hb hby own_d_pick_22)
        refine own_by (T' := T6) (g' := (mkF m 25 #[.val (.int k)] [(.ref a_MULTIPLY)])) st6 ?_
        refine own_retR X6 hx Bd.returns hlk rfl rfl (hb hby own_d_pick_25) (by decide) (by decide) ?_
        rw [e6]
        exact ⟨_, rfl, N0, rfl, own_Op_at (by rw [c19_5]; first | done | rfl) O_MULTIPLY⟩
      · skip
        refine own_by (T' := s₁) (g' := (mkF m 26 #[.val (.int k)] [])) (fun t_ k_ => XS.icmpYes X0.here hx rfl (pc0 := 19) (pc' := 26) rfl (hb hby own_d_pick_19) rfl (feq (c19_5 : ¬ (k = (2 : Int32)))).2 (by decide) (by decide) k_) ?_
        refine own_by (T' := s₁) (g' := (mkF m 27 #[.val (.int k)] [(.int k)])) (fun t_ k_ => XS.iloadN X0.here hx rfl (hb hby own_d_pick_26) rfl k_) ?_
        refine own_by (T' := s₁) (g' := (mkF m 28 #[.val (.int k)] [(.int (3 : Int32)), (.int k)])) (fun t_ k_ => XS.iconst X0.here hx rfl (hb hby own_d_pick_27) k_) ?_
        by_cases c28_7 : k = (3 : Int32)
        · skip
          refine own_by (T' := s₁) (g' := (mkF m 31 #[.val (.int k)] [])) (fun t_ k_ => XS.icmpNo X0.here hx rfl (hb hby own_d_pick_28) rfl (teq (c28_7 : k = (3 : Int32))).2 k_) ?_
          obtain ⟨T8, X8, e8, st8⟩ := getS2 X0 hx hZ hown (host := "") (Or.inl (hw _ (List.mem_of_getElem? (i := 11) rfl))) Via.refl e0 S_DIVIDE (g := (mkF m 31 #[.val (.int k)] [])) rfl (hb hby own_d_pick_31)
          refine own_by (T' := T8) (g' := (mkF m 34 #[.val (.int k)] [(.ref a_DIVIDE)])) st8 ?_
          refine own_retR X8 hx Bd.returns hlk rfl rfl (hb hby own_d_pick_34) (by decide) (by decide) ?_
          rw [e8]
          exact ⟨_, rfl, N0, rfl, own_Op_at (by rw [c28_7]; first | done | rfl) O_DIVIDE⟩
        · skip
          refine own_by (T' := s₁) (g' := (mkF m 35 #[.val (.int k)] [])) (fun t_ k_ => XS.icmpYes X0.here hx rfl (pc0 := 28) (pc' := 35) rfl (hb hby own_d_pick_28) rfl (feq (c28_7 : ¬ (k = (3 : Int32)))).2 (by decide) (by decide) k_) ?_
          refine own_by (T' := s₁) (g' := (mkF m 36 #[.val (.int k)] [(.int k)])) (fun t_ k_ => XS.iloadN X0.here hx rfl (hb hby own_d_pick_35) rfl k_) ?_
          refine own_by (T' := s₁) (g' := (mkF m 37 #[.val (.int k)] [(.int (4 : Int32)), (.int k)])) (fun t_ k_ => XS.iconst X0.here hx rfl (hb hby own_d_pick_36) k_) ?_
          by_cases c37_9 : k = (4 : Int32)
          · skip
            refine own_by (T' := s₁) (g' := (mkF m 40 #[.val (.int k)] [])) (fun t_ k_ => XS.icmpNo X0.here hx rfl (hb hby own_d_pick_37) rfl (teq (c37_9 : k = (4 : Int32))).2 k_) ?_
            obtain ⟨T10, X10, e10, st10⟩ := getS2 X0 hx hZ hown (host := "") (Or.inl (hw _ (List.mem_of_getElem? (i := 86) rfl))) Via.refl e0 S_MIN (g := (mkF m 40 #[.val (.int k)] [])) rfl (hb hby own_d_pick_40)
            refine own_by (T' := T10) (g' := (mkF m 43 #[.val (.int k)] [(.ref a_MIN)])) st10 ?_
            refine own_retR X10 hx Bd.returns hlk rfl rfl (hb hby own_d_pick_43) (by decide) (by decide) ?_
            rw [e10]
            exact ⟨_, rfl, N0, rfl, own_Op_at (by rw [c37_9]; first | done | rfl) O_MIN⟩
          · skip
            refine own_by (T' := s₁) (g' := (mkF m 44 #[.val (.int k)] [])) (fun t_ k_ => XS.icmpYes X0.here hx rfl (pc0 := 37) (pc' := 44) rfl (hb hby own_d_pick_37) rfl (feq (c37_9 : ¬ (k = (4 : Int32)))).2 (by decide) (by decide) k_) ?_
            obtain ⟨T11, X11, e11, st11⟩ := getS2 X0 hx hZ hown (host := "") (Or.inl (hw _ (List.mem_of_getElem? (i := 84) rfl))) Via.refl e0 S_MAX (g := (mkF m 44 #[.val (.int k)] [])) rfl (hb hby own_d_pick_44)
            refine own_by (T' := T11) (g' := (mkF m 47 #[.val (.int k)] [(.ref a_MAX)])) st11 ?_
            refine own_retR X11 hx Bd.returns hlk rfl rfl (hb hby own_d_pick_47) (by decide) (by decide) ?_
            rw [e11]
            exact ⟨_, rfl, N0, rfl, own_Op_at (own_k5 k hk c1_1 c10_3 c19_5 c28_7 c37_9) O_MAX⟩
theorem own_d_os_0 : decode prog_38_method_4_code 0 = .ok (.aload_n 0, 1) := by decide +kernel
theorem own_d_os_1 : decode prog_38_method_4_code 1 = .ok (.getfield 41, 3) := by decide +kernel
theorem own_d_os_4 : decode prog_38_method_4_code 4 = .ok (.areturn, 1) := by decide +kernel
theorem own_pn_com_example_arcwright_arcwright_model_policy_Operator : plainName "com/example/arcwright/arcwright/model/policy/Operator" = true := by first | (simp [plainName, overriddenIn]; done) | decide +kernel
theorem own_ef_os (m : MethodId) (a : Addr) : entryFrame m #[(.ref a)] 1 = mkF m 0 #[.val (.ref a)] [] := by first | (simp [entryFrame, mkF, argsToLocals, Value.category]; done) | rfl
def own_Q_os (Z : State) (a : Addr) (sy : Addr) (h0 : Heap) (n0 : Nat) (v : Option Value) (h : Heap) (L : List Loc) : Prop := v = some (.ref sy) ∧ Fr n0 L ∧ h = h0
set_option maxRecDepth 65536 in
set_option maxHeartbeats 40000000 in
theorem own_rm_os (l : Launch) (Z : State) (a0 : Array Value) (hw : ∀ d ∈ tables_1, d.before a0 Z = true) (ws : List Jvm.Cond) (a : Addr) (sy : Addr) (h0 : Heap) (n0 : Nat) (Z0 : n0 ≤ h0.size) (F0 : Fld Z h0 a "com/example/arcwright/arcwright/model/policy/Operator" "symbol" "Ljava/lang/String;" (.ref sy)) :
    MetFree l (⟨"com/example/arcwright/arcwright/model/policy/Operator", "symbol", "()Ljava/lang/String;"⟩ : MethodName) (head1 (Jvm.Cond.code (⟨"com/example/arcwright/arcwright/model/policy/Operator", "symbol", "()Ljava/lang/String;"⟩ : MethodName) prog_38_method_4_code 1 (some (.object "java/lang/String")) :: ws) ({ frames := 0, cells := 0, slots := 0, locals := 0 } : Room)) (fun a_ U_ => a_ = #[(.ref a)] ∧ Z.Warmed39 U_.vm ∧ U_.heap = h0) (fun _ _ _ _ _ => True) (fun _ U_ o_ U'_ => ∃ v_ L_, o_ = .returned v_ ∧ own_Q_os Z a sy h0 n0 v_ U'_.heap L_ ∧ FrameEnd U_ o_ U'_ L_ ({ frames := 0, cells := 0, slots := 0, locals := 0 } : Room).cells ({ frames := 0, cells := 0, slots := 0, locals := 0 } : Room).slots) := by
  refine MetFree.of_bodySF (plainFor_of_name own_pn_com_example_arcwright_arcwright_model_policy_Operator) hisR ?_
  intro p e s m args below meth c s₁ Bd hml0 hP hK
  obtain ⟨rfl, hZ, hh⟩ := hP
  have hx := Bd.exec
  have hby := Bd.bytes
  have hlk : meth.locks = false := BodyLoose.notSynchronized Bd
  have hml : c.maxLocals = 1 := hml0
  have hown : s.vm.findClass "com/example/arcwright/arcwright/model/policy/Operator" = some m.cls := findClass_of_methodNamed Bd.named
  have hnm := (name_of_methodNamed Bd.named Bd.method).1
  have X0 : Stand p l e ({ frames := 0, cells := 0, slots := 0, locals := 0 } : Room) s m #[(.ref a)] below meth c s₁ [] 0 0 := Stand.of_body Bd
  have e0 : s₁.heap = h0 := by rw [← hh, Bd.state]; rfl
  have N0 := Fr.nil n0
  show own_Goes p e below (own_K (own_Q_os Z a sy h0 n0) s ({ frames := 0, cells := 0, slots := 0, locals := 0 } : Room).cells ({ frames := 0, cells := 0, slots := 0, locals := 0 } : Room).slots) s₁ (entryFrame m #[(.ref a)] 1)
  rw [own_ef_os]
  refine own_by (T' := s₁) (g' := (mkF m 1 #[.val (.ref a)] [(.ref a)])) (fun t_ k_ => XS.aloadN X0.here hx rfl (hb hby own_d_os_0) rfl rfl k_) ?_
  obtain ⟨T1, X1, e1, st1⟩ := getF X0 hx hZ hown (host := "") (Or.inl (hw _ (List.mem_of_getElem? (i := 24) rfl))) Via.refl e0 F0 (g := (mkF m 1 #[.val (.ref a)] [(.ref a)])) rfl rfl (hb hby own_d_os_1)
  refine own_by (T' := T1) (g' := (mkF m 4 #[.val (.ref a)] [(.ref sy)])) st1 ?_
  refine own_retR X1 hx Bd.returns hlk rfl rfl (hb hby own_d_os_4) (by decide) (by decide) ?_
  rw [e1]
  exact ⟨rfl, N0, rfl⟩
theorem own_d_ns_0 : decode prog_10_method_5_code 0 = .ok (.aload_n 0, 1) := by decide +kernel
theorem own_d_ns_1 : decode prog_10_method_5_code 1 = .ok (.getfield 7, 3) := by decide +kernel
theorem own_d_ns_4 : decode prog_10_method_5_code 4 = .ok (.areturn, 1) := by decide +kernel
theorem own_pn_com_example_arcwright_arcwright_learn_gp_Node : plainName "com/example/arcwright/arcwright/learn/gp/Node" = true := by first | (simp [plainName, overriddenIn]; done) | decide +kernel
theorem own_ef_ns (m : MethodId) (a : Addr) : entryFrame m #[(.ref a)] 1 = mkF m 0 #[.val (.ref a)] [] := by first | (simp [entryFrame, mkF, argsToLocals, Value.category]; done) | rfl
def own_Q_ns (Z : State) (a : Addr) (sy : Addr) (h0 : Heap) (n0 : Nat) (v : Option Value) (h : Heap) (L : List Loc) : Prop := v = some (.ref sy) ∧ Fr n0 L ∧ h = h0
set_option maxRecDepth 65536 in
set_option maxHeartbeats 40000000 in
theorem own_rm_ns (l : Launch) (Z : State) (a0 : Array Value) (hw : ∀ d ∈ tables_1, d.before a0 Z = true) (ws : List Jvm.Cond) (a : Addr) (sy : Addr) (h0 : Heap) (n0 : Nat) (Z0 : n0 ≤ h0.size) (F0 : Fld Z h0 a "com/example/arcwright/arcwright/learn/gp/Node" "symbol" "Ljava/lang/String;" (.ref sy)) :
    MetFree l (⟨"com/example/arcwright/arcwright/learn/gp/Node", "symbol", "()Ljava/lang/String;"⟩ : MethodName) (head1 (Jvm.Cond.code (⟨"com/example/arcwright/arcwright/learn/gp/Node", "symbol", "()Ljava/lang/String;"⟩ : MethodName) prog_10_method_5_code 1 (some (.object "java/lang/String")) :: ws) ({ frames := 0, cells := 0, slots := 0, locals := 0 } : Room)) (fun a_ U_ => a_ = #[(.ref a)] ∧ Z.Warmed39 U_.vm ∧ U_.heap = h0) (fun _ _ _ _ _ => True) (fun _ U_ o_ U'_ => ∃ v_ L_, o_ = .returned v_ ∧ own_Q_ns Z a sy h0 n0 v_ U'_.heap L_ ∧ FrameEnd U_ o_ U'_ L_ ({ frames := 0, cells := 0, slots := 0, locals := 0 } : Room).cells ({ frames := 0, cells := 0, slots := 0, locals := 0 } : Room).slots) := by
  refine MetFree.of_bodySF (plainFor_of_name own_pn_com_example_arcwright_arcwright_learn_gp_Node) hisR ?_
  intro p e s m args below meth c s₁ Bd hml0 hP hK
  obtain ⟨rfl, hZ, hh⟩ := hP
  have hx := Bd.exec
  have hby := Bd.bytes
  have hlk : meth.locks = false := BodyLoose.notSynchronized Bd
  have hml : c.maxLocals = 1 := hml0
  have hown : s.vm.findClass "com/example/arcwright/arcwright/learn/gp/Node" = some m.cls := findClass_of_methodNamed Bd.named
  have hnm := (name_of_methodNamed Bd.named Bd.method).1
  have X0 : Stand p l e ({ frames := 0, cells := 0, slots := 0, locals := 0 } : Room) s m #[(.ref a)] below meth c s₁ [] 0 0 := Stand.of_body Bd
  have e0 : s₁.heap = h0 := by rw [← hh, Bd.state]; rfl
  have N0 := Fr.nil n0
  show own_Goes p e below (own_K (own_Q_ns Z a sy h0 n0) s ({ frames := 0, cells := 0, slots := 0, locals := 0 } : Room).cells ({ frames := 0, cells := 0, slots := 0, locals := 0 } : Room).slots) s₁ (entryFrame m #[(.ref a)] 1)
  rw [own_ef_ns]
  refine own_by (T' := s₁) (g' := (mkF m 1 #[.val (.ref a)] [(.ref a)])) (fun t_ k_ => XS.aloadN X0.here hx rfl (hb hby own_d_ns_0) rfl rfl k_) ?_
  obtain ⟨T1, X1, e1, st1⟩ := getF X0 hx hZ hown (host := "") (Or.inl (hw _ (List.mem_of_getElem? (i := 32) rfl))) Via.refl e0 F0 (g := (mkF m 1 #[.val (.ref a)] [(.ref a)])) rfl rfl (hb hby own_d_ns_1)
  refine own_by (T' := T1) (g' := (mkF m 4 #[.val (.ref a)] [(.ref sy)])) st1 ?_
  refine own_retR X1 hx Bd.returns hlk rfl rfl (hb hby own_d_ns_4) (by decide) (by decide) ?_
  rw [e1]
  exact ⟨rfl, N0, rfl⟩
theorem own_d_nf_0 : decode prog_10_method_6_code 0 = .ok (.aload_n 0, 1) := by decide +kernel
theorem own_d_nf_1 : decode prog_10_method_6_code 1 = .ok (.getfield 13, 3) := by decide +kernel
theorem own_d_nf_4 : decode prog_10_method_6_code 4 = .ok (.ireturn, 1) := by decide +kernel
theorem own_ef_nf (m : MethodId) (a : Addr) : entryFrame m #[(.ref a)] 1 = mkF m 0 #[.val (.ref a)] [] := by first | (simp [entryFrame, mkF, argsToLocals, Value.category]; done) | rfl
def own_Q_nf (Z : State) (a : Addr) (h0 : Heap) (n0 : Nat) (v : Option Value) (h : Heap) (L : List Loc) : Prop := v = some (.int (1 : Int32)) ∧ Fr n0 L ∧ h = h0
set_option maxRecDepth 65536 in
set_option maxHeartbeats 40000000 in
theorem own_rm_nf (l : Launch) (Z : State) (a0 : Array Value) (hw : ∀ d ∈ tables_1, d.before a0 Z = true) (ws : List Jvm.Cond) (a : Addr) (h0 : Heap) (n0 : Nat) (Z0 : n0 ≤ h0.size) (F0 : Fld Z h0 a "com/example/arcwright/arcwright/learn/gp/Node" "function" "Z" (.int (1 : Int32))) :
    MetFree l (⟨"com/example/arcwright/arcwright/learn/gp/Node", "function", "()Z"⟩ : MethodName) (head1 (Jvm.Cond.code (⟨"com/example/arcwright/arcwright/learn/gp/Node", "function", "()Z"⟩ : MethodName) prog_10_method_6_code 1 (some .boolean) :: ws) ({ frames := 0, cells := 0, slots := 0, locals := 0 } : Room)) (fun a_ U_ => a_ = #[(.ref a)] ∧ Z.Warmed39 U_.vm ∧ U_.heap = h0) (fun _ _ _ _ _ => True) (fun _ U_ o_ U'_ => ∃ v_ L_, o_ = .returned v_ ∧ own_Q_nf Z a h0 n0 v_ U'_.heap L_ ∧ FrameEnd U_ o_ U'_ L_ ({ frames := 0, cells := 0, slots := 0, locals := 0 } : Room).cells ({ frames := 0, cells := 0, slots := 0, locals := 0 } : Room).slots) := by
  refine MetFree.of_bodySF (plainFor_of_name own_pn_com_example_arcwright_arcwright_learn_gp_Node) hisR ?_
  intro p e s m args below meth c s₁ Bd hml0 hP hK
  obtain ⟨rfl, hZ, hh⟩ := hP
  have hx := Bd.exec
  have hby := Bd.bytes
  have hlk : meth.locks = false := BodyLoose.notSynchronized Bd
  have hml : c.maxLocals = 1 := hml0
  have hown : s.vm.findClass "com/example/arcwright/arcwright/learn/gp/Node" = some m.cls := findClass_of_methodNamed Bd.named
  have hnm := (name_of_methodNamed Bd.named Bd.method).1
  have X0 : Stand p l e ({ frames := 0, cells := 0, slots := 0, locals := 0 } : Room) s m #[(.ref a)] below meth c s₁ [] 0 0 := Stand.of_body Bd
  have e0 : s₁.heap = h0 := by rw [← hh, Bd.state]; rfl
  have N0 := Fr.nil n0
  show own_Goes p e below (own_K (own_Q_nf Z a h0 n0) s ({ frames := 0, cells := 0, slots := 0, locals := 0 } : Room).cells ({ frames := 0, cells := 0, slots := 0, locals := 0 } : Room).slots) s₁ (entryFrame m #[(.ref a)] 1)
  rw [own_ef_nf]
  refine own_by (T' := s₁) (g' := (mkF m 1 #[.val (.ref a)] [(.ref a)])) (fun t_ k_ => XS.aloadN X0.here hx rfl (hb hby own_d_nf_0) rfl rfl k_) ?_
  obtain ⟨T1, X1, e1, st1⟩ := getF X0 hx hZ hown (host := "") (Or.inl (hw _ (List.mem_of_getElem? (i := 34) rfl))) Via.refl e0 F0 (g := (mkF m 1 #[.val (.ref a)] [(.ref a)])) rfl rfl (hb hby own_d_nf_1)
  refine own_by (T' := T1) (g' := (mkF m 4 #[.val (.ref a)] [(.int (1 : Int32))])) st1 ?_
  refine own_retN X1 hx (t := .boolean) Bd.returns hlk (by simp) (hb hby own_d_nf_4) (by decide) (by decide) (v := (1 : Int32)) rfl ?_
  rw [e1]
  exact ⟨rfl, N0, rfl⟩
theorem own_d_ni_0 : decode prog_10_method_1_code 0 = .ok (.aload_n 0, 1) := by decide +kernel
theorem own_d_ni_1 : decode prog_10_method_1_code 1 = .ok (.invokespecial 1, 3) := by decide +kernel
theorem own_d_ni_4 : decode prog_10_method_1_code 4 = .ok (.aload_n 0, 1) := by decide +kernel
theorem own_d_ni_5 : decode prog_10_method_1_code 5 = .ok (.aload_n 1, 1) := by decide +kernel
theorem own_d_ni_6 : decode prog_10_method_1_code 6 = .ok (.putfield 7, 3) := by decide +kernel
theorem own_d_ni_9 : decode prog_10_method_1_code 9 = .ok (.aload_n 0, 1) := by decide +kernel
theorem own_d_ni_10 : decode prog_10_method_1_code 10 = .ok (.iload_n 2, 1) := by decide +kernel
theorem own_d_ni_11 : decode prog_10_method_1_code 11 = .ok (.putfield 13, 3) := by decide +kernel
theorem own_d_ni_14 : decode prog_10_method_1_code 14 = .ok (.return_, 1) := by decide +kernel
theorem own_ef_ni (m : MethodId) (a : Addr) (sy : Addr) : entryFrame m #[(.ref a), (.ref sy), (.int (1 : Int32))] 3 = mkF m 0 #[.val (.ref a), .val (.ref sy), .val (.int (1 : Int32))] [] := by first | (simp [entryFrame, mkF, argsToLocals, Value.category]; done) | rfl
def own_Q_ni (Z : State) (a : Addr) (sy : Addr) (h0 : Heap) (n0 : Nat) (v : Option Value) (h : Heap) (L : List Loc) : Prop := v = none ∧ Fr n0 L ∧ Keep h0 h [a] ∧ Exa Z h a "com/example/arcwright/arcwright/learn/gp/Node" ∧ Fld Z h a "com/example/arcwright/arcwright/learn/gp/Node" "symbol" "Ljava/lang/String;" (.ref sy) ∧ Fld Z h a "com/example/arcwright/arcwright/learn/gp/Node" "function" "Z" (.int (1 : Int32))
set_option maxRecDepth 65536 in
set_option maxHeartbeats 40000000 in
theorem own_rm_ni (l : Launch) (Z : State) (a0 : Array Value) (hw : ∀ d ∈ tables_1, d.before a0 Z = true) (ws : List Jvm.Cond) (a : Addr) (sy : Addr) (h0 : Heap) (n0 : Nat) (Z0 : n0 ≤ h0.size) (E0 : Exa Z h0 a "com/example/arcwright/arcwright/learn/gp/Node") (G0 : n0 ≤ a) (F0 : Fld Z h0 a "com/example/arcwright/arcwright/learn/gp/Node" "symbol" "Ljava/lang/String;" .null) (F1 : Fld Z h0 a "com/example/arcwright/arcwright/learn/gp/Node" "function" "Z" (.int (0 : Int32))) :
    MetFree l (⟨"com/example/arcwright/arcwright/learn/gp/Node", "<init>", "(Ljava/lang/String;Z)V"⟩ : MethodName) (head1 (Jvm.Cond.code (⟨"com/example/arcwright/arcwright/learn/gp/Node", "<init>", "(Ljava/lang/String;Z)V"⟩ : MethodName) prog_10_method_1_code 3 none :: ws) ({ frames := 1, cells := 0, slots := 0, locals := 12 } : Room)) (fun a_ U_ => a_ = #[(.ref a), (.ref sy), (.int (1 : Int32))] ∧ Z.Warmed39 U_.vm ∧ U_.heap = h0) (fun _ _ _ _ _ => True) (fun _ U_ o_ U'_ => ∃ v_ L_, o_ = .returned v_ ∧ own_Q_ni Z a sy h0 n0 v_ U'_.heap L_ ∧ FrameEnd U_ o_ U'_ L_ ({ frames := 1, cells := 0, slots := 0, locals := 12 } : Room).cells ({ frames := 1, cells := 0, slots := 0, locals := 12 } : Room).slots) := by
  refine MetFree.of_bodySF (plainFor_of_name own_pn_com_example_arcwright_arcwright_learn_gp_Node) hisR ?_
  intro p e s m args below meth c s₁ Bd hml0 hP hK
  obtain ⟨rfl, hZ, hh⟩ := hP
  have hx := Bd.exec
  have hby := Bd.bytes
  have hlk : meth.locks = false := BodyLoose.notSynchronized Bd
  have hml : c.maxLocals = 3 := hml0
  have hown : s.vm.findClass "com/example/arcwright/arcwright/learn/gp/Node" = some m.cls := findClass_of_methodNamed Bd.named
  have hnm := (name_of_methodNamed Bd.named Bd.method).1
  have X0 : Stand p l e ({ frames := 1, cells := 0, slots := 0, locals := 12 } : Room) s m #[(.ref a), (.ref sy), (.int (1 : Int32))] below meth c s₁ [] 0 0 := Stand.of_body Bd
  have e0 : s₁.heap = h0 := by rw [← hh, Bd.state]; rfl
  have N0 := Fr.nil n0
  show own_Goes p e below (own_K (own_Q_ni Z a sy h0 n0) s ({ frames := 1, cells := 0, slots := 0, locals := 12 } : Room).cells ({ frames := 1, cells := 0, slots := 0, locals := 12 } : Room).slots) s₁ (entryFrame m #[(.ref a), (.ref sy), (.int (1 : Int32))] 3)
  rw [own_ef_ni]
  have K0 := Keep.refl h0 [a]
  refine own_by (T' := s₁) (g' := (mkF m 1 #[.val (.ref a), .val (.ref sy), .val (.int (1 : Int32))] [(.ref a)])) (fun t_ k_ => XS.aloadN X0.here hx rfl (hb hby own_d_ni_0) rfl rfl k_) ?_
  obtain ⟨T1, X1, e1, st1⟩ := initO X0 hx hZ hown (hw _ (List.mem_of_getElem? (i := 29) rfl)) (hw _ (List.mem_of_getElem? (i := 30) rfl)) (hw _ (List.mem_of_getElem? (i := 31) rfl)) e0 (g := (mkF m 1 #[.val (.ref a), .val (.ref sy), .val (.int (1 : Int32))] [(.ref a)])) rfl (by rw [hml]; rfl) rfl (hb hby own_d_ni_1) (by decide) (W := 0) (by show 2 * 0 + _ ≤ _; exact Nat.le_of_eq rfl) (by decide)
  refine own_by (T' := T1) (g' := (mkF m 4 #[.val (.ref a), .val (.ref sy), .val (.int (1 : Int32))] [])) st1 ?_
  refine own_by (T' := T1) (g' := (mkF m 5 #[.val (.ref a), .val (.ref sy), .val (.int (1 : Int32))] [(.ref a)])) (fun t_ k_ => XS.aloadN X1.here hx rfl (hb hby own_d_ni_4) rfl rfl k_) ?_
  refine own_by (T' := T1) (g' := (mkF m 6 #[.val (.ref a), .val (.ref sy), .val (.int (1 : Int32))] [(.ref sy), (.ref a)])) (fun t_ k_ => XS.aloadN X1.here hx rfl (hb hby own_d_ni_5) rfl rfl k_) ?_
  obtain ⟨T2, h2, X2, e2, W2, st2⟩ := putF X1 hx hZ hown (host := "") (Or.inl (hw _ (List.mem_of_getElem? (i := 32) rfl))) Via.refl e1 F0 E0 (Or.inr ⟨(hw _ (List.mem_of_getElem? (i := 33) rfl)), rfl, hnm⟩) (hw _ (List.mem_of_getElem? (i := 18) rfl)) (ty := (.object "java/lang/String")) (by decide) rfl rfl (g := (mkF m 6 #[.val (.ref a), .val (.ref sy), .val (.int (1 : Int32))] [(.ref sy), (.ref a)])) rfl rfl (hb hby own_d_ni_6)
  refine own_by (T' := T2) (g' := (mkF m 9 #[.val (.ref a), .val (.ref sy), .val (.int (1 : Int32))] [])) st2 ?_
  have N2 := Fr.snoc X2 N0 G0
  have f3 := Nat.le_trans Z0 (Keep.of_wr W2).1
  have f4 := Exa.wr W2 E0
  have f5 := Fld.same W2 F0
  have f6 := Fld.other W2 F1 (Or.inr (slot_ne (Or.inr (hw _ (List.mem_of_getElem? (i := 35) rfl))) (Or.inr (hw _ (List.mem_of_getElem? (i := 33) rfl))) (by decide) (t := .boolean) (t' := (.object "java/lang/String")) (by decide) (by decide)))
  have f7 := Keep.wr K0 W2 (Or.inl (List.mem_of_getElem? (i := 0) rfl))
  refine own_by (T' := T2) (g' := (mkF m 10 #[.val (.ref a), .val (.ref sy), .val (.int (1 : Int32))] [(.ref a)])) (fun t_ k_ => XS.aloadN X2.here hx rfl (hb hby own_d_ni_9) rfl rfl k_) ?_
  refine own_by (T' := T2) (g' := (mkF m 11 #[.val (.ref a), .val (.ref sy), .val (.int (1 : Int32))] [(.int (1 : Int32)), (.ref a)])) (fun t_ k_ => XS.iloadN X2.here hx rfl (hb hby own_d_ni_10) rfl k_) ?_
  obtain ⟨T8, h8, X8, e8, W8, st8⟩ := putF X2 hx hZ hown (host := "") (Or.inl (hw _ (List.mem_of_getElem? (i := 34) rfl))) Via.refl e2 f6 f4 (Or.inr ⟨(hw _ (List.mem_of_getElem? (i := 35) rfl)), rfl, hnm⟩) (hw _ (List.mem_of_getElem? (i := 18) rfl)) (ty := .boolean) (by decide) rfl rfl (g := (mkF m 11 #[.val (.ref a), .val (.ref sy), .val (.int (1 : Int32))] [(.int (1 : Int32)), (.ref a)])) rfl rfl (hb hby own_d_ni_11)
  refine own_by (T' := T8) (g' := (mkF m 14 #[.val (.ref a), .val (.ref sy), .val (.int (1 : Int32))] [])) st8 ?_
  have N8 := Fr.snoc X8 N2 G0
  have f9 := Nat.le_trans f3 (Keep.of_wr W8).1
  have f10 := Exa.wr W8 f4
  have f11 := Fld.other W8 f5 (Or.inr (slot_ne (Or.inr (hw _ (List.mem_of_getElem? (i := 33) rfl))) (Or.inr (hw _ (List.mem_of_getElem? (i := 35) rfl))) (by decide) (t := (.object "java/lang/String")) (t' := .boolean) (by decide) (by decide)))
  have f12 := Fld.same W8 f6
  have f13 := Keep.wr f7 W8 (Or.inl (List.mem_of_getElem? (i := 0) rfl))
  refine own_ret0 X8 hx Bd.returns hlk (hb hby own_d_ni_14) (by decide) (by decide) ?_
  rw [e8]
  exact ⟨rfl, N8, f13, f10, f11, f12⟩
theorem own_pd0 : parseMethodDescriptor "()Ljava/lang/String;" = some ⟨[], some (.object "java/lang/String")⟩ := by decide +kernel
theorem own_pd1 : parseMethodDescriptor "(Ljava/lang/String;Z)V" = some ⟨[(.object "java/lang/String"), .boolean], none⟩ := by decide +kernel
theorem own_d_of_0 : decode prog_10_method_2_code 0 = .ok (.new 8, 3) := by decide +kernel
theorem own_d_of_3 : decode prog_10_method_2_code 3 = .ok (.dup, 1) := by decide +kernel
theorem own_d_of_4 : decode prog_10_method_2_code 4 = .ok (.aload_n 0, 1) := by decide +kernel
theorem own_d_of_5 : decode prog_10_method_2_code 5 = .ok (.invokevirtual 17, 3) := by decide +kernel
theorem own_d_of_8 : decode prog_10_method_2_code 8 = .ok (.iconst 1, 1) := by decide +kernel
theorem own_d_of_9 : decode prog_10_method_2_code 9 = .ok (.invokespecial 22, 3) := by decide +kernel
theorem own_d_of_12 : decode prog_10_method_2_code 12 = .ok (.areturn, 1) := by decide +kernel
theorem own_ef_of (m : MethodId) (po : Addr) : entryFrame m #[(.ref po)] 1 = mkF m 0 #[.val (.ref po)] [] := by first | (simp [entryFrame, mkF, argsToLocals, Value.category]; done) | rfl
def own_Q_of (Z : State) (po : Addr) (sy : Addr) (h0 : Heap) (n0 : Nat) (v : Option Value) (h : Heap) (L : List Loc) : Prop := ∃ nd, v = some (.ref nd) ∧ Fr n0 L ∧ Keep h0 h [] ∧ Exa Z h nd "com/example/arcwright/arcwright/learn/gp/Node" ∧ Fld Z h nd "com/example/arcwright/arcwright/learn/gp/Node" "symbol" "Ljava/lang/String;" (.ref sy) ∧ Fld Z h nd "com/example/arcwright/arcwright/learn/gp/Node" "function" "Z" (.int (1 : Int32))
set_option maxRecDepth 65536 in
set_option maxHeartbeats 40000000 in
theorem own_rm_of (l : Launch) (Z : State) (a0 : Array Value) (hw : ∀ d ∈ tables_1, d.before a0 Z = true) (ws : List Jvm.Cond) (po : Addr) (sy : Addr) (h0 : Heap) (n0 : Nat) (Z0 : n0 ≤ h0.size) (E0 : Exa Z h0 po "com/example/arcwright/arcwright/model/policy/Operator") (F0 : Fld Z h0 po "com/example/arcwright/arcwright/model/policy/Operator" "symbol" "Ljava/lang/String;" (.ref sy)) :
    MetFree l (⟨"com/example/arcwright/arcwright/learn/gp/Node", "of", "(Lcom/example/arcwright/arcwright/model/policy/Operator;)Lcom/example/arcwright/arcwright/learn/gp/Node;"⟩ : MethodName) (head1 (Jvm.Cond.code (⟨"com/example/arcwright/arcwright/learn/gp/Node", "of", "(Lcom/example/arcwright/arcwright/model/policy/Operator;)Lcom/example/arcwright/arcwright/learn/gp/Node;"⟩ : MethodName) prog_10_method_2_code 1 (some (.object "com/example/arcwright/arcwright/learn/gp/Node")) :: ws) ({ frames := 2, cells := 1, slots := 2, locals := 27 } : Room)) (fun a_ U_ => a_ = #[(.ref po)] ∧ Z.Warmed39 U_.vm ∧ U_.heap = h0) (fun _ _ _ _ _ => True) (fun _ U_ o_ U'_ => ∃ v_ L_, o_ = .returned v_ ∧ own_Q_of Z po sy h0 n0 v_ U'_.heap L_ ∧ FrameEnd U_ o_ U'_ L_ ({ frames := 2, cells := 1, slots := 2, locals := 27 } : Room).cells ({ frames := 2, cells := 1, slots := 2, locals := 27 } : Room).slots) := by
  refine MetFree.of_bodySF (plainFor_of_name own_pn_com_example_arcwright_arcwright_learn_gp_Node) hisR ?_
  intro p e s m args below meth c s₁ Bd hml0 hP hK
  obtain ⟨rfl, hZ, hh⟩ := hP
  have hx := Bd.exec
  have hby := Bd.bytes
  have hlk : meth.locks = false := BodyLoose.notSynchronized Bd
  have hml : c.maxLocals = 1 := hml0
  have hown : s.vm.findClass "com/example/arcwright/arcwright/learn/gp/Node" = some m.cls := findClass_of_methodNamed Bd.named
  have hnm := (name_of_methodNamed Bd.named Bd.method).1
  have X0 : Stand p l e ({ frames := 2, cells := 1, slots := 2, locals := 27 } : Room) s m #[(.ref po)] below meth c s₁ [] 0 0 := Stand.of_body Bd
  have e0 : s₁.heap = h0 := by rw [← hh, Bd.state]; rfl
  have N0 := Fr.nil n0
  show own_Goes p e below (own_K (own_Q_of Z po sy h0 n0) s ({ frames := 2, cells := 1, slots := 2, locals := 27 } : Room).cells ({ frames := 2, cells := 1, slots := 2, locals := 27 } : Room).slots) s₁ (entryFrame m #[(.ref po)] 1)
  rw [own_ef_of]
  have K0 := Keep.refl h0 []
  obtain ⟨T1, h1, X1, e1, E1, A1, D1, -, st1⟩ := newO X0 hx hZ hown (hw _ (List.mem_of_getElem? (i := 17) rfl)) (hw _ (List.mem_of_getElem? (i := 18) rfl)) (hw _ (List.mem_of_getElem? (i := 15) rfl)) e0 (g := (mkF m 0 #[.val (.ref po)] [])) rfl (hb hby own_d_of_0) (by decide) (by decide)
  obtain ⟨b1, g1⟩ : ∃ z, z = h0.size := ⟨_, rfl⟩
  rw [← g1] at A1 D1 st1
  have g_b1 : n0 ≤ b1 := Nat.le_trans Z0 (Nat.le_of_eq g1.symm)
  have ne2 : po ≠ b1 := Nat.ne_of_lt (Nat.lt_of_lt_of_le E0.lt (Nat.le_of_eq g1.symm))
  have k_b1 : h0.size ≤ b1 := Nat.le_trans K0.1 (Nat.le_of_eq g1.symm)
  have f3 := Nat.le_trans Z0 E1.1
  have f4 := Exa.ext E1 E0
  have f5 := Fld.ext E1 F0
  have f6 := K0.ext E1
  have F1_symbol : Fld Z h1 b1 "com/example/arcwright/arcwright/learn/gp/Node" "symbol" "Ljava/lang/String;" .null := D1 (Or.inr (hw _ (List.mem_of_getElem? (i := 33) rfl))) (ty := (.object "java/lang/String")) (by decide)
  have F1_function : Fld Z h1 b1 "com/example/arcwright/arcwright/learn/gp/Node" "function" "Z" (.int (0 : Int32)) := D1 (Or.inr (hw _ (List.mem_of_getElem? (i := 35) rfl))) (ty := .boolean) (by decide)
  refine own_by (T' := T1) (g' := (mkF m 3 #[.val (.ref po)] [(.ref b1)])) st1 ?_
  refine own_by (T' := T1) (g' := (mkF m 4 #[.val (.ref po)] [(.ref b1), (.ref b1)])) (fun t_ k_ => XS.dup X1.here hx rfl (hb hby own_d_of_3) rfl rfl k_) ?_
  refine own_by (T' := T1) (g' := (mkF m 5 #[.val (.ref po)] [(.ref po), (.ref b1), (.ref b1)])) (fun t_ k_ => XS.aloadN X1.here hx rfl (hb hby own_d_of_4) rfl rfl k_) ?_
  obtain ⟨_, T7, L7, X7, hQ7, st7⟩ := own_callV X1 hx hZ (y := (⟨"com/example/arcwright/arcwright/model/policy/Operator", "symbol", "()Ljava/lang/String;"⟩ : MethodName)) hown (hw _ (List.mem_of_getElem? (i := 19) rfl)) (hw _ (List.mem_of_getElem? (i := 20) rfl)) (hw _ (List.mem_of_getElem? (i := 22) rfl)) (hw _ (List.mem_of_getElem? (i := 21) rfl)) (hw _ (List.mem_of_getElem? (i := 9) rfl)) (hw _ (List.mem_of_getElem? (i := 23) rfl)) (by decide) (argsL := []) (rest := [(.ref b1), (.ref b1)]) f4 (own_rm_os l Z a0 hw [] po sy h1 n0 f3 f5) e1 (W := 2) (by decide) (by decide) (by decide) (by decide) (g := (mkF m 5 #[.val (.ref po)] [(.ref po), (.ref b1), (.ref b1)])) rfl (by rw [hml]; rfl) (lenOf own_pd0 rfl) rfl (by show 2 * 0 + _ ≤ _; exact Nat.le_of_eq rfl) (hb hby own_d_of_5)
  obtain ⟨rfl, Nq7, e7⟩ := hQ7
  have N7 := Fr.app N0 Nq7
  refine st7 _ ?_
  show own_Goes p e below _ T7 (mkF m 8 #[.val (.ref po)] [(.ref sy), (.ref b1), (.ref b1)])
  refine own_by (T' := T7) (g' := (mkF m 9 #[.val (.ref po)] [(.int (1 : Int32)), (.ref sy), (.ref b1), (.ref b1)])) (fun t_ k_ => XS.iconst X7.here hx rfl (hb hby own_d_of_8) k_) ?_
  obtain ⟨_, T8, L8, X8, hQ8, st8⟩ := own_callI X7 hx hZ (y := (⟨"com/example/arcwright/arcwright/learn/gp/Node", "<init>", "(Ljava/lang/String;Z)V"⟩ : MethodName)) rfl hown (hw _ (List.mem_of_getElem? (i := 26) rfl)) (hw _ (List.mem_of_getElem? (i := 27) rfl)) (hw _ (List.mem_of_getElem? (i := 15) rfl)) (hw _ (List.mem_of_getElem? (i := 28) rfl)) (by decide) (argsL := [(.ref sy), (.int (1 : Int32))]) (rest := [(.ref b1)]) (own_rm_ni l Z a0 hw [] b1 sy h1 n0 f3 A1 g_b1 F1_symbol F1_function) e7 (W := 1) (by decide) (by decide) (by decide) (by decide) (g := (mkF m 9 #[.val (.ref po)] [(.int (1 : Int32)), (.ref sy), (.ref b1), (.ref b1)])) rfl (by rw [hml]; rfl) (lenOf own_pd1 rfl) rfl (by show 2 * 0 + _ ≤ _; exact Nat.le_of_eq rfl) (hb hby own_d_of_9)
  obtain ⟨rfl, Nq8, Kq8, Eq8, Fs8, Ff8⟩ := hQ8
  have N8 := Fr.app N7 Nq8
  have f9 := Nat.le_trans f3 Kq8.1
  have f10 := Exa.keep f4 Kq8
  have f11 := Fld.keep f5 Kq8 (ninS ne2 nin0)
  have f12 := Keep.trans f6 Kq8 (allS (Or.inr k_b1) all0)
  have f13 := Exa.keep A1 Kq8
  refine st8 _ ?_
  show own_Goes p e below _ T8 (mkF m 12 #[.val (.ref po)] [(.ref b1)])
  refine own_retR X8 hx Bd.returns hlk rfl rfl (hb hby own_d_of_12) (by decide) (by decide) ?_
  exact ⟨b1, rfl, N8, f12, f13, Fs8, Ff8⟩
theorem own_d_le_0 : decode jdk_43_method_13_code 0 = .ok (.aload_n 0, 1) := by decide +kernel
theorem own_d_le_1 : decode jdk_43_method_13_code 1 = .ok (.arraylength, 1) := by decide +kernel
theorem own_d_le_2 : decode jdk_43_method_13_code 2 = .ok (.aload_n 1, 1) := by decide +kernel
theorem own_d_le_3 : decode jdk_43_method_13_code 3 = .ok (.arraylength, 1) := by decide +kernel
theorem own_d_le_4 : decode jdk_43_method_13_code 4 = .ok (.if_icmp .ne 30, 3) := by decide +kernel
theorem own_d_le_7 : decode jdk_43_method_13_code 7 = .ok (.iconst 0, 1) := by decide +kernel
theorem own_d_le_8 : decode jdk_43_method_13_code 8 = .ok (.istore_n 2, 1) := by decide +kernel
theorem own_d_le_9 : decode jdk_43_method_13_code 9 = .ok (.iload_n 2, 1) := by decide +kernel
theorem own_d_le_10 : decode jdk_43_method_13_code 10 = .ok (.aload_n 0, 1) := by decide +kernel
theorem own_d_le_11 : decode jdk_43_method_13_code 11 = .ok (.arraylength, 1) := by decide +kernel
theorem own_d_le_12 : decode jdk_43_method_13_code 12 = .ok (.if_icmp .ge 20, 3) := by decide +kernel
theorem own_d_le_15 : decode jdk_43_method_13_code 15 = .ok (.aload_n 0, 1) := by decide +kernel
theorem own_d_le_16 : decode jdk_43_method_13_code 16 = .ok (.iload_n 2, 1) := by decide +kernel
theorem own_d_le_17 : decode jdk_43_method_13_code 17 = .ok (.baload, 1) := by decide +kernel
theorem own_d_le_18 : decode jdk_43_method_13_code 18 = .ok (.aload_n 1, 1) := by decide +kernel
theorem own_d_le_19 : decode jdk_43_method_13_code 19 = .ok (.iload_n 2, 1) := by decide +kernel
theorem own_d_le_20 : decode jdk_43_method_13_code 20 = .ok (.baload, 1) := by decide +kernel
theorem own_d_le_21 : decode jdk_43_method_13_code 21 = .ok (.if_icmp .eq 5, 3) := by decide +kernel
theorem own_d_le_24 : decode jdk_43_method_13_code 24 = .ok (.iconst 0, 1) := by decide +kernel
theorem own_d_le_25 : decode jdk_43_method_13_code 25 = .ok (.ireturn, 1) := by decide +kernel
theorem own_d_le_26 : decode jdk_43_method_13_code 26 = .ok (.iinc 2 1, 3) := by decide +kernel
theorem own_d_le_29 : decode jdk_43_method_13_code 29 = .ok (.goto (-20), 3) := by decide +kernel
theorem own_d_le_32 : decode jdk_43_method_13_code 32 = .ok (.iconst 1, 1) := by decide +kernel
theorem own_d_le_33 : decode jdk_43_method_13_code 33 = .ok (.ireturn, 1) := by decide +kernel
theorem own_d_le_34 : decode jdk_43_method_13_code 34 = .ok (.iconst 0, 1) := by decide +kernel
theorem own_d_le_35 : decode jdk_43_method_13_code 35 = .ok (.ireturn, 1) := by decide +kernel
theorem own_pn_java_lang_StringLatin1 : plainName "java/lang/StringLatin1" = true := by first | (simp [plainName, overriddenIn]; done) | decide +kernel
theorem own_ef_le (m : MethodId) (b1 : Addr) (b2 : Addr) : entryFrame m #[(.ref b1), (.ref b2)] 3 = mkF m 0 #[.val (.ref b1), .val (.ref b2), .unset] [] := by first | (simp [entryFrame, mkF, argsToLocals, Value.category]; done) | rfl
def own_Q_le (Z : State) (b1 : Addr) (b2 : Addr) (n1 : Nat) (f1 : Nat → Int32) (n2 : Nat) (f2 : Nat → Int32) (r : Int32) (h0 : Heap) (n0 : Nat) (v : Option Value) (h : Heap) (L : List Loc) : Prop := v = some (.int r) ∧ Fr n0 L ∧ h = h0
set_option maxRecDepth 65536 in
set_option maxHeartbeats 40000000 in
theorem own_rm_le (l : Launch) (Z : State) (a0 : Array Value) (hw : ∀ d ∈ tables_1, d.before a0 Z = true) (ws : List Jvm.Cond) (b1 : Addr) (b2 : Addr) (n1 : Nat) (f1 : Nat → Int32) (n2 : Nat) (f2 : Nat → Int32) (r : Int32) (h0 : Heap) (n0 : Nat) (Z0 : n0 ≤ h0.size) (V1 : own_Ia Z h0 b1 .byte n1 f1) (V2 : own_Ia Z h0 b2 .byte n2 f2) (hn1 : n1 < 100) (hn2 : n2 < 100) (hr : own_same n1 f1 n2 f2 r) :
    MetFree l (⟨"java/lang/StringLatin1", "equals", "([B[B)Z"⟩ : MethodName) (head1 (Jvm.Cond.code (⟨"java/lang/StringLatin1", "equals", "([B[B)Z"⟩ : MethodName) jdk_43_method_13_code 3 (some .boolean) :: ws) ({ frames := 0, cells := 0, slots := 0, locals := 0 } : Room)) (fun a_ U_ => a_ = #[(.ref b1), (.ref b2)] ∧ Z.Warmed39 U_.vm ∧ U_.heap = h0) (fun _ _ _ _ _ => True) (fun _ U_ o_ U'_ => ∃ v_ L_, o_ = .returned v_ ∧ own_Q_le Z b1 b2 n1 f1 n2 f2 r h0 n0 v_ U'_.heap L_ ∧ FrameEnd U_ o_ U'_ L_ ({ frames := 0, cells := 0, slots := 0, locals := 0 } : Room).cells ({ frames := 0, cells := 0, slots := 0, locals := 0 } : Room).slots) := by
  refine MetFree.of_bodySF (plainFor_of_name own_pn_java_lang_StringLatin1) hisR ?_
  intro p e s m args below meth c s₁ Bd hml0 hP hK
  obtain ⟨rfl, hZ, hh⟩ := hP
  have hx := Bd.exec
  have hby := Bd.bytes
  have hlk : meth.locks = false := BodyLoose.notSynchronized Bd
  have hml : c.maxLocals = 3 := hml0
  have hown : s.vm.findClass "java/lang/StringLatin1" = some m.cls := findClass_of_methodNamed Bd.named
  have hnm := (name_of_methodNamed Bd.named Bd.method).1
  have X0 : Stand p l e ({ frames := 0, cells := 0, slots := 0, locals := 0 } : Room) s m #[(.ref b1), (.ref b2)] below meth c s₁ [] 0 0 := Stand.of_body Bd
  have e0 : s₁.heap = h0 := by rw [← hh, Bd.state]; rfl
  have N0 := Fr.nil n0
  show own_Goes p e below (own_K (own_Q_le Z b1 b2 n1 f1 n2 f2 r h0 n0) s ({ frames := 0, cells := 0, slots := 0, locals := 0 } : Room).cells ({ frames := 0, cells := 0, slots := 0, locals := 0 } : Room).slots) s₁ (entryFrame m #[(.ref b1), (.ref b2)] 3)
  rw [own_ef_le]
  have lp : ∀ (kk : Nat) (i : Int32) (T1 : State) (hh : Heap) (lo : List Loc), Stand p l e ({ frames := 0, cells := 0, slots := 0, locals := 0 } : Room) s m #[(.ref b1), (.ref b2)] below meth c T1 lo 0 0 → T1.heap = hh → Fr n0 lo → n0 ≤ hh.size → own_Ia Z hh b1 .byte n1 f1 → own_Ia Z hh b2 .byte n2 f2 → (hh = h0) → (n1 = n2) → (0 ≤ i.toInt ∧ i.toInt ≤ n1) → (((n1 : Int) - i.toInt).toNat = kk) → (∀ j : Nat, (j : Int) < i.toInt → f1 j = f2 j) → own_Goes p e below (own_K (own_Q_le Z b1 b2 n1 f1 n2 f2 r h0 n0) s ({ frames := 0, cells := 0, slots := 0, locals := 0 } : Room).cells ({ frames := 0, cells := 0, slots := 0, locals := 0 } : Room).slots) T1 (mkF m 9 #[.val (.ref b1), .val (.ref b2), .val (.int i)] []) := by
    intro kk
    induction kk with
      | zero =>
        intro i T1 hh lo X1 e1 N1 u0 u1 u2 hq en i1 i2 i3
        refine own_by (T' := T1) (g' := (mkF m 10 #[.val (.ref b1), .val (.ref b2), .val (.int i)] [(.int i)])) (fun t_ k_ => XS.iloadN X1.here hx rfl (hb hby own_d_le_9) rfl k_) ?_
        refine own_by (T' := T1) (g' := (mkF m 11 #[.val (.ref b1), .val (.ref b2), .val (.int i)] [(.ref b1), (.int i)])) (fun t_ k_ => XS.aloadN X1.here hx rfl (hb hby own_d_le_10) rfl rfl k_) ?_
        refine own_by (T' := T1) (g' := (mkF m 12 #[.val (.ref b1), .val (.ref b2), .val (.int i)] [(.int n1.toInt32), (.int i)])) (fun t_ k_ => own_alen X1 hx hZ e1 u1 (z := n1.toInt32) rfl (g := (mkF m 11 #[.val (.ref b1), .val (.ref b2), .val (.int i)] [(.ref b1), (.int i)])) rfl rfl (hb hby own_d_le_11) _ k_) ?_
        refine own_by (T' := T1) (g' := (mkF m 32 #[.val (.ref b1), .val (.ref b2), .val (.int i)] [])) (fun t_ k_ => XS.icmpYes X1.here hx rfl (pc0 := 12) (pc' := 32) rfl (hb hby own_d_le_12) rfl (flt ((own_e5 n1 i hn1 i1 i2) : ¬ (i < n1.toInt32))).2.1 (by decide) (by decide) k_) ?_
        refine own_by (T' := T1) (g' := (mkF m 33 #[.val (.ref b1), .val (.ref b2), .val (.int i)] [(.int (1 : Int32))])) (fun t_ k_ => XS.iconst X1.here hx rfl (hb hby own_d_le_32) k_) ?_
        refine own_retN X1 hx (t := .boolean) Bd.returns hlk (by simp) (hb hby own_d_le_33) (by decide) (by decide) (v := (1 : Int32)) rfl ?_
        rw [e1]
        exact ⟨by rw [own_s1 n1 n2 f1 f2 r hr en (own_e7 n1 i f1 f2 i1 i2 i3)], N1, hq⟩
      | succ kk ih =>
        intro i T1 hh lo X1 e1 N1 u0 u1 u2 hq en i1 i2 i3
        refine own_by (T' := T1) (g' := (mkF m 10 #[.val (.ref b1), .val (.ref b2), .val (.int i)] [(.int i)])) (fun t_ k_ => XS.iloadN X1.here hx rfl (hb hby own_d_le_9) rfl k_) ?_
        refine own_by (T' := T1) (g' := (mkF m 11 #[.val (.ref b1), .val (.ref b2), .val (.int i)] [(.ref b1), (.int i)])) (fun t_ k_ => XS.aloadN X1.here hx rfl (hb hby own_d_le_10) rfl rfl k_) ?_
        refine own_by (T' := T1) (g' := (mkF m 12 #[.val (.ref b1), .val (.ref b2), .val (.int i)] [(.int n1.toInt32), (.int i)])) (fun t_ k_ => own_alen X1 hx hZ e1 u1 (z := n1.toInt32) rfl (g := (mkF m 11 #[.val (.ref b1), .val (.ref b2), .val (.int i)] [(.ref b1), (.int i)])) rfl rfl (hb hby own_d_le_11) _ k_) ?_
        refine own_by (T' := T1) (g' := (mkF m 15 #[.val (.ref b1), .val (.ref b2), .val (.int i)] [])) (fun t_ k_ => XS.icmpNo X1.here hx rfl (hb hby own_d_le_12) rfl (tlt ((own_e6 n1 i kk hn1 i1 i2) : i < n1.toInt32)).2.1 k_) ?_
        refine own_by (T' := T1) (g' := (mkF m 16 #[.val (.ref b1), .val (.ref b2), .val (.int i)] [(.ref b1)])) (fun t_ k_ => XS.aloadN X1.here hx rfl (hb hby own_d_le_15) rfl rfl k_) ?_
        refine own_by (T' := T1) (g' := (mkF m 17 #[.val (.ref b1), .val (.ref b2), .val (.int i)] [(.int i), (.ref b1)])) (fun t_ k_ => XS.iloadN X1.here hx rfl (hb hby own_d_le_16) rfl k_) ?_
        refine own_by (T' := T1) (g' := (mkF m 18 #[.val (.ref b1), .val (.ref b2), .val (.int i)] [(.int (f1 i.toNatClampNeg))])) (fun t_ k_ => own_bal X1 hx hZ e1 u1 (j := i) (own_e4 n1 i kk hn1 i1 i2).1 (own_e4 n1 i kk hn1 i1 i2).2 (g := (mkF m 17 #[.val (.ref b1), .val (.ref b2), .val (.int i)] [(.int i), (.ref b1)])) rfl rfl (hb hby own_d_le_17) _ k_) ?_
        refine own_by (T' := T1) (g' := (mkF m 19 #[.val (.ref b1), .val (.ref b2), .val (.int i)] [(.ref b2), (.int (f1 i.toNatClampNeg))])) (fun t_ k_ => XS.aloadN X1.here hx rfl (hb hby own_d_le_18) rfl rfl k_) ?_
        refine own_by (T' := T1) (g' := (mkF m 20 #[.val (.ref b1), .val (.ref b2), .val (.int i)] [(.int i), (.ref b2), (.int (f1 i.toNatClampNeg))])) (fun t_ k_ => XS.iloadN X1.here hx rfl (hb hby own_d_le_19) rfl k_) ?_
        refine own_by (T' := T1) (g' := (mkF m 21 #[.val (.ref b1), .val (.ref b2), .val (.int i)] [(.int (f2 i.toNatClampNeg)), (.int (f1 i.toNatClampNeg))])) (fun t_ k_ => own_bal X1 hx hZ e1 u2 (j := i) (own_e4 n1 i kk hn1 i1 i2).1 (by rw [← en]; exact (own_e4 n1 i kk hn1 i1 i2).2) (g := (mkF m 20 #[.val (.ref b1), .val (.ref b2), .val (.int i)] [(.int i), (.ref b2), (.int (f1 i.toNatClampNeg))])) rfl rfl (hb hby own_d_le_20) _ k_) ?_
        by_cases c21_1 : (f1 i.toNatClampNeg) = (f2 i.toNatClampNeg)
        · skip
          refine own_by (T' := T1) (g' := (mkF m 26 #[.val (.ref b1), .val (.ref b2), .val (.int i)] [])) (fun t_ k_ => XS.icmpYes X1.here hx rfl (pc0 := 21) (pc' := 26) rfl (hb hby own_d_le_21) rfl (teq (c21_1 : (f1 i.toNatClampNeg) = (f2 i.toNatClampNeg))).1 (by decide) (by decide) k_) ?_
          refine own_by (T' := T1) (g' := (mkF m 29 #[.val (.ref b1), .val (.ref b2), .val (.int (i + (1 : Int32)))] [])) (fun t_ k_ => XS.iinc X1.here hx rfl (hb hby own_d_le_26) rfl (l' := #[.val (.ref b1), .val (.ref b2), .val (.int (i + (1 : Int32)))]) rfl k_) ?_
          refine own_by (T' := T1) (g' := (mkF m 9 #[.val (.ref b1), .val (.ref b2), .val (.int (i + (1 : Int32)))] [])) (fun t_ k_ => XS.goto X1.here hx rfl (pc0 := 29) (pc' := 9) rfl (hb hby own_d_le_29) (by decide) (by decide) k_) ?_
          exact ih (i + (1 : Int32)) T1 hh _ X1 e1 N1 u0 u1 u2 hq en (own_e1 n1 i kk hn1 i1 i2) (own_e2 n1 i kk hn1 i1 i2) (own_e3 n1 i kk f1 f2 hn1 i1 i2 i3 c21_1)
        · skip
          refine own_by (T' := T1) (g' := (mkF m 24 #[.val (.ref b1), .val (.ref b2), .val (.int i)] [])) (fun t_ k_ => XS.icmpNo X1.here hx rfl (hb hby own_d_le_21) rfl (feq (c21_1 : ¬ ((f1 i.toNatClampNeg) = (f2 i.toNatClampNeg)))).1 k_) ?_
          refine own_by (T' := T1) (g' := (mkF m 25 #[.val (.ref b1), .val (.ref b2), .val (.int i)] [(.int (0 : Int32))])) (fun t_ k_ => XS.iconst X1.here hx rfl (hb hby own_d_le_24) k_) ?_
          refine own_retN X1 hx (t := .boolean) Bd.returns hlk (by simp) (hb hby own_d_le_25) (by decide) (by decide) (v := (0 : Int32)) rfl ?_
          rw [e1]
          exact ⟨by rw [own_s2 n1 n2 f1 f2 r i.toNatClampNeg hr (own_e4 n1 i kk hn1 i1 i2).2 c21_1], N1, hq⟩
  refine own_by (T' := s₁) (g' := (mkF m 1 #[.val (.ref b1), .val (.ref b2), .unset] [(.ref b1)])) (fun t_ k_ => XS.aloadN X0.here hx rfl (hb hby own_d_le_0) rfl rfl k_) ?_
  refine own_by (T' := s₁) (g' := (mkF m 2 #[.val (.ref b1), .val (.ref b2), .unset] [(.int n1.toInt32)])) (fun t_ k_ => own_alen X0 hx hZ e0 V1 (z := n1.toInt32) rfl (g := (mkF m 1 #[.val (.ref b1), .val (.ref b2), .unset] [(.ref b1)])) rfl rfl (hb hby own_d_le_1) _ k_) ?_
  refine own_by (T' := s₁) (g' := (mkF m 3 #[.val (.ref b1), .val (.ref b2), .unset] [(.ref b2), (.int n1.toInt32)])) (fun t_ k_ => XS.aloadN X0.here hx rfl (hb hby own_d_le_2) rfl rfl k_) ?_
  refine own_by (T' := s₁) (g' := (mkF m 4 #[.val (.ref b1), .val (.ref b2), .unset] [(.int n2.toInt32), (.int n1.toInt32)])) (fun t_ k_ => own_alen X0 hx hZ e0 V2 (z := n2.toInt32) rfl (g := (mkF m 3 #[.val (.ref b1), .val (.ref b2), .unset] [(.ref b2), (.int n1.toInt32)])) rfl rfl (hb hby own_d_le_3) _ k_) ?_
  by_cases c4_2 : n1.toInt32 = n2.toInt32
  · skip
    refine own_by (T' := s₁) (g' := (mkF m 7 #[.val (.ref b1), .val (.ref b2), .unset] [])) (fun t_ k_ => XS.icmpNo X0.here hx rfl (hb hby own_d_le_4) rfl (teq (c4_2 : n1.toInt32 = n2.toInt32)).2 k_) ?_
    refine own_by (T' := s₁) (g' := (mkF m 8 #[.val (.ref b1), .val (.ref b2), .unset] [(.int (0 : Int32))])) (fun t_ k_ => XS.iconst X0.here hx rfl (hb hby own_d_le_7) k_) ?_
    refine own_by (T' := s₁) (g' := (mkF m 9 #[.val (.ref b1), .val (.ref b2), .val (.int (0 : Int32))] [])) (fun t_ k_ => XS.istoreN X0.here hx rfl (hb hby own_d_le_8) rfl (l' := #[.val (.ref b1), .val (.ref b2), .val (.int (0 : Int32))]) rfl k_) ?_
    exact lp _ (0 : Int32) s₁ h0 _ X0 e0 N0 Z0 V1 V2 rfl (own_neq n1 n2 hn1 hn2 c4_2) ⟨by decide, by rw [show (0 : Int32).toInt = 0 from rfl]; omega⟩ rfl (fun j hj => absurd hj (by rw [show (0 : Int32).toInt = 0 from rfl]; omega))
  · skip
    refine own_by (T' := s₁) (g' := (mkF m 34 #[.val (.ref b1), .val (.ref b2), .unset] [])) (fun t_ k_ => XS.icmpYes X0.here hx rfl (pc0 := 4) (pc' := 34) rfl (hb hby own_d_le_4) rfl (feq (c4_2 : ¬ (n1.toInt32 = n2.toInt32))).2 (by decide) (by decide) k_) ?_
    refine own_by (T' := s₁) (g' := (mkF m 35 #[.val (.ref b1), .val (.ref b2), .unset] [(.int (0 : Int32))])) (fun t_ k_ => XS.iconst X0.here hx rfl (hb hby own_d_le_34) k_) ?_
    refine own_retN X0 hx (t := .boolean) Bd.returns hlk (by simp) (hb hby own_d_le_35) (by decide) (by decide) (v := (0 : Int32)) rfl ?_
    rw [e0]
    exact ⟨by rw [own_s0 n1 n2 f1 f2 r hr (own_neq' n1 n2 c4_2)], N0, rfl⟩
theorem own_pd2 : parseMethodDescriptor "([B[B)Z" = some ⟨[(.array .byte), (.array .byte)], some .boolean⟩ := by decide +kernel
theorem own_d_se_0 : decode jdk_42_method_66_code 0 = .ok (.aload_n 0, 1) := by decide +kernel
theorem own_d_se_1 : decode jdk_42_method_66_code 1 = .ok (.aload_n 1, 1) := by decide +kernel
theorem own_d_se_2 : decode jdk_42_method_66_code 2 = .ok (.if_acmp .ne 5, 3) := by decide +kernel
theorem own_d_se_5 : decode jdk_42_method_66_code 5 = .ok (.iconst 1, 1) := by decide +kernel
theorem own_d_se_6 : decode jdk_42_method_66_code 6 = .ok (.ireturn, 1) := by decide +kernel
theorem own_d_se_7 : decode jdk_42_method_66_code 7 = .ok (.aload_n 1, 1) := by decide +kernel
theorem own_d_se_8 : decode jdk_42_method_66_code 8 = .ok (.instanceof 10, 3) := by decide +kernel
theorem own_d_se_11 : decode jdk_42_method_66_code 11 = .ok (.ifCond .eq 43, 3) := by decide +kernel
theorem own_d_se_14 : decode jdk_42_method_66_code 14 = .ok (.aload_n 1, 1) := by decide +kernel
theorem own_d_se_15 : decode jdk_42_method_66_code 15 = .ok (.checkcast 10, 3) := by decide +kernel
theorem own_d_se_18 : decode jdk_42_method_66_code 18 = .ok (.astore_n 2, 1) := by decide +kernel
theorem own_d_se_19 : decode jdk_42_method_66_code 19 = .ok (.getstatic 38, 3) := by decide +kernel
theorem own_d_se_22 : decode jdk_42_method_66_code 22 = .ok (.ifCond .eq 14, 3) := by decide +kernel
theorem own_d_se_25 : decode jdk_42_method_66_code 25 = .ok (.aload_n 0, 1) := by decide +kernel
theorem own_d_se_26 : decode jdk_42_method_66_code 26 = .ok (.getfield 15, 3) := by decide +kernel
theorem own_d_se_29 : decode jdk_42_method_66_code 29 = .ok (.aload_n 2, 1) := by decide +kernel
theorem own_d_se_30 : decode jdk_42_method_66_code 30 = .ok (.getfield 15, 3) := by decide +kernel
theorem own_d_se_33 : decode jdk_42_method_66_code 33 = .ok (.if_icmp .ne 21, 3) := by decide +kernel
theorem own_d_se_36 : decode jdk_42_method_66_code 36 = .ok (.aload_n 0, 1) := by decide +kernel
theorem own_d_se_37 : decode jdk_42_method_66_code 37 = .ok (.getfield 9, 3) := by decide +kernel
theorem own_d_se_40 : decode jdk_42_method_66_code 40 = .ok (.aload_n 2, 1) := by decide +kernel
theorem own_d_se_41 : decode jdk_42_method_66_code 41 = .ok (.getfield 9, 3) := by decide +kernel
theorem own_d_se_44 : decode jdk_42_method_66_code 44 = .ok (.invokestatic 541, 3) := by decide +kernel
theorem own_d_se_47 : decode jdk_42_method_66_code 47 = .ok (.ifCond .eq 7, 3) := by decide +kernel
theorem own_d_se_50 : decode jdk_42_method_66_code 50 = .ok (.iconst 1, 1) := by decide +kernel
theorem own_d_se_51 : decode jdk_42_method_66_code 51 = .ok (.goto 4, 3) := by decide +kernel
theorem own_d_se_54 : decode jdk_42_method_66_code 54 = .ok (.iconst 0, 1) := by decide +kernel
theorem own_d_se_55 : decode jdk_42_method_66_code 55 = .ok (.ireturn, 1) := by decide +kernel
theorem own_pn_java_lang_String : plainName "java/lang/String" = true := by first | (simp [plainName, overriddenIn]; done) | decide +kernel
theorem own_ef_se (m : MethodId) (a1 : Addr) (a2 : Addr) : entryFrame m #[(.ref a1), (.ref a2)] 3 = mkF m 0 #[.val (.ref a1), .val (.ref a2), .unset] [] := by first | (simp [entryFrame, mkF, argsToLocals, Value.category]; done) | rfl
def own_Q_se (Z : State) (a1 : Addr) (a2 : Addr) (b1 : Addr) (n1 : Nat) (f1 : Nat → Int32) (b2 : Addr) (n2 : Nat) (f2 : Nat → Int32) (cs : Int32) (r : Int32) (h0 : Heap) (n0 : Nat) (v : Option Value) (h : Heap) (L : List Loc) : Prop := v = some (.int r) ∧ Fr n0 L ∧ h = h0
set_option maxRecDepth 65536 in
set_option maxHeartbeats 40000000 in
theorem own_rm_se (l : Launch) (Z : State) (a0 : Array Value) (hw : ∀ d ∈ tables_1, d.before a0 Z = true) (ws : List Jvm.Cond) (a1 : Addr) (a2 : Addr) (b1 : Addr) (n1 : Nat) (f1 : Nat → Int32) (b2 : Addr) (n2 : Nat) (f2 : Nat → Int32) (cs : Int32) (r : Int32) (h0 : Heap) (n0 : Nat) (Z0 : n0 ≤ h0.size) (E1 : Exa Z h0 a1 "java/lang/String") (C1 : Fld Z h0 a1 "java/lang/String" "coder" "B" (.int (0 : Int32))) (W1_ : Fld Z h0 a1 "java/lang/String" "value" "[B" (.ref b1)) (V1 : own_Ia Z h0 b1 .byte n1 f1) (E2 : Exa Z h0 a2 "java/lang/String") (C2 : Fld Z h0 a2 "java/lang/String" "coder" "B" (.int (0 : Int32))) (W2_ : Fld Z h0 a2 "java/lang/String" "value" "[B" (.ref b2)) (V2 : own_Ia Z h0 b2 .byte n2 f2) (SC : Sta Z h0 "java/lang/String" "COMPACT_STRINGS" "Z" (.int cs)) (hcs : ¬ cs = (0 : Int32)) (hn1 : n1 < 100) (hn2 : n2 < 100) (hr : own_same n1 f1 n2 f2 r) :
    MetFree l (⟨"java/lang/String", "equals", "(Ljava/lang/Object;)Z"⟩ : MethodName) (head1 (Jvm.Cond.code (⟨"java/lang/String", "equals", "(Ljava/lang/Object;)Z"⟩ : MethodName) jdk_42_method_66_code 3 (some .boolean) :: ws) ({ frames := 1, cells := 0, slots := 0, locals := 14 } : Room)) (fun a_ U_ => a_ = #[(.ref a1), (.ref a2)] ∧ Z.Warmed39 U_.vm ∧ U_.heap = h0) (fun _ _ _ _ _ => True) (fun _ U_ o_ U'_ => ∃ v_ L_, o_ = .returned v_ ∧ own_Q_se Z a1 a2 b1 n1 f1 b2 n2 f2 cs r h0 n0 v_ U'_.heap L_ ∧ FrameEnd U_ o_ U'_ L_ ({ frames := 1, cells := 0, slots := 0, locals := 14 } : Room).cells ({ frames := 1, cells := 0, slots := 0, locals := 14 } : Room).slots) := by
  refine MetFree.of_bodySF (plainFor_of_name own_pn_java_lang_String) hisR ?_
  intro p e s m args below meth c s₁ Bd hml0 hP hK
  obtain ⟨rfl, hZ, hh⟩ := hP
  have hx := Bd.exec
  have hby := Bd.bytes
  have hlk : meth.locks = false := BodyLoose.notSynchronized Bd
  have hml : c.maxLocals = 3 := hml0
  have hown : s.vm.findClass "java/lang/String" = some m.cls := findClass_of_methodNamed Bd.named
  have hnm := (name_of_methodNamed Bd.named Bd.method).1
  have X0 : Stand p l e ({ frames := 1, cells := 0, slots := 0, locals := 14 } : Room) s m #[(.ref a1), (.ref a2)] below meth c s₁ [] 0 0 := Stand.of_body Bd
  have e0 : s₁.heap = h0 := by rw [← hh, Bd.state]; rfl
  have N0 := Fr.nil n0
  show own_Goes p e below (own_K (own_Q_se Z a1 a2 b1 n1 f1 b2 n2 f2 cs r h0 n0) s ({ frames := 1, cells := 0, slots := 0, locals := 14 } : Room).cells ({ frames := 1, cells := 0, slots := 0, locals := 14 } : Room).slots) s₁ (entryFrame m #[(.ref a1), (.ref a2)] 3)
  rw [own_ef_se]
  refine own_by (T' := s₁) (g' := (mkF m 1 #[.val (.ref a1), .val (.ref a2), .unset] [(.ref a1)])) (fun t_ k_ => XS.aloadN X0.here hx rfl (hb hby own_d_se_0) rfl rfl k_) ?_
  refine own_by (T' := s₁) (g' := (mkF m 2 #[.val (.ref a1), .val (.ref a2), .unset] [(.ref a2), (.ref a1)])) (fun t_ k_ => XS.aloadN X0.here hx rfl (hb hby own_d_se_1) rfl rfl k_) ?_
  by_cases c2_1 : a1 = a2
  · skip
    refine own_by (T' := s₁) (g' := (mkF m 5 #[.val (.ref a1), .val (.ref a2), .unset] [])) (fun t_ k_ => Jvm.RoadKit.acmp (g := (mkF m 2 #[.val (.ref a1), .val (.ref a2), .unset] [(.ref a2), (.ref a1)])) X0 hx rfl rfl rfl (pc0 := 2) (pc' := 5) (same := true) rfl (hb hby own_d_se_2) rfl (decide_eq_true (congrArg Value.ref c2_1)) (by decide) (by decide) k_) ?_
    refine own_by (T' := s₁) (g' := (mkF m 6 #[.val (.ref a1), .val (.ref a2), .unset] [(.int (1 : Int32))])) (fun t_ k_ => XS.iconst X0.here hx rfl (hb hby own_d_se_5) k_) ?_
    refine own_retN X0 hx (t := .boolean) Bd.returns hlk (by simp) (hb hby own_d_se_6) (by decide) (by decide) (v := (1 : Int32)) rfl ?_
    rw [e0]
    exact ⟨by rw [own_sS hr c2_1 W1_ W2_ V1 V2], N0, rfl⟩
  · skip
    refine own_by (T' := s₁) (g' := (mkF m 7 #[.val (.ref a1), .val (.ref a2), .unset] [])) (fun t_ k_ => Jvm.RoadKit.acmp (g := (mkF m 2 #[.val (.ref a1), .val (.ref a2), .unset] [(.ref a2), (.ref a1)])) X0 hx rfl rfl rfl (pc0 := 2) (pc' := 7) (same := false) rfl (hb hby own_d_se_2) rfl (decide_eq_false (fun q_ => c2_1 (Value.ref.inj q_))) (by decide) (by decide) k_) ?_
    refine own_by (T' := s₁) (g' := (mkF m 8 #[.val (.ref a1), .val (.ref a2), .unset] [(.ref a2)])) (fun t_ k_ => XS.aloadN X0.here hx rfl (hb hby own_d_se_7) rfl rfl k_) ?_
    obtain ⟨T2, X2, e2, st2⟩ := instY X0 hx hZ hown (hw _ (List.mem_of_getElem? (i := 62) rfl)) e0 (Ins.self E2) (g := (mkF m 8 #[.val (.ref a1), .val (.ref a2), .unset] [(.ref a2)])) rfl rfl (hb hby own_d_se_8)
    refine own_by (T' := T2) (g' := (mkF m 11 #[.val (.ref a1), .val (.ref a2), .unset] [(.int (1 : Int32))])) st2 ?_
    refine own_by (T' := T2) (g' := (mkF m 14 #[.val (.ref a1), .val (.ref a2), .unset] [])) (fun t_ k_ => XS.ifNo X2.here hx rfl (hb hby own_d_se_11) rfl ((if0 _ _).trans (feq ((by decide) : ¬ ((1 : Int32) = (0 : Int32)))).1) k_) ?_
    refine own_by (T' := T2) (g' := (mkF m 15 #[.val (.ref a1), .val (.ref a2), .unset] [(.ref a2)])) (fun t_ k_ => XS.aloadN X2.here hx rfl (hb hby own_d_se_14) rfl rfl k_) ?_
    obtain ⟨T3, X3, e3, st3⟩ := castY X2 hx hZ hown (hw _ (List.mem_of_getElem? (i := 62) rfl)) e2 (Ins.self E2) (g := (mkF m 15 #[.val (.ref a1), .val (.ref a2), .unset] [(.ref a2)])) rfl rfl (hb hby own_d_se_15)
    refine own_by (T' := T3) (g' := (mkF m 18 #[.val (.ref a1), .val (.ref a2), .unset] [(.ref a2)])) st3 ?_
    refine own_by (T' := T3) (g' := (mkF m 19 #[.val (.ref a1), .val (.ref a2), .val (.ref a2)] [])) (fun t_ k_ => XS.astoreN X3.here hx rfl (hb hby own_d_se_18) rfl rfl (l' := #[.val (.ref a1), .val (.ref a2), .val (.ref a2)]) rfl k_) ?_
    obtain ⟨T4, X4, e4, st4⟩ := getS2 X3 hx hZ hown (host := "") (Or.inl (hw _ (List.mem_of_getElem? (i := 64) rfl))) Via.refl e3 SC (g := (mkF m 19 #[.val (.ref a1), .val (.ref a2), .val (.ref a2)] [])) rfl (hb hby own_d_se_19)
    refine own_by (T' := T4) (g' := (mkF m 22 #[.val (.ref a1), .val (.ref a2), .val (.ref a2)] [(.int cs)])) st4 ?_
    refine own_by (T' := T4) (g' := (mkF m 25 #[.val (.ref a1), .val (.ref a2), .val (.ref a2)] [])) (fun t_ k_ => XS.ifNo X4.here hx rfl (hb hby own_d_se_22) rfl ((if0 _ _).trans (feq (hcs : ¬ (cs = (0 : Int32)))).1) k_) ?_
    refine own_by (T' := T4) (g' := (mkF m 26 #[.val (.ref a1), .val (.ref a2), .val (.ref a2)] [(.ref a1)])) (fun t_ k_ => XS.aloadN X4.here hx rfl (hb hby own_d_se_25) rfl rfl k_) ?_
    obtain ⟨T5, X5, e5, st5⟩ := getF X4 hx hZ hown (host := "") (Or.inl (hw _ (List.mem_of_getElem? (i := 65) rfl))) Via.refl e4 C1 (g := (mkF m 26 #[.val (.ref a1), .val (.ref a2), .val (.ref a2)] [(.ref a1)])) rfl rfl (hb hby own_d_se_26)
    refine own_by (T' := T5) (g' := (mkF m 29 #[.val (.ref a1), .val (.ref a2), .val (.ref a2)] [(.int (0 : Int32))])) st5 ?_
    refine own_by (T' := T5) (g' := (mkF m 30 #[.val (.ref a1), .val (.ref a2), .val (.ref a2)] [(.ref a2), (.int (0 : Int32))])) (fun t_ k_ => XS.aloadN X5.here hx rfl (hb hby own_d_se_29) rfl rfl k_) ?_
    obtain ⟨T6, X6, e6, st6⟩ := getF X5 hx hZ hown (host := "") (Or.inl (hw _ (List.mem_of_getElem? (i := 65) rfl))) Via.refl e5 C2 (g := (mkF m 30 #[.val (.ref a1), .val (.ref a2), .val (.ref a2)] [(.ref a2), (.int (0 : Int32))])) rfl rfl (hb hby own_d_se_30)
    refine own_by (T' := T6) (g' := (mkF m 33 #[.val (.ref a1), .val (.ref a2), .val (.ref a2)] [(.int (0 : Int32)), (.int (0 : Int32))])) st6 ?_
    refine own_by (T' := T6) (g' := (mkF m 36 #[.val (.ref a1), .val (.ref a2), .val (.ref a2)] [])) (fun t_ k_ => XS.icmpNo X6.here hx rfl (hb hby own_d_se_33) rfl (teq ((by decide) : (0 : Int32) = (0 : Int32))).2 k_) ?_
    refine own_by (T' := T6) (g' := (mkF m 37 #[.val (.ref a1), .val (.ref a2), .val (.ref a2)] [(.ref a1)])) (fun t_ k_ => XS.aloadN X6.here hx rfl (hb hby own_d_se_36) rfl rfl k_) ?_
    obtain ⟨T7, X7, e7, st7⟩ := getF X6 hx hZ hown (host := "") (Or.inl (hw _ (List.mem_of_getElem? (i := 66) rfl))) Via.refl e6 W1_ (g := (mkF m 37 #[.val (.ref a1), .val (.ref a2), .val (.ref a2)] [(.ref a1)])) rfl rfl (hb hby own_d_se_37)
    refine own_by (T' := T7) (g' := (mkF m 40 #[.val (.ref a1), .val (.ref a2), .val (.ref a2)] [(.ref b1)])) st7 ?_
    refine own_by (T' := T7) (g' := (mkF m 41 #[.val (.ref a1), .val (.ref a2), .val (.ref a2)] [(.ref a2), (.ref b1)])) (fun t_ k_ => XS.aloadN X7.here hx rfl (hb hby own_d_se_40) rfl rfl k_) ?_
    obtain ⟨T8, X8, e8, st8⟩ := getF X7 hx hZ hown (host := "") (Or.inl (hw _ (List.mem_of_getElem? (i := 66) rfl))) Via.refl e7 W2_ (g := (mkF m 41 #[.val (.ref a1), .val (.ref a2), .val (.ref a2)] [(.ref a2), (.ref b1)])) rfl rfl (hb hby own_d_se_41)
    refine own_by (T' := T8) (g' := (mkF m 44 #[.val (.ref a1), .val (.ref a2), .val (.ref a2)] [(.ref b2), (.ref b1)])) st8 ?_
    obtain ⟨_, T9, L9, X9, hQ9, st9⟩ := own_callS X8 hx hZ (y := (⟨"java/lang/StringLatin1", "equals", "([B[B)Z"⟩ : MethodName)) hown (hw _ (List.mem_of_getElem? (i := 67) rfl)) (hw _ (List.mem_of_getElem? (i := 68) rfl)) (hw _ (List.mem_of_getElem? (i := 69) rfl)) (hw _ (List.mem_of_getElem? (i := 70) rfl)) (by decide) (argsL := [(.ref b1), (.ref b2)]) (rest := []) (own_rm_le l Z a0 hw [] b1 b2 n1 f1 n2 f2 r h0 n0 Z0 V1 V2 hn1 hn2 hr) e8 (W := 0) (by decide) (by decide) (by decide) (by decide) (g := (mkF m 44 #[.val (.ref a1), .val (.ref a2), .val (.ref a2)] [(.ref b2), (.ref b1)])) rfl (by rw [hml]; rfl) (lenOf own_pd2 rfl) rfl (by show 2 * 0 + _ ≤ _; exact Nat.le_of_eq rfl) (hb hby own_d_se_44)
    obtain ⟨rfl, Nq9, e9⟩ := hQ9
    have N9 := Fr.app N0 Nq9
    refine st9 _ ?_
    show own_Goes p e below _ T9 (mkF m 47 #[.val (.ref a1), .val (.ref a2), .val (.ref a2)] [(.int r)])
    by_cases c47_10 : r = (0 : Int32)
    · skip
      refine own_by (T' := T9) (g' := (mkF m 54 #[.val (.ref a1), .val (.ref a2), .val (.ref a2)] [])) (fun t_ k_ => XS.ifYes X9.here hx rfl (pc0 := 47) (pc' := 54) rfl (hb hby own_d_se_47) rfl ((if0 _ _).trans (teq (c47_10 : r = (0 : Int32))).1) (by decide) (by decide) k_) ?_
      refine own_by (T' := T9) (g' := (mkF m 55 #[.val (.ref a1), .val (.ref a2), .val (.ref a2)] [(.int (0 : Int32))])) (fun t_ k_ => XS.iconst X9.here hx rfl (hb hby own_d_se_54) k_) ?_
      refine own_retN X9 hx (t := .boolean) Bd.returns hlk (by simp) (hb hby own_d_se_55) (by decide) (by decide) (v := (0 : Int32)) rfl ?_
      rw [e9]
      exact ⟨by rw [c47_10], N9, rfl⟩
    · skip
      refine own_by (T' := T9) (g' := (mkF m 50 #[.val (.ref a1), .val (.ref a2), .val (.ref a2)] [])) (fun t_ k_ => XS.ifNo X9.here hx rfl (hb hby own_d_se_47) rfl ((if0 _ _).trans (feq (c47_10 : ¬ (r = (0 : Int32)))).1) k_) ?_
      refine own_by (T' := T9) (g' := (mkF m 51 #[.val (.ref a1), .val (.ref a2), .val (.ref a2)] [(.int (1 : Int32))])) (fun t_ k_ => XS.iconst X9.here hx rfl (hb hby own_d_se_50) k_) ?_
      refine own_by (T' := T9) (g' := (mkF m 55 #[.val (.ref a1), .val (.ref a2), .val (.ref a2)] [(.int (1 : Int32))])) (fun t_ k_ => XS.goto X9.here hx rfl (pc0 := 51) (pc' := 55) rfl (hb hby own_d_se_51) (by decide) (by decide) k_) ?_
      refine own_retN X9 hx (t := .boolean) Bd.returns hlk (by simp) (hb hby own_d_se_55) (by decide) (by decide) (v := (1 : Int32)) rfl ?_
      rw [e9]
      exact ⟨by rw [own_r1 hr c47_10], N9, rfl⟩
theorem own_pd3 : parseMethodDescriptor "(Ljava/lang/Object;)Z" = some ⟨[(.object "java/lang/Object")], some .boolean⟩ := by decide +kernel
theorem own_d_neq_0 : decode prog_10_method_7_code 0 = .ok (.aload_n 1, 1) := by decide +kernel
theorem own_d_neq_1 : decode prog_10_method_7_code 1 = .ok (.instanceof 8, 3) := by decide +kernel
theorem own_d_neq_4 : decode prog_10_method_7_code 4 = .ok (.ifCond .eq 26, 3) := by decide +kernel
theorem own_d_neq_7 : decode prog_10_method_7_code 7 = .ok (.aload_n 1, 1) := by decide +kernel
theorem own_d_neq_8 : decode prog_10_method_7_code 8 = .ok (.checkcast 8, 3) := by decide +kernel
theorem own_d_neq_11 : decode prog_10_method_7_code 11 = .ok (.astore_n 2, 1) := by decide +kernel
theorem own_d_neq_12 : decode prog_10_method_7_code 12 = .ok (.aload_n 0, 1) := by decide +kernel
theorem own_d_neq_13 : decode prog_10_method_7_code 13 = .ok (.getfield 7, 3) := by decide +kernel
theorem own_d_neq_16 : decode prog_10_method_7_code 16 = .ok (.aload_n 2, 1) := by decide +kernel
theorem own_d_neq_17 : decode prog_10_method_7_code 17 = .ok (.getfield 7, 3) := by decide +kernel
theorem own_d_neq_20 : decode prog_10_method_7_code 20 = .ok (.invokevirtual 48, 3) := by decide +kernel
theorem own_d_neq_23 : decode prog_10_method_7_code 23 = .ok (.ifCond .eq 7, 3) := by decide +kernel
theorem own_d_neq_26 : decode prog_10_method_7_code 26 = .ok (.iconst 1, 1) := by decide +kernel
theorem own_d_neq_27 : decode prog_10_method_7_code 27 = .ok (.goto 4, 3) := by decide +kernel
theorem own_d_neq_30 : decode prog_10_method_7_code 30 = .ok (.iconst 0, 1) := by decide +kernel
theorem own_d_neq_31 : decode prog_10_method_7_code 31 = .ok (.ireturn, 1) := by decide +kernel
theorem own_ef_neq (m : MethodId) (d1 : Addr) (d2 : Addr) : entryFrame m #[(.ref d1), (.ref d2)] 3 = mkF m 0 #[.val (.ref d1), .val (.ref d2), .unset] [] := by first | (simp [entryFrame, mkF, argsToLocals, Value.category]; done) | rfl
def own_Q_neq (Z : State) (d1 : Addr) (d2 : Addr) (a1 : Addr) (a2 : Addr) (b1 : Addr) (n1 : Nat) (f1 : Nat → Int32) (b2 : Addr) (n2 : Nat) (f2 : Nat → Int32) (cs : Int32) (r : Int32) (h0 : Heap) (n0 : Nat) (v : Option Value) (h : Heap) (L : List Loc) : Prop := v = some (.int r) ∧ Fr n0 L ∧ h = h0
set_option maxRecDepth 65536 in
set_option maxHeartbeats 40000000 in
theorem own_rm_neq (l : Launch) (Z : State) (a0 : Array Value) (hw : ∀ d ∈ tables_1, d.before a0 Z = true) (ws : List Jvm.Cond) (d1 : Addr) (d2 : Addr) (a1 : Addr) (a2 : Addr) (b1 : Addr) (n1 : Nat) (f1 : Nat → Int32) (b2 : Addr) (n2 : Nat) (f2 : Nat → Int32) (cs : Int32) (r : Int32) (h0 : Heap) (n0 : Nat) (Z0 : n0 ≤ h0.size) (D1 : Exa Z h0 d1 "com/example/arcwright/arcwright/learn/gp/Node") (D2 : Exa Z h0 d2 "com/example/arcwright/arcwright/learn/gp/Node") (Y1 : Fld Z h0 d1 "com/example/arcwright/arcwright/learn/gp/Node" "symbol" "Ljava/lang/String;" (.ref a1)) (Y2 : Fld Z h0 d2 "com/example/arcwright/arcwright/learn/gp/Node" "symbol" "Ljava/lang/String;" (.ref a2)) (E1 : Exa Z h0 a1 "java/lang/String") (C1 : Fld Z h0 a1 "java/lang/String" "coder" "B" (.int (0 : Int32))) (W1_ : Fld Z h0 a1 "java/lang/String" "value" "[B" (.ref b1)) (V1 : own_Ia Z h0 b1 .byte n1 f1) (E2 : Exa Z h0 a2 "java/lang/String") (C2 : Fld Z h0 a2 "java/lang/String" "coder" "B" (.int (0 : Int32))) (W2_ : Fld Z h0 a2 "java/lang/String" "value" "[B" (.ref b2)) (V2 : own_Ia Z h0 b2 .byte n2 f2) (SC : Sta Z h0 "java/lang/String" "COMPACT_STRINGS" "Z" (.int cs)) (hcs : ¬ cs = (0 : Int32)) (hn1 : n1 < 100) (hn2 : n2 < 100) (hr : own_same n1 f1 n2 f2 r) :
    MetFree l (⟨"com/example/arcwright/arcwright/learn/gp/Node", "equals", "(Ljava/lang/Object;)Z"⟩ : MethodName) (head1 (Jvm.Cond.code (⟨"com/example/arcwright/arcwright/learn/gp/Node", "equals", "(Ljava/lang/Object;)Z"⟩ : MethodName) prog_10_method_7_code 3 (some .boolean) :: ws) ({ frames := 2, cells := 0, slots := 0, locals := 28 } : Room)) (fun a_ U_ => a_ = #[(.ref d1), (.ref d2)] ∧ Z.Warmed39 U_.vm ∧ U_.heap = h0) (fun _ _ _ _ _ => True) (fun _ U_ o_ U'_ => ∃ v_ L_, o_ = .returned v_ ∧ own_Q_neq Z d1 d2 a1 a2 b1 n1 f1 b2 n2 f2 cs r h0 n0 v_ U'_.heap L_ ∧ FrameEnd U_ o_ U'_ L_ ({ frames := 2, cells := 0, slots := 0, locals := 28 } : Room).cells ({ frames := 2, cells := 0, slots := 0, locals := 28 } : Room).slots) := by
  refine MetFree.of_bodySF (plainFor_of_name own_pn_com_example_arcwright_arcwright_learn_gp_Node) hisR ?_
  intro p e s m args below meth c s₁ Bd hml0 hP hK
  obtain ⟨rfl, hZ, hh⟩ := hP
  have hx := Bd.exec
  have hby := Bd.bytes
  have hlk : meth.locks = false := BodyLoose.notSynchronized Bd
  have hml : c.maxLocals = 3 := hml0
  have hown : s.vm.findClass "com/example/arcwright/arcwright/learn/gp/Node" = some m.cls := findClass_of_methodNamed Bd.named
  have hnm := (name_of_methodNamed Bd.named Bd.method).1
  have X0 : Stand p l e ({ frames := 2, cells := 0, slots := 0, locals := 28 } : Room) s m #[(.ref d1), (.ref d2)] below meth c s₁ [] 0 0 := Stand.of_body Bd
  have e0 : s₁.heap = h0 := by rw [← hh, Bd.state]; rfl
  have N0 := Fr.nil n0
  show own_Goes p e below (own_K (own_Q_neq Z d1 d2 a1 a2 b1 n1 f1 b2 n2 f2 cs r h0 n0) s ({ frames := 2, cells := 0, slots := 0, locals := 28 } : Room).cells ({ frames := 2, cells := 0, slots := 0, locals := 28 } : Room).slots) s₁ (entryFrame m #[(.ref d1), (.ref d2)] 3)
  rw [own_ef_neq]
  refine own_by (T' := s₁) (g' := (mkF m 1 #[.val (.ref d1), .val (.ref d2), .unset] [(.ref d2)])) (fun t_ k_ => XS.aloadN X0.here hx rfl (hb hby own_d_neq_0) rfl rfl k_) ?_
  obtain ⟨T1, X1, e1, st1⟩ := instY X0 hx hZ hown (hw _ (List.mem_of_getElem? (i := 17) rfl)) e0 (Ins.self D2) (g := (mkF m 1 #[.val (.ref d1), .val (.ref d2), .unset] [(.ref d2)])) rfl rfl (hb hby own_d_neq_1)
  refine own_by (T' := T1) (g' := (mkF m 4 #[.val (.ref d1), .val (.ref d2), .unset] [(.int (1 : Int32))])) st1 ?_
  refine own_by (T' := T1) (g' := (mkF m 7 #[.val (.ref d1), .val (.ref d2), .unset] [])) (fun t_ k_ => XS.ifNo X1.here hx rfl (hb hby own_d_neq_4) rfl ((if0 _ _).trans (feq ((by decide) : ¬ ((1 : Int32) = (0 : Int32)))).1) k_) ?_
  refine own_by (T' := T1) (g' := (mkF m 8 #[.val (.ref d1), .val (.ref d2), .unset] [(.ref d2)])) (fun t_ k_ => XS.aloadN X1.here hx rfl (hb hby own_d_neq_7) rfl rfl k_) ?_
  obtain ⟨T2, X2, e2, st2⟩ := castY X1 hx hZ hown (hw _ (List.mem_of_getElem? (i := 17) rfl)) e1 (Ins.self D2) (g := (mkF m 8 #[.val (.ref d1), .val (.ref d2), .unset] [(.ref d2)])) rfl rfl (hb hby own_d_neq_8)
  refine own_by (T' := T2) (g' := (mkF m 11 #[.val (.ref d1), .val (.ref d2), .unset] [(.ref d2)])) st2 ?_
  refine own_by (T' := T2) (g' := (mkF m 12 #[.val (.ref d1), .val (.ref d2), .val (.ref d2)] [])) (fun t_ k_ => XS.astoreN X2.here hx rfl (hb hby own_d_neq_11) rfl rfl (l' := #[.val (.ref d1), .val (.ref d2), .val (.ref d2)]) rfl k_) ?_
  refine own_by (T' := T2) (g' := (mkF m 13 #[.val (.ref d1), .val (.ref d2), .val (.ref d2)] [(.ref d1)])) (fun t_ k_ => XS.aloadN X2.here hx rfl (hb hby own_d_neq_12) rfl rfl k_) ?_
  obtain ⟨T3, X3, e3, st3⟩ := getF X2 hx hZ hown (host := "") (Or.inl (hw _ (List.mem_of_getElem? (i := 32) rfl))) Via.refl e2 Y1 (g := (mkF m 13 #[.val (.ref d1), .val (.ref d2), .val (.ref d2)] [(.ref d1)])) rfl rfl (hb hby own_d_neq_13)
  refine own_by (T' := T3) (g' := (mkF m 16 #[.val (.ref d1), .val (.ref d2), .val (.ref d2)] [(.ref a1)])) st3 ?_
  refine own_by (T' := T3) (g' := (mkF m 17 #[.val (.ref d1), .val (.ref d2), .val (.ref d2)] [(.ref d2), (.ref a1)])) (fun t_ k_ => XS.aloadN X3.here hx rfl (hb hby own_d_neq_16) rfl rfl k_) ?_
  obtain ⟨T4, X4, e4, st4⟩ := getF X3 hx hZ hown (host := "") (Or.inl (hw _ (List.mem_of_getElem? (i := 32) rfl))) Via.refl e3 Y2 (g := (mkF m 17 #[.val (.ref d1), .val (.ref d2), .val (.ref d2)] [(.ref d2), (.ref a1)])) rfl rfl (hb hby own_d_neq_17)
  refine own_by (T' := T4) (g' := (mkF m 20 #[.val (.ref d1), .val (.ref d2), .val (.ref d2)] [(.ref a2), (.ref a1)])) st4 ?_
  obtain ⟨_, T5, L5, X5, hQ5, st5⟩ := own_callV X4 hx hZ (y := (⟨"java/lang/String", "equals", "(Ljava/lang/Object;)Z"⟩ : MethodName)) hown (hw _ (List.mem_of_getElem? (i := 78) rfl)) (hw _ (List.mem_of_getElem? (i := 58) rfl)) (hw _ (List.mem_of_getElem? (i := 60) rfl)) (hw _ (List.mem_of_getElem? (i := 59) rfl)) (hw _ (List.mem_of_getElem? (i := 50) rfl)) (hw _ (List.mem_of_getElem? (i := 61) rfl)) (by decide) (argsL := [(.ref a2)]) (rest := []) E1 (own_rm_se l Z a0 hw [] a1 a2 b1 n1 f1 b2 n2 f2 cs r h0 n0 Z0 E1 C1 W1_ V1 E2 C2 W2_ V2 SC hcs hn1 hn2 hr) e4 (W := 0) (by decide) (by decide) (by decide) (by decide) (g := (mkF m 20 #[.val (.ref d1), .val (.ref d2), .val (.ref d2)] [(.ref a2), (.ref a1)])) rfl (by rw [hml]; rfl) (lenOf own_pd3 rfl) rfl (by show 2 * 0 + _ ≤ _; exact Nat.le_of_eq rfl) (hb hby own_d_neq_20)
  obtain ⟨rfl, Nq5, e5⟩ := hQ5
  have N5 := Fr.app N0 Nq5
  refine st5 _ ?_
  show own_Goes p e below _ T5 (mkF m 23 #[.val (.ref d1), .val (.ref d2), .val (.ref d2)] [(.int r)])
  by_cases c23_6 : r = (0 : Int32)
  · skip
    refine own_by (T' := T5) (g' := (mkF m 30 #[.val (.ref d1), .val (.ref d2), .val (.ref d2)] [])) (fun t_ k_ => XS.ifYes X5.here hx rfl (pc0 := 23) (pc' := 30) rfl (hb hby own_d_neq_23) rfl ((if0 _ _).trans (teq (c23_6 : r = (0 : Int32))).1) (by decide) (by decide) k_) ?_
    refine own_by (T' := T5) (g' := (mkF m 31 #[.val (.ref d1), .val (.ref d2), .val (.ref d2)] [(.int (0 : Int32))])) (fun t_ k_ => XS.iconst X5.here hx rfl (hb hby own_d_neq_30) k_) ?_
    refine own_retN X5 hx (t := .boolean) Bd.returns hlk (by simp) (hb hby own_d_neq_31) (by decide) (by decide) (v := (0 : Int32)) rfl ?_
    rw [e5]
    exact ⟨by rw [c23_6], N5, rfl⟩
  · skip
    refine own_by (T' := T5) (g' := (mkF m 26 #[.val (.ref d1), .val (.ref d2), .val (.ref d2)] [])) (fun t_ k_ => XS.ifNo X5.here hx rfl (hb hby own_d_neq_23) rfl ((if0 _ _).trans (feq (c23_6 : ¬ (r = (0 : Int32)))).1) k_) ?_
    refine own_by (T' := T5) (g' := (mkF m 27 #[.val (.ref d1), .val (.ref d2), .val (.ref d2)] [(.int (1 : Int32))])) (fun t_ k_ => XS.iconst X5.here hx rfl (hb hby own_d_neq_26) k_) ?_
    refine own_by (T' := T5) (g' := (mkF m 31 #[.val (.ref d1), .val (.ref d2), .val (.ref d2)] [(.int (1 : Int32))])) (fun t_ k_ => XS.goto X5.here hx rfl (pc0 := 27) (pc' := 31) rfl (hb hby own_d_neq_27) (by decide) (by decide) k_) ?_
    refine own_retN X5 hx (t := .boolean) Bd.returns hlk (by simp) (hb hby own_d_neq_31) (by decide) (by decide) (v := (1 : Int32)) rfl ?_
    rw [e5]
    exact ⟨by rw [own_r1 hr c23_6], N5, rfl⟩
theorem own_d_ex_0 : decode method_4_code 0 = .ok (.iload_n 0, 1) := by decide +kernel
theorem own_d_ex_1 : decode method_4_code 1 = .ok (.ifCond .ne 6, 3) := by decide +kernel
theorem own_d_ex_4 : decode method_4_code 4 = .ok (.ldc 29, 2) := by decide +kernel
theorem own_d_ex_6 : decode method_4_code 6 = .ok (.areturn, 1) := by decide +kernel
theorem own_d_ex_7 : decode method_4_code 7 = .ok (.iload_n 0, 1) := by decide +kernel
theorem own_d_ex_8 : decode method_4_code 8 = .ok (.iconst 1, 1) := by decide +kernel
theorem own_d_ex_9 : decode method_4_code 9 = .ok (.if_icmp .ne 6, 3) := by decide +kernel
theorem own_d_ex_12 : decode method_4_code 12 = .ok (.ldc 31, 2) := by decide +kernel
theorem own_d_ex_14 : decode method_4_code 14 = .ok (.areturn, 1) := by decide +kernel
theorem own_d_ex_15 : decode method_4_code 15 = .ok (.iload_n 0, 1) := by decide +kernel
theorem own_d_ex_16 : decode method_4_code 16 = .ok (.iconst 2, 1) := by decide +kernel
theorem own_d_ex_17 : decode method_4_code 17 = .ok (.if_icmp .ne 6, 3) := by decide +kernel
theorem own_d_ex_20 : decode method_4_code 20 = .ok (.ldc 33, 2) := by decide +kernel
theorem own_d_ex_22 : decode method_4_code 22 = .ok (.areturn, 1) := by decide +kernel
theorem own_d_ex_23 : decode method_4_code 23 = .ok (.iload_n 0, 1) := by decide +kernel
theorem own_d_ex_24 : decode method_4_code 24 = .ok (.iconst 3, 1) := by decide +kernel
theorem own_d_ex_25 : decode method_4_code 25 = .ok (.if_icmp .ne 6, 3) := by decide +kernel
theorem own_d_ex_28 : decode method_4_code 28 = .ok (.ldc 35, 2) := by decide +kernel
theorem own_d_ex_30 : decode method_4_code 30 = .ok (.areturn, 1) := by decide +kernel
theorem own_d_ex_31 : decode method_4_code 31 = .ok (.iload_n 0, 1) := by decide +kernel
theorem own_d_ex_32 : decode method_4_code 32 = .ok (.iconst 4, 1) := by decide +kernel
theorem own_d_ex_33 : decode method_4_code 33 = .ok (.if_icmp .ne 6, 3) := by decide +kernel
theorem own_d_ex_36 : decode method_4_code 36 = .ok (.ldc 37, 2) := by decide +kernel
theorem own_d_ex_38 : decode method_4_code 38 = .ok (.areturn, 1) := by decide +kernel
theorem own_d_ex_39 : decode method_4_code 39 = .ok (.ldc 39, 2) := by decide +kernel
theorem own_d_ex_41 : decode method_4_code 41 = .ok (.areturn, 1) := by decide +kernel
theorem own_ef_ex (m : MethodId) (k : Int32) : entryFrame m #[(.int k)] 1 = mkF m 0 #[.val (.int k)] [] := by first | (simp [entryFrame, mkF, argsToLocals, Value.category]; done) | rfl
def own_Q_ex (Z : State) (k : Int32) (h0 : Heap) (n0 : Nat) (v : Option Value) (h : Heap) (L : List Loc) : Prop := ∃ sa sb, v = some (.ref sa) ∧ Fr n0 L ∧ Keep h0 h [] ∧ Exa Z h sa "java/lang/String" ∧ Fld Z h sa "java/lang/String" "coder" "B" (.int (0 : Int32)) ∧ Fld Z h sa "java/lang/String" "value" "[B" (.ref sb) ∧ own_Ia Z h sb .byte (own_tn k.toNatClampNeg) (own_tx k.toNatClampNeg)
set_option maxRecDepth 65536 in
set_option maxHeartbeats 40000000 in
theorem own_rm_ex (l : Launch) (Z : State) (a0 : Array Value) (hw : ∀ d ∈ tables_1, d.before a0 Z = true) (ws : List Jvm.Cond) (k : Int32) (h0 : Heap) (n0 : Nat) (Z0 : n0 ≤ h0.size) (hk : 0 ≤ k.toInt ∧ k.toInt < 6) (hold : ∀ (b : Addr) (cl : Cell), Z.heap[b]? = some cl → h0[b]? = some cl) (hcst : ∀ i, i ∈ [29, 31, 33, 35, 37, 39] → Jvm.Lit.constHeld Z "com/example/arcwright/arcwright/learn/gp/NodeOfPinLaw" i) (hcw : Jvm.Lit.compactW.before a0 Z = true) :
    MetFree l (⟨"com/example/arcwright/arcwright/learn/gp/NodeOfPinLaw", "expected", "(I)Ljava/lang/String;"⟩ : MethodName) (head1 (Jvm.Cond.code (⟨"com/example/arcwright/arcwright/learn/gp/NodeOfPinLaw", "expected", "(I)Ljava/lang/String;"⟩ : MethodName) method_4_code 1 (some (.object "java/lang/String")) :: ws) ({ frames := 0, cells := 2, slots := 16, locals := 0 } : Room)) (fun a_ U_ => a_ = #[(.int k)] ∧ Z.Warmed39 U_.vm ∧ U_.heap = h0 ∧ U_.vm.interned = Z.vm.interned) (fun _ _ _ _ _ => True) (fun _ U_ o_ U'_ => ∃ v_ L_, o_ = .returned v_ ∧ own_Q_ex Z k h0 n0 v_ U'_.heap L_ ∧ ReturnedEndW U_ o_ U'_ L_ ({ frames := 0, cells := 2, slots := 16, locals := 0 } : Room).cells ({ frames := 0, cells := 2, slots := 16, locals := 0 } : Room).slots) := by
  refine MetFree.of_bodySF (plainFor_of_name own_pn_com_example_arcwright_arcwright_learn_gp_NodeOfPinLaw) hisR ?_
  intro p e s m args below meth c s₁ Bd hml0 hP hK
  obtain ⟨rfl, hZ, hh, hI⟩ := hP
  have hx := Bd.exec
  have hby := Bd.bytes
  have hlk : meth.locks = false := BodyLoose.notSynchronized Bd
  have hml : c.maxLocals = 1 := hml0
  have hown : s.vm.findClass "com/example/arcwright/arcwright/learn/gp/NodeOfPinLaw" = some m.cls := findClass_of_methodNamed Bd.named
  have hnm := (name_of_methodNamed Bd.named Bd.method).1
  have X0 : Stand p l e ({ frames := 0, cells := 2, slots := 16, locals := 0 } : Room) s m #[(.int k)] below meth c s₁ [] 0 0 := Stand.of_body Bd
  have e0 : s₁.heap = h0 := by rw [← hh, Bd.state]; rfl
  have N0 := Fr.nil n0
  show own_Goes p e below (own_KS (own_Q_ex Z k h0 n0) s ({ frames := 0, cells := 2, slots := 16, locals := 0 } : Room).cells ({ frames := 0, cells := 2, slots := 16, locals := 0 } : Room).slots) s₁ (entryFrame m #[(.int k)] 1)
  rw [own_ef_ex]
  have K0 := Keep.refl h0 []
  refine own_by (T' := s₁) (g' := (mkF m 1 #[.val (.int k)] [(.int k)])) (fun t_ k_ => XS.iloadN X0.here hx rfl (hb hby own_d_ex_0) rfl k_) ?_
  by_cases c1_1 : k = (0 : Int32)
  · skip
    refine own_by (T' := s₁) (g' := (mkF m 4 #[.val (.int k)] [])) (fun t_ k_ => XS.ifNo X0.here hx rfl (hb hby own_d_ex_1) rfl ((if0 _ _).trans (teq (c1_1 : k = (0 : Int32))).2) k_) ?_
    obtain ⟨sa2, sb2, T2, h2, X2, e2, E2, hS2, hZ, hown, Es2, Fc2, Fv2, Vs2, -, st2⟩ := own_ldcS X0 hx hZ hI hown (hw _ (List.mem_of_getElem? (i := 49) rfl)) (own_ws hw) e0 (by rw [hh]; exact Nat.le_refl _) (Fr.nil _) (fun b cl hb => by rw [hh]; exact hold b cl hb) (hcst 29 (by decide)) hcw (nl := 1) (f := own_tx 0) (by decide) ⟨by decide, rfl⟩ (g := (mkF m 4 #[.val (.int k)] [])) rfl (hb hby own_d_ex_4) (n := 12) (by decide) (by decide) (by decide) (by decide)
    have f3 := Nat.le_trans Z0 E2.1
    have f4 := K0.ext E2
    refine own_by (T' := T2) (g' := (mkF m 6 #[.val (.int k)] [(.ref sa2)])) st2 ?_
    refine own_retRW X2 hS2 (by rw [e2]; exact (Nat.le_refl h2.size)) hx Bd.returns hlk rfl rfl (hb hby own_d_ex_6) (by decide) (by decide) ?_
    rw [e2]
    exact ⟨_, _, rfl, N0, f4, Es2, Fc2, Fv2, own_tx_at (k := 0) (by rw [c1_1]; first | done | rfl) Vs2⟩
  · skip
    refine own_by (T' := s₁) (g' := (mkF m 7 #[.val (.int k)] [])) (fun t_ k_ => XS.ifYes X0.here hx rfl (pc0 := 1) (pc' := 7) rfl (hb hby own_d_ex_1) rfl ((if0 _ _).trans (feq (c1_1 : ¬ (k = (0 : Int32)))).2) (by decide) (by decide) k_) ?_
    refine own_by (T' := s₁) (g' := (mkF m 8 #[.val (.int k)] [(.int k)])) (fun t_ k_ => XS.iloadN X0.here hx rfl (hb hby own_d_ex_7) rfl k_) ?_
    refine own_by (T' := s₁) (g' := (mkF m 9 #[.val (.int k)] [(.int (1 : Int32)), (.int k)])) (fun t_ k_ => XS.iconst X0.here hx rfl (hb hby own_d_ex_8) k_) ?_
    by_cases c9_5 : k = (1 : Int32)
    · skip
      refine own_by (T' := s₁) (g' := (mkF m 12 #[.val (.int k)] [])) (fun t_ k_ => XS.icmpNo X0.here hx rfl (hb hby own_d_ex_9) rfl (teq (c9_5 : k = (1 : Int32))).2 k_) ?_
      obtain ⟨sa6, sb6, T6, h6, X6, e6, E6, hS6, hZ, hown, Es6, Fc6, Fv6, Vs6, -, st6⟩ := own_ldcS X0 hx hZ hI hown (hw _ (List.mem_of_getElem? (i := 89) rfl)) (own_ws hw) e0 (by rw [hh]; exact Nat.le_refl _) (Fr.nil _) (fun b cl hb => by rw [hh]; exact hold b cl hb) (hcst 31 (by decide)) hcw (nl := 1) (f := own_tx 1) (by decide) ⟨by decide, rfl⟩ (g := (mkF m 12 #[.val (.int k)] [])) rfl (hb hby own_d_ex_12) (n := 12) (by decide) (by decide) (by decide) (by decide)
      have f7 := Nat.le_trans Z0 E6.1
      have f8 := K0.ext E6
      refine own_by (T' := T6) (g' := (mkF m 14 #[.val (.int k)] [(.ref sa6)])) st6 ?_
      refine own_retRW X6 hS6 (by rw [e6]; exact (Nat.le_refl h6.size)) hx Bd.returns hlk rfl rfl (hb hby own_d_ex_14) (by decide) (by decide) ?_
      rw [e6]
      exact ⟨_, _, rfl, N0, f8, Es6, Fc6, Fv6, own_tx_at (k := 1) (by rw [c9_5]; first | done | rfl) Vs6⟩
    · skip
      refine own_by (T' := s₁) (g' := (mkF m 15 #[.val (.int k)] [])) (fun t_ k_ => XS.icmpYes X0.here hx rfl (pc0 := 9) (pc' := 15) rfl (hb hby own_d_ex_9) rfl (feq (c9_5 : ¬ (k = (1 : Int32)))).2 (by decide) (by decide) k_) ?_
      refine own_by (T' := s₁) (g' := (mkF m 16 #[.val (.int k)] [(.int k)])) (fun t_ k_ => XS.iloadN X0.here hx rfl (hb hby own_d_ex_15) rfl k_) ?_
      refine own_by (T' := s₁) (g' := (mkF m 17 #[.val (.int k)] [(.int (2 : Int32)), (.int k)])) (fun t_ k_ => XS.iconst X0.here hx rfl (hb hby own_d_ex_16) k_) ?_
      by_cases c17_9 : k = (2 : Int32)
      · skip
        refine own_by (T' := s₁) (g' := (mkF m 20 #[.val (.int k)] [])) (fun t_ k_ => XS.icmpNo X0.here hx rfl (hb hby own_d_ex_17) rfl (teq (c17_9 : k = (2 : Int32))).2 k_) ?_
        obtain ⟨sa10, sb10, T10, h10, X10, e10, E10, hS10, hZ, hown, Es10, Fc10, Fv10, Vs10, -, st10⟩ := own_ldcS X0 hx hZ hI hown (hw _ (List.mem_of_getElem? (i := 83) rfl)) (own_ws hw) e0 (by rw [hh]; exact Nat.le_refl _) (Fr.nil _) (fun b cl hb => by rw [hh]; exact hold b cl hb) (hcst 33 (by decide)) hcw (nl := 1) (f := own_tx 2) (by decide) ⟨by decide, rfl⟩ (g := (mkF m 20 #[.val (.int k)] [])) rfl (hb hby own_d_ex_20) (n := 12) (by decide) (by decide) (by decide) (by decide)
        have f11 := Nat.le_trans Z0 E10.1
        have f12 := K0.ext E10
        refine own_by (T' := T10) (g' := (mkF m 22 #[.val (.int k)] [(.ref sa10)])) st10 ?_
        refine own_retRW X10 hS10 (by rw [e10]; exact (Nat.le_refl h10.size)) hx Bd.returns hlk rfl rfl (hb hby own_d_ex_22) (by decide) (by decide) ?_
        rw [e10]
        exact ⟨_, _, rfl, N0, f12, Es10, Fc10, Fv10, own_tx_at (k := 2) (by rw [c17_9]; first | done | rfl) Vs10⟩
      · skip
        refine own_by (T' := s₁) (g' := (mkF m 23 #[.val (.int k)] [])) (fun t_ k_ => XS.icmpYes X0.here hx rfl (pc0 := 17) (pc' := 23) rfl (hb hby own_d_ex_17) rfl (feq (c17_9 : ¬ (k = (2 : Int32)))).2 (by decide) (by decide) k_) ?_
        refine own_by (T' := s₁) (g' := (mkF m 24 #[.val (.int k)] [(.int k)])) (fun t_ k_ => XS.iloadN X0.here hx rfl (hb hby own_d_ex_23) rfl k_) ?_
        refine own_by (T' := s₁) (g' := (mkF m 25 #[.val (.int k)] [(.int (3 : Int32)), (.int k)])) (fun t_ k_ => XS.iconst X0.here hx rfl (hb hby own_d_ex_24) k_) ?_
        by_cases c25_13 : k = (3 : Int32)
        · skip
          refine own_by (T' := s₁) (g' := (mkF m 28 #[.val (.int k)] [])) (fun t_ k_ => XS.icmpNo X0.here hx rfl (hb hby own_d_ex_25) rfl (teq (c25_13 : k = (3 : Int32))).2 k_) ?_
          obtain ⟨sa14, sb14, T14, h14, X14, e14, E14, hS14, hZ, hown, Es14, Fc14, Fv14, Vs14, -, st14⟩ := own_ldcS X0 hx hZ hI hown (hw _ (List.mem_of_getElem? (i := 91) rfl)) (own_ws hw) e0 (by rw [hh]; exact Nat.le_refl _) (Fr.nil _) (fun b cl hb => by rw [hh]; exact hold b cl hb) (hcst 35 (by decide)) hcw (nl := 1) (f := own_tx 3) (by decide) ⟨by decide, rfl⟩ (g := (mkF m 28 #[.val (.int k)] [])) rfl (hb hby own_d_ex_28) (n := 12) (by decide) (by decide) (by decide) (by decide)
          have f15 := Nat.le_trans Z0 E14.1
          have f16 := K0.ext E14
          refine own_by (T' := T14) (g' := (mkF m 30 #[.val (.int k)] [(.ref sa14)])) st14 ?_
          refine own_retRW X14 hS14 (by rw [e14]; exact (Nat.le_refl h14.size)) hx Bd.returns hlk rfl rfl (hb hby own_d_ex_30) (by decide) (by decide) ?_
          rw [e14]
          exact ⟨_, _, rfl, N0, f16, Es14, Fc14, Fv14, own_tx_at (k := 3) (by rw [c25_13]; first | done | rfl) Vs14⟩
        · skip
          refine own_by (T' := s₁) (g' := (mkF m 31 #[.val (.int k)] [])) (fun t_ k_ => XS.icmpYes X0.here hx rfl (pc0 := 25) (pc' := 31) rfl (hb hby own_d_ex_25) rfl (feq (c25_13 : ¬ (k = (3 : Int32)))).2 (by decide) (by decide) k_) ?_
          refine own_by (T' := s₁) (g' := (mkF m 32 #[.val (.int k)] [(.int k)])) (fun t_ k_ => XS.iloadN X0.here hx rfl (hb hby own_d_ex_31) rfl k_) ?_
          refine own_by (T' := s₁) (g' := (mkF m 33 #[.val (.int k)] [(.int (4 : Int32)), (.int k)])) (fun t_ k_ => XS.iconst X0.here hx rfl (hb hby own_d_ex_32) k_) ?_
          by_cases c33_17 : k = (4 : Int32)
          · skip
            refine own_by (T' := s₁) (g' := (mkF m 36 #[.val (.int k)] [])) (fun t_ k_ => XS.icmpNo X0.here hx rfl (hb hby own_d_ex_33) rfl (teq (c33_17 : k = (4 : Int32))).2 k_) ?_
            obtain ⟨sa18, sb18, T18, h18, X18, e18, E18, hS18, hZ, hown, Es18, Fc18, Fv18, Vs18, -, st18⟩ := own_ldcS X0 hx hZ hI hown (hw _ (List.mem_of_getElem? (i := 88) rfl)) (own_ws hw) e0 (by rw [hh]; exact Nat.le_refl _) (Fr.nil _) (fun b cl hb => by rw [hh]; exact hold b cl hb) (hcst 37 (by decide)) hcw (nl := 3) (f := own_tx 4) (by decide) ⟨by decide, rfl⟩ (g := (mkF m 36 #[.val (.int k)] [])) rfl (hb hby own_d_ex_36) (n := 12) (by decide) (by decide) (by decide) (by decide)
            have f19 := Nat.le_trans Z0 E18.1
            have f20 := K0.ext E18
            refine own_by (T' := T18) (g' := (mkF m 38 #[.val (.int k)] [(.ref sa18)])) st18 ?_
            refine own_retRW X18 hS18 (by rw [e18]; exact (Nat.le_refl h18.size)) hx Bd.returns hlk rfl rfl (hb hby own_d_ex_38) (by decide) (by decide) ?_
            rw [e18]
            exact ⟨_, _, rfl, N0, f20, Es18, Fc18, Fv18, own_tx_at (k := 4) (by rw [c33_17]; first | done | rfl) Vs18⟩
          · skip
            refine own_by (T' := s₁) (g' := (mkF m 39 #[.val (.int k)] [])) (fun t_ k_ => XS.icmpYes X0.here hx rfl (pc0 := 33) (pc' := 39) rfl (hb hby own_d_ex_33) rfl (feq (c33_17 : ¬ (k = (4 : Int32)))).2 (by decide) (by decide) k_) ?_
            obtain ⟨sa21, sb21, T21, h21, X21, e21, E21, hS21, hZ, hown, Es21, Fc21, Fv21, Vs21, -, st21⟩ := own_ldcS X0 hx hZ hI hown (hw _ (List.mem_of_getElem? (i := 90) rfl)) (own_ws hw) e0 (by rw [hh]; exact Nat.le_refl _) (Fr.nil _) (fun b cl hb => by rw [hh]; exact hold b cl hb) (hcst 39 (by decide)) hcw (nl := 3) (f := own_tx 5) (by decide) ⟨by decide, rfl⟩ (g := (mkF m 39 #[.val (.int k)] [])) rfl (hb hby own_d_ex_39) (n := 12) (by decide) (by decide) (by decide) (by decide)
            have f22 := Nat.le_trans Z0 E21.1
            have f23 := K0.ext E21
            refine own_by (T' := T21) (g' := (mkF m 41 #[.val (.int k)] [(.ref sa21)])) st21 ?_
            refine own_retRW X21 hS21 (by rw [e21]; exact (Nat.le_refl h21.size)) hx Bd.returns hlk rfl rfl (hb hby own_d_ex_41) (by decide) (by decide) ?_
            rw [e21]
            exact ⟨_, _, rfl, N0, f23, Es21, Fc21, Fv21, own_tx_at (k := 5) (own_k5 k hk c1_1 c9_5 c17_9 c25_13 c33_17) Vs21⟩
theorem own_pd4 : parseMethodDescriptor "(I)I" = some ⟨[.int], some .int⟩ := by decide +kernel
theorem own_pd5 : parseMethodDescriptor "(I)Lcom/example/arcwright/arcwright/model/policy/Operator;" = some ⟨[.int], some (.object "com/example/arcwright/arcwright/model/policy/Operator")⟩ := by decide +kernel
theorem own_pd6 : parseMethodDescriptor "(Lcom/example/arcwright/arcwright/model/policy/Operator;)Lcom/example/arcwright/arcwright/learn/gp/Node;" = some ⟨[(.object "com/example/arcwright/arcwright/model/policy/Operator")], some (.object "com/example/arcwright/arcwright/learn/gp/Node")⟩ := by decide +kernel
theorem own_pd7 : parseMethodDescriptor "()Z" = some ⟨[], some .boolean⟩ := by decide +kernel
theorem own_pd8 : parseMethodDescriptor "(I)Ljava/lang/String;" = some ⟨[.int], some (.object "java/lang/String")⟩ := by decide +kernel
theorem own_ef_law (m : MethodId) (qa : Int32) (qb : Int32) : entryFrame m #[(.int qa), (.int qb)] maxLocals = mkF m 0 #[.val (.int qa), .val (.int qb), .unset, .unset, .unset, .unset, .unset, .unset, .unset] [] := by first | (simp [entryFrame, mkF, argsToLocals, Value.category, maxLocals]; done) | rfl
def own_Q_law (Z : State) (qa : Int32) (qb : Int32) (a_ADD : Addr) (a_SUBTRACT : Addr) (a_MULTIPLY : Addr) (a_DIVIDE : Addr) (a_MIN : Addr) (a_MAX : Addr) (cs : Int32) (h0 : Heap) (n0 : Nat) (v : Option Value) (h : Heap) (L : List Loc) : Prop := v = some (.int 1) ∧ Fr n0 L
set_option maxRecDepth 65536 in
set_option maxHeartbeats 40000000 in
theorem own_rm_law (l : Launch) (Z : State) (a0 : Array Value) (hw : ∀ d ∈ tables_1, d.before a0 Z = true) (ws : List Jvm.Cond) (qa : Int32) (qb : Int32) (a_ADD : Addr) (a_SUBTRACT : Addr) (a_MULTIPLY : Addr) (a_DIVIDE : Addr) (a_MIN : Addr) (a_MAX : Addr) (cs : Int32) (h0 : Heap) (n0 : Nat) (Z0 : n0 ≤ h0.size) (S_ADD : Sta Z h0 "com/example/arcwright/arcwright/model/policy/Operator" "ADD" "Lcom/example/arcwright/arcwright/model/policy/Operator;" (.ref a_ADD)) (S_SUBTRACT : Sta Z h0 "com/example/arcwright/arcwright/model/policy/Operator" "SUBTRACT" "Lcom/example/arcwright/arcwright/model/policy/Operator;" (.ref a_SUBTRACT)) (S_MULTIPLY : Sta Z h0 "com/example/arcwright/arcwright/model/policy/Operator" "MULTIPLY" "Lcom/example/arcwright/arcwright/model/policy/Operator;" (.ref a_MULTIPLY)) (S_DIVIDE : Sta Z h0 "com/example/arcwright/arcwright/model/policy/Operator" "DIVIDE" "Lcom/example/arcwright/arcwright/model/policy/Operator;" (.ref a_DIVIDE)) (S_MIN : Sta Z h0 "com/example/arcwright/arcwright/model/policy/Operator" "MIN" "Lcom/example/arcwright/arcwright/model/policy/Operator;" (.ref a_MIN)) (S_MAX : Sta Z h0 "com/example/arcwright/arcwright/model/policy/Operator" "MAX" "Lcom/example/arcwright/arcwright/model/policy/Operator;" (.ref a_MAX)) (O_ADD : own_Op Z h0 0 a_ADD) (O_SUBTRACT : own_Op Z h0 1 a_SUBTRACT) (O_MULTIPLY : own_Op Z h0 2 a_MULTIPLY) (O_DIVIDE : own_Op Z h0 3 a_DIVIDE) (O_MIN : own_Op Z h0 4 a_MIN) (O_MAX : own_Op Z h0 5 a_MAX) (SC : Sta Z h0 "java/lang/String" "COMPACT_STRINGS" "Z" (.int cs)) (hcs : ¬ cs = (0 : Int32)) (hold : ∀ (b : Addr) (cl : Cell), Z.heap[b]? = some cl → h0[b]? = some cl) (hcst : ∀ i, i ∈ [29, 31, 33, 35, 37, 39] → Jvm.Lit.constHeld Z "com/example/arcwright/arcwright/learn/gp/NodeOfPinLaw" i) (hcw : Jvm.Lit.compactW.before a0 Z = true) :
    MetFree l x (head1 (Jvm.Cond.code x code maxLocals ret :: ws) room_1) (fun a_ U_ => a_ = #[(.int qa), (.int qb)] ∧ Z.Warmed39 U_.vm ∧ U_.heap = h0 ∧ U_.vm.interned = Z.vm.interned) (fun _ _ _ _ _ => True) (fun _ U_ o_ U'_ => ∃ v_ L_, o_ = .returned v_ ∧ own_Q_law Z qa qb a_ADD a_SUBTRACT a_MULTIPLY a_DIVIDE a_MIN a_MAX cs h0 n0 v_ U'_.heap L_ ∧ ReturnedEndW U_ o_ U'_ L_ room_1.cells room_1.slots) := by
  refine MetFree.of_bodySF (plainFor_of_name own_pn_com_example_arcwright_arcwright_learn_gp_NodeOfPinLaw) hisR ?_
  intro p e s m args below meth c s₁ Bd hml0 hP hK
  obtain ⟨rfl, hZ, hh, hI⟩ := hP
  have hx := Bd.exec
  have hby := Bd.bytes
  have hlk : meth.locks = false := BodyLoose.notSynchronized Bd
  have hml : c.maxLocals = 9 := hml0
  have hown : s.vm.findClass "com/example/arcwright/arcwright/learn/gp/NodeOfPinLaw" = some m.cls := findClass_of_methodNamed Bd.named
  have hnm := (name_of_methodNamed Bd.named Bd.method).1
  have X0 : Stand p l e room_1 s m #[(.int qa), (.int qb)] below meth c s₁ [] 0 0 := Stand.of_body Bd
  have e0 : s₁.heap = h0 := by rw [← hh, Bd.state]; rfl
  have N0 := Fr.nil n0
  show own_Goes p e below (own_KS (own_Q_law Z qa qb a_ADD a_SUBTRACT a_MULTIPLY a_DIVIDE a_MIN a_MAX cs h0 n0) s room_1.cells room_1.slots) s₁ (entryFrame m #[(.int qa), (.int qb)] maxLocals)
  rw [own_ef_law]
  have K0 := Keep.refl h0 []
  refine own_by (T' := s₁) (g' := (mkF m 1 #[.val (.int qa), .val (.int qb), .unset, .unset, .unset, .unset, .unset, .unset, .unset] [(.int qa)])) (fun t_ k_ => XS.iloadN X0.here hx rfl (hb hby at_0) rfl k_) ?_
  obtain ⟨_, T1, L1, X1, hQ1, st1⟩ := own_callS X0 hx hZ (y := (⟨"com/example/arcwright/arcwright/learn/gp/NodeOfPinLaw", "index", "(I)I"⟩ : MethodName)) hown (hw _ (List.mem_of_getElem? (i := 0) rfl)) (hw _ (List.mem_of_getElem? (i := 1) rfl)) (hw _ (List.mem_of_getElem? (i := 2) rfl)) (hw _ (List.mem_of_getElem? (i := 3) rfl)) (by decide) (argsL := [(.int qa)]) (rest := []) (own_rm_idx l Z a0 hw [] qa  h0 n0 Z0 ) e0 (W := 0) (by decide) (by decide) (by decide) (by decide) (g := (mkF m 1 #[.val (.int qa), .val (.int qb), .unset, .unset, .unset, .unset, .unset, .unset, .unset] [(.int qa)])) rfl (by rw [hml]; rfl) (lenOf own_pd4 rfl) rfl (by show 2 * 0 + _ ≤ _; exact Nat.le_of_eq rfl) (hb hby at_1)
  obtain ⟨rfl, Nq1, e1⟩ := hQ1
  have N1 := Fr.app N0 Nq1
  refine st1 _ ?_
  show own_Goes p e below _ T1 (mkF m 4 #[.val (.int qa), .val (.int qb), .unset, .unset, .unset, .unset, .unset, .unset, .unset] [(.int ((qa &&& (2147483647 : Int32)) % (6 : Int32)))])
  refine own_by (T' := T1) (g' := (mkF m 5 #[.val (.int qa), .val (.int qb), .val (.int ((qa &&& (2147483647 : Int32)) % (6 : Int32))), .unset, .unset, .unset, .unset, .unset, .unset] [])) (fun t_ k_ => XS.istoreN X1.here hx rfl (hb hby at_4) rfl (l' := #[.val (.int qa), .val (.int qb), .val (.int ((qa &&& (2147483647 : Int32)) % (6 : Int32))), .unset, .unset, .unset, .unset, .unset, .unset]) rfl k_) ?_
  obtain ⟨ka, hka⟩ : ∃ z, z = ((qa &&& (2147483647 : Int32)) % (6 : Int32)) := ⟨_, rfl⟩
  rw [← hka]
  have ka1 := own_ix6 qa
  rw [← hka] at ka1
  refine own_by (T' := T1) (g' := (mkF m 6 #[.val (.int qa), .val (.int qb), .val (.int ka), .unset, .unset, .unset, .unset, .unset, .unset] [(.int qb)])) (fun t_ k_ => XS.iloadN X1.here hx rfl (hb hby at_5) rfl k_) ?_
  obtain ⟨_, T2, L2, X2, hQ2, st2⟩ := own_callS X1 hx hZ (y := (⟨"com/example/arcwright/arcwright/learn/gp/NodeOfPinLaw", "index", "(I)I"⟩ : MethodName)) hown (hw _ (List.mem_of_getElem? (i := 0) rfl)) (hw _ (List.mem_of_getElem? (i := 1) rfl)) (hw _ (List.mem_of_getElem? (i := 2) rfl)) (hw _ (List.mem_of_getElem? (i := 3) rfl)) (by decide) (argsL := [(.int qb)]) (rest := []) (own_rm_idx l Z a0 hw [] qb  h0 n0 Z0 ) e1 (W := 0) (by decide) (by decide) (by decide) (by decide) (g := (mkF m 6 #[.val (.int qa), .val (.int qb), .val (.int ka), .unset, .unset, .unset, .unset, .unset, .unset] [(.int qb)])) rfl (by rw [hml]; rfl) (lenOf own_pd4 rfl) rfl (by show 2 * 0 + _ ≤ _; exact Nat.le_of_eq rfl) (hb hby at_6)
  obtain ⟨rfl, Nq2, e2⟩ := hQ2
  have N2 := Fr.app N1 Nq2
  refine st2 _ ?_
  show own_Goes p e below _ T2 (mkF m 9 #[.val (.int qa), .val (.int qb), .val (.int ka), .unset, .unset, .unset, .unset, .unset, .unset] [(.int ((qb &&& (2147483647 : Int32)) % (6 : Int32)))])
  refine own_by (T' := T2) (g' := (mkF m 10 #[.val (.int qa), .val (.int qb), .val (.int ka), .val (.int ((qb &&& (2147483647 : Int32)) % (6 : Int32))), .unset, .unset, .unset, .unset, .unset] [])) (fun t_ k_ => XS.istoreN X2.here hx rfl (hb hby at_9) rfl (l' := #[.val (.int qa), .val (.int qb), .val (.int ka), .val (.int ((qb &&& (2147483647 : Int32)) % (6 : Int32))), .unset, .unset, .unset, .unset, .unset]) rfl k_) ?_
  obtain ⟨kb, hkb⟩ : ∃ z, z = ((qb &&& (2147483647 : Int32)) % (6 : Int32)) := ⟨_, rfl⟩
  rw [← hkb]
  have kb1 := own_ix6 qb
  rw [← hkb] at kb1
  refine own_by (T' := T2) (g' := (mkF m 11 #[.val (.int qa), .val (.int qb), .val (.int ka), .val (.int kb), .unset, .unset, .unset, .unset, .unset] [(.int ka)])) (fun t_ k_ => XS.iloadN X2.here hx rfl (hb hby at_10) rfl k_) ?_
  obtain ⟨_, T3, L3, X3, hQ3, st3⟩ := own_callS X2 hx hZ (y := (⟨"com/example/arcwright/arcwright/learn/gp/NodeOfPinLaw", "pick", "(I)Lcom/example/arcwright/arcwright/model/policy/Operator;"⟩ : MethodName)) hown (hw _ (List.mem_of_getElem? (i := 5) rfl)) (hw _ (List.mem_of_getElem? (i := 6) rfl)) (hw _ (List.mem_of_getElem? (i := 2) rfl)) (hw _ (List.mem_of_getElem? (i := 7) rfl)) (by decide) (argsL := [(.int ka)]) (rest := []) (own_rm_pick l Z a0 hw [] ka a_ADD a_SUBTRACT a_MULTIPLY a_DIVIDE a_MIN a_MAX h0 n0 Z0 S_ADD S_SUBTRACT S_MULTIPLY S_DIVIDE S_MIN S_MAX O_ADD O_SUBTRACT O_MULTIPLY O_DIVIDE O_MIN O_MAX ka1) e2 (W := 0) (by decide) (by decide) (by decide) (by decide) (g := (mkF m 11 #[.val (.int qa), .val (.int qb), .val (.int ka), .val (.int kb), .unset, .unset, .unset, .unset, .unset] [(.int ka)])) rfl (by rw [hml]; rfl) (lenOf own_pd5 rfl) rfl (by show 2 * 0 + _ ≤ _; exact Nat.le_of_eq rfl) (hb hby at_11)
  obtain ⟨opa, rfl, Nq3, e3, sya, bya, Eoa, Foa, Esa, Fca, Fva, Vba⟩ := hQ3
  have N3 := Fr.app N2 Nq3
  refine st3 _ ?_
  show own_Goes p e below _ T3 (mkF m 14 #[.val (.int qa), .val (.int qb), .val (.int ka), .val (.int kb), .unset, .unset, .unset, .unset, .unset] [(.ref opa)])
  refine own_by (T' := T3) (g' := (mkF m 16 #[.val (.int qa), .val (.int qb), .val (.int ka), .val (.int kb), .val (.ref opa), .unset, .unset, .unset, .unset] [])) (fun t_ k_ => XS.astore X3.here hx rfl (hb hby at_14) rfl rfl (l' := #[.val (.int qa), .val (.int qb), .val (.int ka), .val (.int kb), .val (.ref opa), .unset, .unset, .unset, .unset]) rfl k_) ?_
  refine own_by (T' := T3) (g' := (mkF m 17 #[.val (.int qa), .val (.int qb), .val (.int ka), .val (.int kb), .val (.ref opa), .unset, .unset, .unset, .unset] [(.int kb)])) (fun t_ k_ => XS.iloadN X3.here hx rfl (hb hby at_16) rfl k_) ?_
  obtain ⟨_, T4, L4, X4, hQ4, st4⟩ := own_callS X3 hx hZ (y := (⟨"com/example/arcwright/arcwright/learn/gp/NodeOfPinLaw", "pick", "(I)Lcom/example/arcwright/arcwright/model/policy/Operator;"⟩ : MethodName)) hown (hw _ (List.mem_of_getElem? (i := 5) rfl)) (hw _ (List.mem_of_getElem? (i := 6) rfl)) (hw _ (List.mem_of_getElem? (i := 2) rfl)) (hw _ (List.mem_of_getElem? (i := 7) rfl)) (by decide) (argsL := [(.int kb)]) (rest := []) (own_rm_pick l Z a0 hw [] kb a_ADD a_SUBTRACT a_MULTIPLY a_DIVIDE a_MIN a_MAX h0 n0 Z0 S_ADD S_SUBTRACT S_MULTIPLY S_DIVIDE S_MIN S_MAX O_ADD O_SUBTRACT O_MULTIPLY O_DIVIDE O_MIN O_MAX kb1) e3 (W := 0) (by decide) (by decide) (by decide) (by decide) (g := (mkF m 17 #[.val (.int qa), .val (.int qb), .val (.int ka), .val (.int kb), .val (.ref opa), .unset, .unset, .unset, .unset] [(.int kb)])) rfl (by rw [hml]; rfl) (lenOf own_pd5 rfl) rfl (by show 2 * 0 + _ ≤ _; exact Nat.le_of_eq rfl) (hb hby at_17)
  obtain ⟨opb, rfl, Nq4, e4, syb, byb, Eob, Fob, Esb, Fcb, Fvb, Vbb⟩ := hQ4
  have N4 := Fr.app N3 Nq4
  refine st4 _ ?_
  show own_Goes p e below _ T4 (mkF m 20 #[.val (.int qa), .val (.int qb), .val (.int ka), .val (.int kb), .val (.ref opa), .unset, .unset, .unset, .unset] [(.ref opb)])
  refine own_by (T' := T4) (g' := (mkF m 22 #[.val (.int qa), .val (.int qb), .val (.int ka), .val (.int kb), .val (.ref opa), .val (.ref opb), .unset, .unset, .unset] [])) (fun t_ k_ => XS.astore X4.here hx rfl (hb hby at_20) rfl rfl (l' := #[.val (.int qa), .val (.int qb), .val (.int ka), .val (.int kb), .val (.ref opa), .val (.ref opb), .unset, .unset, .unset]) rfl k_) ?_
  refine own_by (T' := T4) (g' := (mkF m 24 #[.val (.int qa), .val (.int qb), .val (.int ka), .val (.int kb), .val (.ref opa), .val (.ref opb), .unset, .unset, .unset] [(.ref opa)])) (fun t_ k_ => XS.aload X4.here hx rfl (hb hby at_22) rfl rfl k_) ?_
  obtain ⟨_, T5, L5, X5, hQ5, st5⟩ := own_callS X4 hx hZ (y := (⟨"com/example/arcwright/arcwright/learn/gp/Node", "of", "(Lcom/example/arcwright/arcwright/model/policy/Operator;)Lcom/example/arcwright/arcwright/learn/gp/Node;"⟩ : MethodName)) hown (hw _ (List.mem_of_getElem? (i := 13) rfl)) (hw _ (List.mem_of_getElem? (i := 14) rfl)) (hw _ (List.mem_of_getElem? (i := 15) rfl)) (hw _ (List.mem_of_getElem? (i := 16) rfl)) (by decide) (argsL := [(.ref opa)]) (rest := []) (own_rm_of l Z a0 hw [] opa sya h0 n0 Z0 Eoa Foa) e4 (W := 0) (by decide) (by decide) (by decide) (by decide) (g := (mkF m 24 #[.val (.int qa), .val (.int qb), .val (.int ka), .val (.int kb), .val (.ref opa), .val (.ref opb), .unset, .unset, .unset] [(.ref opa)])) rfl (by rw [hml]; rfl) (lenOf own_pd6 rfl) rfl (by show 2 * 0 + _ ≤ _; exact Nat.le_of_eq rfl) (hb hby at_24)
  obtain ⟨nd5, rfl, Nq5, Kq5, Eq5, Fs5, Ff5⟩ := hQ5
  have N5 := Fr.app N4 Nq5
  have f6 := own_Sta_keep S_ADD Kq5 all0
  have f7 := own_Sta_keep S_SUBTRACT Kq5 all0
  have f8 := own_Sta_keep S_MULTIPLY Kq5 all0
  have f9 := own_Sta_keep S_DIVIDE Kq5 all0
  have f10 := own_Sta_keep S_MIN Kq5 all0
  have f11 := own_Sta_keep S_MAX Kq5 all0
  have f12 := own_Sta_keep SC Kq5 all0
  have f13 := Nat.le_trans Z0 Kq5.1
  have f14 := Keep.trans K0 Kq5 all0
  have f15 := Exa.keep Eoa Kq5
  have f16 := Fld.keep Foa Kq5 nin0
  have f17 := Exa.keep Esa Kq5
  have f18 := Fld.keep Fca Kq5 nin0
  have f19 := Fld.keep Fva Kq5 nin0
  have f20 := own_Ia_keep Kq5 Vba nin0
  have f21 := Exa.keep Eob Kq5
  have f22 := Fld.keep Fob Kq5 nin0
  have f23 := Exa.keep Esb Kq5
  have f24 := Fld.keep Fcb Kq5 nin0
  have f25 := Fld.keep Fvb Kq5 nin0
  have f26 := own_Ia_keep Kq5 Vbb nin0
  refine st5 _ ?_
  show own_Goes p e below _ T5 (mkF m 27 #[.val (.int qa), .val (.int qb), .val (.int ka), .val (.int kb), .val (.ref opa), .val (.ref opb), .unset, .unset, .unset] [(.ref nd5)])
  refine own_by (T' := T5) (g' := (mkF m 29 #[.val (.int qa), .val (.int qb), .val (.int ka), .val (.int kb), .val (.ref opa), .val (.ref opb), .val (.ref nd5), .unset, .unset] [])) (fun t_ k_ => XS.astore X5.here hx rfl (hb hby at_27) rfl rfl (l' := #[.val (.int qa), .val (.int qb), .val (.int ka), .val (.int kb), .val (.ref opa), .val (.ref opb), .val (.ref nd5), .unset, .unset]) rfl k_) ?_
  refine own_by (T' := T5) (g' := (mkF m 31 #[.val (.int qa), .val (.int qb), .val (.int ka), .val (.int kb), .val (.ref opa), .val (.ref opb), .val (.ref nd5), .unset, .unset] [(.ref opb)])) (fun t_ k_ => XS.aload X5.here hx rfl (hb hby at_29) rfl rfl k_) ?_
  obtain ⟨_, T27, L27, X27, hQ27, st27⟩ := own_callS X5 hx hZ (y := (⟨"com/example/arcwright/arcwright/learn/gp/Node", "of", "(Lcom/example/arcwright/arcwright/model/policy/Operator;)Lcom/example/arcwright/arcwright/learn/gp/Node;"⟩ : MethodName)) hown (hw _ (List.mem_of_getElem? (i := 13) rfl)) (hw _ (List.mem_of_getElem? (i := 14) rfl)) (hw _ (List.mem_of_getElem? (i := 15) rfl)) (hw _ (List.mem_of_getElem? (i := 16) rfl)) (by decide) (argsL := [(.ref opb)]) (rest := []) (own_rm_of l Z a0 hw [] opb syb T5.heap n0 f13 f21 f22) rfl (W := 0) (by decide) (by decide) (by decide) (by decide) (g := (mkF m 31 #[.val (.int qa), .val (.int qb), .val (.int ka), .val (.int kb), .val (.ref opa), .val (.ref opb), .val (.ref nd5), .unset, .unset] [(.ref opb)])) rfl (by rw [hml]; rfl) (lenOf own_pd6 rfl) rfl (by show 2 * 0 + _ ≤ _; exact Nat.le_of_eq rfl) (hb hby at_31)
  obtain ⟨nd27, rfl, Nq27, Kq27, Eq27, Fs27, Ff27⟩ := hQ27
  have N27 := Fr.app N5 Nq27
  have f28 := own_Sta_keep f6 Kq27 all0
  have f29 := own_Sta_keep f7 Kq27 all0
  have f30 := own_Sta_keep f8 Kq27 all0
  have f31 := own_Sta_keep f9 Kq27 all0
  have f32 := own_Sta_keep f10 Kq27 all0
  have f33 := own_Sta_keep f11 Kq27 all0
  have f34 := own_Sta_keep f12 Kq27 all0
  have f35 := Nat.le_trans f13 Kq27.1
  have f36 := Keep.trans f14 Kq27 all0
  have f37 := Exa.keep f15 Kq27
  have f38 := Fld.keep f16 Kq27 nin0
  have f39 := Exa.keep f17 Kq27
  have f40 := Fld.keep f18 Kq27 nin0
  have f41 := Fld.keep f19 Kq27 nin0
  have f42 := own_Ia_keep Kq27 f20 nin0
  have f43 := Exa.keep f21 Kq27
  have f44 := Fld.keep f22 Kq27 nin0
  have f45 := Exa.keep f23 Kq27
  have f46 := Fld.keep f24 Kq27 nin0
  have f47 := Fld.keep f25 Kq27 nin0
  have f48 := own_Ia_keep Kq27 f26 nin0
  have f49 := Exa.keep Eq5 Kq27
  have f50 := Fld.keep Fs5 Kq27 nin0
  have f51 := Fld.keep Ff5 Kq27 nin0
  refine st27 _ ?_
  show own_Goes p e below _ T27 (mkF m 34 #[.val (.int qa), .val (.int qb), .val (.int ka), .val (.int kb), .val (.ref opa), .val (.ref opb), .val (.ref nd5), .unset, .unset] [(.ref nd27)])
  refine own_by (T' := T27) (g' := (mkF m 36 #[.val (.int qa), .val (.int qb), .val (.int ka), .val (.int kb), .val (.ref opa), .val (.ref opb), .val (.ref nd5), .val (.ref nd27), .unset] [])) (fun t_ k_ => XS.astore X27.here hx rfl (hb hby at_34) rfl rfl (l' := #[.val (.int qa), .val (.int qb), .val (.int ka), .val (.int kb), .val (.ref opa), .val (.ref opb), .val (.ref nd5), .val (.ref nd27), .unset]) rfl k_) ?_
  refine own_by (T' := T27) (g' := (mkF m 38 #[.val (.int qa), .val (.int qb), .val (.int ka), .val (.int kb), .val (.ref opa), .val (.ref opb), .val (.ref nd5), .val (.ref nd27), .unset] [(.ref nd5)])) (fun t_ k_ => XS.aload X27.here hx rfl (hb hby at_36) rfl rfl k_) ?_
  obtain ⟨_, T52, L52, X52, hQ52, st52⟩ := own_callV X27 hx hZ (y := (⟨"com/example/arcwright/arcwright/learn/gp/Node", "symbol", "()Ljava/lang/String;"⟩ : MethodName)) hown (hw _ (List.mem_of_getElem? (i := 36) rfl)) (hw _ (List.mem_of_getElem? (i := 37) rfl)) (hw _ (List.mem_of_getElem? (i := 39) rfl)) (hw _ (List.mem_of_getElem? (i := 38) rfl)) (hw _ (List.mem_of_getElem? (i := 15) rfl)) (hw _ (List.mem_of_getElem? (i := 40) rfl)) (by decide) (argsL := []) (rest := []) f49 (own_rm_ns l Z a0 hw [] nd5 sya T27.heap n0 f35 f50) rfl (W := 0) (by decide) (by decide) (by decide) (by decide) (g := (mkF m 38 #[.val (.int qa), .val (.int qb), .val (.int ka), .val (.int kb), .val (.ref opa), .val (.ref opb), .val (.ref nd5), .val (.ref nd27), .unset] [(.ref nd5)])) rfl (by rw [hml]; rfl) (lenOf own_pd0 rfl) rfl (by show 2 * 0 + _ ≤ _; exact Nat.le_of_eq rfl) (hb hby at_38)
  obtain ⟨rfl, Nq52, e52⟩ := hQ52
  have N52 := Fr.app N27 Nq52
  refine st52 _ ?_
  show own_Goes p e below _ T52 (mkF m 41 #[.val (.int qa), .val (.int qb), .val (.int ka), .val (.int kb), .val (.ref opa), .val (.ref opb), .val (.ref nd5), .val (.ref nd27), .unset] [(.ref sya)])
  refine own_by (T' := T52) (g' := (mkF m 43 #[.val (.int qa), .val (.int qb), .val (.int ka), .val (.int kb), .val (.ref opa), .val (.ref opb), .val (.ref nd5), .val (.ref nd27), .val (.ref sya)] [])) (fun t_ k_ => XS.astore X52.here hx rfl (hb hby at_41) rfl rfl (l' := #[.val (.int qa), .val (.int qb), .val (.int ka), .val (.int kb), .val (.ref opa), .val (.ref opb), .val (.ref nd5), .val (.ref nd27), .val (.ref sya)]) rfl k_) ?_
  refine own_by (T' := T52) (g' := (mkF m 45 #[.val (.int qa), .val (.int qb), .val (.int ka), .val (.int kb), .val (.ref opa), .val (.ref opb), .val (.ref nd5), .val (.ref nd27), .val (.ref sya)] [(.ref nd5)])) (fun t_ k_ => XS.aload X52.here hx rfl (hb hby at_43) rfl rfl k_) ?_
  obtain ⟨_, T53, L53, X53, hQ53, st53⟩ := own_callV X52 hx hZ (y := (⟨"com/example/arcwright/arcwright/learn/gp/Node", "function", "()Z"⟩ : MethodName)) hown (hw _ (List.mem_of_getElem? (i := 41) rfl)) (hw _ (List.mem_of_getElem? (i := 42) rfl)) (hw _ (List.mem_of_getElem? (i := 44) rfl)) (hw _ (List.mem_of_getElem? (i := 43) rfl)) (hw _ (List.mem_of_getElem? (i := 15) rfl)) (hw _ (List.mem_of_getElem? (i := 45) rfl)) (by decide) (argsL := []) (rest := []) f49 (own_rm_nf l Z a0 hw [] nd5  T27.heap n0 f35 f51) e52 (W := 0) (by decide) (by decide) (by decide) (by decide) (g := (mkF m 45 #[.val (.int qa), .val (.int qb), .val (.int ka), .val (.int kb), .val (.ref opa), .val (.ref opb), .val (.ref nd5), .val (.ref nd27), .val (.ref sya)] [(.ref nd5)])) rfl (by rw [hml]; rfl) (lenOf own_pd7 rfl) rfl (by show 2 * 0 + _ ≤ _; exact Nat.le_of_eq rfl) (hb hby at_45)
  obtain ⟨rfl, Nq53, e53⟩ := hQ53
  have N53 := Fr.app N52 Nq53
  refine st53 _ ?_
  show own_Goes p e below _ T53 (mkF m 48 #[.val (.int qa), .val (.int qb), .val (.int ka), .val (.int kb), .val (.ref opa), .val (.ref opb), .val (.ref nd5), .val (.ref nd27), .val (.ref sya)] [(.int (1 : Int32))])
  refine own_by (T' := T53) (g' := (mkF m 53 #[.val (.int qa), .val (.int qb), .val (.int ka), .val (.int kb), .val (.ref opa), .val (.ref opb), .val (.ref nd5), .val (.ref nd27), .val (.ref sya)] [])) (fun t_ k_ => XS.ifYes X53.here hx rfl (pc0 := 48) (pc' := 53) rfl (hb hby at_48) rfl ((if0 _ _).trans (feq ((by decide) : ¬ ((1 : Int32) = (0 : Int32)))).2) (by decide) (by decide) k_) ?_
  refine own_by (T' := T53) (g' := (mkF m 55 #[.val (.int qa), .val (.int qb), .val (.int ka), .val (.int kb), .val (.ref opa), .val (.ref opb), .val (.ref nd5), .val (.ref nd27), .val (.ref sya)] [(.ref sya)])) (fun t_ k_ => XS.aload X53.here hx rfl (hb hby at_53) rfl rfl k_) ?_
  refine own_by (T' := T53) (g' := (mkF m 56 #[.val (.int qa), .val (.int qb), .val (.int ka), .val (.int kb), .val (.ref opa), .val (.ref opb), .val (.ref nd5), .val (.ref nd27), .val (.ref sya)] [(.int ka), (.ref sya)])) (fun t_ k_ => XS.iloadN X53.here hx rfl (hb hby at_55) rfl k_) ?_
  obtain ⟨_, T54, L54, X54, hS54, hZ, hown, hQ54, st54⟩ := own_callSS X53 hx hZ hI (y := (⟨"com/example/arcwright/arcwright/learn/gp/NodeOfPinLaw", "expected", "(I)Ljava/lang/String;"⟩ : MethodName)) hown (hw _ (List.mem_of_getElem? (i := 46) rfl)) (hw _ (List.mem_of_getElem? (i := 47) rfl)) (hw _ (List.mem_of_getElem? (i := 2) rfl)) (hw _ (List.mem_of_getElem? (i := 48) rfl)) (by decide) (argsL := [(.int ka)]) (rest := [(.ref sya)]) (own_rm_ex l Z a0 hw [] ka T27.heap n0 f35 ka1 (own_kold hold f36) hcst hcw) e53 (W := 1) (by decide) (by decide) (by decide) (by decide) (g := (mkF m 56 #[.val (.int qa), .val (.int qb), .val (.int ka), .val (.int kb), .val (.ref opa), .val (.ref opb), .val (.ref nd5), .val (.ref nd27), .val (.ref sya)] [(.int ka), (.ref sya)])) rfl (by rw [hml]; rfl) (lenOf own_pd8 rfl) rfl (by show 2 * 0 + _ ≤ _; exact Nat.le_of_eq rfl) (hb hby at_56)
  obtain ⟨sx, bx, rfl, Nq54, Kq54, Ex_, Fcx, Fvx, Vx⟩ := hQ54
  have N54 := Fr.app N53 Nq54
  have f55 := own_Sta_keep f28 Kq54 all0
  have f56 := own_Sta_keep f29 Kq54 all0
  have f57 := own_Sta_keep f30 Kq54 all0
  have f58 := own_Sta_keep f31 Kq54 all0
  have f59 := own_Sta_keep f32 Kq54 all0
  have f60 := own_Sta_keep f33 Kq54 all0
  have f61 := own_Sta_keep f34 Kq54 all0
  have f62 := Nat.le_trans f35 Kq54.1
  have f63 := Keep.trans f36 Kq54 all0
  have f64 := Exa.keep f37 Kq54
  have f65 := Fld.keep f38 Kq54 nin0
  have f66 := Exa.keep f39 Kq54
  have f67 := Fld.keep f40 Kq54 nin0
  have f68 := Fld.keep f41 Kq54 nin0
  have f69 := own_Ia_keep Kq54 f42 nin0
  have f70 := Exa.keep f43 Kq54
  have f71 := Fld.keep f44 Kq54 nin0
  have f72 := Exa.keep f45 Kq54
  have f73 := Fld.keep f46 Kq54 nin0
  have f74 := Fld.keep f47 Kq54 nin0
  have f75 := own_Ia_keep Kq54 f48 nin0
  have f76 := Exa.keep f49 Kq54
  have f77 := Fld.keep f50 Kq54 nin0
  have f78 := Fld.keep f51 Kq54 nin0
  have f79 := Exa.keep Eq27 Kq54
  have f80 := Fld.keep Fs27 Kq54 nin0
  have f81 := Fld.keep Ff27 Kq54 nin0
  refine st54 _ ?_
  show own_Goes p e below _ T54 (mkF m 59 #[.val (.int qa), .val (.int qb), .val (.int ka), .val (.int kb), .val (.ref opa), .val (.ref opb), .val (.ref nd5), .val (.ref nd27), .val (.ref sya)] [(.ref sx), (.ref sya)])
  obtain ⟨_, T82, L82, X82, hQ82, st82⟩ := own_callV X54 hx hZ (y := (⟨"java/lang/String", "equals", "(Ljava/lang/Object;)Z"⟩ : MethodName)) hown (hw _ (List.mem_of_getElem? (i := 57) rfl)) (hw _ (List.mem_of_getElem? (i := 58) rfl)) (hw _ (List.mem_of_getElem? (i := 60) rfl)) (hw _ (List.mem_of_getElem? (i := 59) rfl)) (hw _ (List.mem_of_getElem? (i := 50) rfl)) (hw _ (List.mem_of_getElem? (i := 61) rfl)) (by decide) (argsL := [(.ref sx)]) (rest := []) f66 (own_rm_se l Z a0 hw [] sya sx bya (own_tn ka.toNatClampNeg) (own_tx ka.toNatClampNeg) bx (own_tn ka.toNatClampNeg) (own_tx ka.toNatClampNeg) cs (1 : Int32) T54.heap n0 f62 f66 f67 f68 f69 Ex_ Fcx Fvx Vx f61 hcs (own_tn_lt _) (own_tn_lt _) (own_same_refl _ _)) rfl (W := 0) (by decide) (by decide) (by decide) (by decide) (g := (mkF m 59 #[.val (.int qa), .val (.int qb), .val (.int ka), .val (.int kb), .val (.ref opa), .val (.ref opb), .val (.ref nd5), .val (.ref nd27), .val (.ref sya)] [(.ref sx), (.ref sya)])) rfl (by rw [hml]; rfl) (lenOf own_pd3 rfl) rfl (by show 2 * 0 + _ ≤ _; exact Nat.le_of_eq rfl) (hb hby at_59)
  obtain ⟨rfl, Nq82, e82⟩ := hQ82
  have N82 := Fr.app N54 Nq82
  refine st82 _ ?_
  show own_Goes p e below _ T82 (mkF m 62 #[.val (.int qa), .val (.int qb), .val (.int ka), .val (.int kb), .val (.ref opa), .val (.ref opb), .val (.ref nd5), .val (.ref nd27), .val (.ref sya)] [(.int (1 : Int32))])
  refine own_by (T' := T82) (g' := (mkF m 67 #[.val (.int qa), .val (.int qb), .val (.int ka), .val (.int kb), .val (.ref opa), .val (.ref opb), .val (.ref nd5), .val (.ref nd27), .val (.ref sya)] [])) (fun t_ k_ => XS.ifYes X82.here hx rfl (pc0 := 62) (pc' := 67) rfl (hb hby at_62) rfl ((if0 _ _).trans (feq ((by decide) : ¬ ((1 : Int32) = (0 : Int32)))).2) (by decide) (by decide) k_) ?_
  refine own_by (T' := T82) (g' := (mkF m 69 #[.val (.int qa), .val (.int qb), .val (.int ka), .val (.int kb), .val (.ref opa), .val (.ref opb), .val (.ref nd5), .val (.ref nd27), .val (.ref sya)] [(.ref sya)])) (fun t_ k_ => XS.aload X82.here hx rfl (hb hby at_67) rfl rfl k_) ?_
  refine own_by (T' := T82) (g' := (mkF m 71 #[.val (.int qa), .val (.int qb), .val (.int ka), .val (.int kb), .val (.ref opa), .val (.ref opb), .val (.ref nd5), .val (.ref nd27), .val (.ref sya)] [(.ref opa), (.ref sya)])) (fun t_ k_ => XS.aload X82.here hx rfl (hb hby at_69) rfl rfl k_) ?_
  obtain ⟨_, T83, L83, X83, hQ83, st83⟩ := own_callV X82 hx hZ (y := (⟨"com/example/arcwright/arcwright/model/policy/Operator", "symbol", "()Ljava/lang/String;"⟩ : MethodName)) hown (hw _ (List.mem_of_getElem? (i := 71) rfl)) (hw _ (List.mem_of_getElem? (i := 20) rfl)) (hw _ (List.mem_of_getElem? (i := 22) rfl)) (hw _ (List.mem_of_getElem? (i := 21) rfl)) (hw _ (List.mem_of_getElem? (i := 9) rfl)) (hw _ (List.mem_of_getElem? (i := 23) rfl)) (by decide) (argsL := []) (rest := [(.ref sya)]) f64 (own_rm_os l Z a0 hw [] opa sya T54.heap n0 f62 f65) e82 (W := 1) (by decide) (by decide) (by decide) (by decide) (g := (mkF m 71 #[.val (.int qa), .val (.int qb), .val (.int ka), .val (.int kb), .val (.ref opa), .val (.ref opb), .val (.ref nd5), .val (.ref nd27), .val (.ref sya)] [(.ref opa), (.ref sya)])) rfl (by rw [hml]; rfl) (lenOf own_pd0 rfl) rfl (by show 2 * 0 + _ ≤ _; exact Nat.le_of_eq rfl) (hb hby at_71)
  obtain ⟨rfl, Nq83, e83⟩ := hQ83
  have N83 := Fr.app N82 Nq83
  refine st83 _ ?_
  show own_Goes p e below _ T83 (mkF m 74 #[.val (.int qa), .val (.int qb), .val (.int ka), .val (.int kb), .val (.ref opa), .val (.ref opb), .val (.ref nd5), .val (.ref nd27), .val (.ref sya)] [(.ref sya), (.ref sya)])
  obtain ⟨_, T84, L84, X84, hQ84, st84⟩ := own_callV X83 hx hZ (y := (⟨"java/lang/String", "equals", "(Ljava/lang/Object;)Z"⟩ : MethodName)) hown (hw _ (List.mem_of_getElem? (i := 57) rfl)) (hw _ (List.mem_of_getElem? (i := 58) rfl)) (hw _ (List.mem_of_getElem? (i := 60) rfl)) (hw _ (List.mem_of_getElem? (i := 59) rfl)) (hw _ (List.mem_of_getElem? (i := 50) rfl)) (hw _ (List.mem_of_getElem? (i := 61) rfl)) (by decide) (argsL := [(.ref sya)]) (rest := []) f66 (own_rm_se l Z a0 hw [] sya sya bya (own_tn ka.toNatClampNeg) (own_tx ka.toNatClampNeg) bya (own_tn ka.toNatClampNeg) (own_tx ka.toNatClampNeg) cs (1 : Int32) T54.heap n0 f62 f66 f67 f68 f69 f66 f67 f68 f69 f61 hcs (own_tn_lt _) (own_tn_lt _) (own_same_refl _ _)) e83 (W := 0) (by decide) (by decide) (by decide) (by decide) (g := (mkF m 74 #[.val (.int qa), .val (.int qb), .val (.int ka), .val (.int kb), .val (.ref opa), .val (.ref opb), .val (.ref nd5), .val (.ref nd27), .val (.ref sya)] [(.ref sya), (.ref sya)])) rfl (by rw [hml]; rfl) (lenOf own_pd3 rfl) rfl (by show 2 * 0 + _ ≤ _; exact Nat.le_of_eq rfl) (hb hby at_74)
  obtain ⟨rfl, Nq84, e84⟩ := hQ84
  have N84 := Fr.app N83 Nq84
  refine st84 _ ?_
  show own_Goes p e below _ T84 (mkF m 77 #[.val (.int qa), .val (.int qb), .val (.int ka), .val (.int kb), .val (.ref opa), .val (.ref opb), .val (.ref nd5), .val (.ref nd27), .val (.ref sya)] [(.int (1 : Int32))])
  refine own_by (T' := T84) (g' := (mkF m 82 #[.val (.int qa), .val (.int qb), .val (.int ka), .val (.int kb), .val (.ref opa), .val (.ref opb), .val (.ref nd5), .val (.ref nd27), .val (.ref sya)] [])) (fun t_ k_ => XS.ifYes X84.here hx rfl (pc0 := 77) (pc' := 82) rfl (hb hby at_77) rfl ((if0 _ _).trans (feq ((by decide) : ¬ ((1 : Int32) = (0 : Int32)))).2) (by decide) (by decide) k_) ?_
  refine own_by (T' := T84) (g' := (mkF m 84 #[.val (.int qa), .val (.int qb), .val (.int ka), .val (.int kb), .val (.ref opa), .val (.ref opb), .val (.ref nd5), .val (.ref nd27), .val (.ref sya)] [(.ref nd5)])) (fun t_ k_ => XS.aload X84.here hx rfl (hb hby at_82) rfl rfl k_) ?_
  refine own_by (T' := T84) (g' := (mkF m 86 #[.val (.int qa), .val (.int qb), .val (.int ka), .val (.int kb), .val (.ref opa), .val (.ref opb), .val (.ref nd5), .val (.ref nd27), .val (.ref sya)] [(.ref nd27), (.ref nd5)])) (fun t_ k_ => XS.aload X84.here hx rfl (hb hby at_84) rfl rfl k_) ?_
  obtain ⟨_, T85, L85, X85, hQ85, st85⟩ := own_callV X84 hx hZ (y := (⟨"com/example/arcwright/arcwright/learn/gp/Node", "equals", "(Ljava/lang/Object;)Z"⟩ : MethodName)) hown (hw _ (List.mem_of_getElem? (i := 72) rfl)) (hw _ (List.mem_of_getElem? (i := 73) rfl)) (hw _ (List.mem_of_getElem? (i := 75) rfl)) (hw _ (List.mem_of_getElem? (i := 74) rfl)) (hw _ (List.mem_of_getElem? (i := 15) rfl)) (hw _ (List.mem_of_getElem? (i := 76) rfl)) (by decide) (argsL := [(.ref nd27)]) (rest := []) f76 (own_rm_neq l Z a0 hw [] nd5 nd27 sya syb bya (own_tn ka.toNatClampNeg) (own_tx ka.toNatClampNeg) byb (own_tn kb.toNatClampNeg) (own_tx kb.toNatClampNeg) cs (own_rq ka kb) T54.heap n0 f62 f76 f79 f77 f80 f66 f67 f68 f69 f72 f73 f74 f75 f61 hcs (own_tn_lt _) (own_tn_lt _) (own_rq_same ka kb ka1 kb1)) e84 (W := 0) (by decide) (by decide) (by decide) (by decide) (g := (mkF m 86 #[.val (.int qa), .val (.int qb), .val (.int ka), .val (.int kb), .val (.ref opa), .val (.ref opb), .val (.ref nd5), .val (.ref nd27), .val (.ref sya)] [(.ref nd27), (.ref nd5)])) rfl (by rw [hml]; rfl) (lenOf own_pd3 rfl) rfl (by show 2 * 0 + _ ≤ _; exact Nat.le_of_eq rfl) (hb hby at_86)
  obtain ⟨rfl, Nq85, e85⟩ := hQ85
  have N85 := Fr.app N84 Nq85
  refine st85 _ ?_
  show own_Goes p e below _ T85 (mkF m 89 #[.val (.int qa), .val (.int qb), .val (.int ka), .val (.int kb), .val (.ref opa), .val (.ref opb), .val (.ref nd5), .val (.ref nd27), .val (.ref sya)] [(.int (own_rq ka kb))])
  refine own_by (T' := T85) (g' := (mkF m 90 #[.val (.int qa), .val (.int qb), .val (.int ka), .val (.int kb), .val (.ref opa), .val (.ref opb), .val (.ref nd5), .val (.ref nd27), .val (.ref sya)] [(.int ka), (.int (own_rq ka kb))])) (fun t_ k_ => XS.iloadN X85.here hx rfl (hb hby at_89) rfl k_) ?_
  refine own_by (T' := T85) (g' := (mkF m 91 #[.val (.int qa), .val (.int qb), .val (.int ka), .val (.int kb), .val (.ref opa), .val (.ref opb), .val (.ref nd5), .val (.ref nd27), .val (.ref sya)] [(.int kb), (.int ka), (.int (own_rq ka kb))])) (fun t_ k_ => XS.iloadN X85.here hx rfl (hb hby at_90) rfl k_) ?_
  by_cases c91_86 : ka = kb
  · skip
    refine own_by (T' := T85) (g' := (mkF m 94 #[.val (.int qa), .val (.int qb), .val (.int ka), .val (.int kb), .val (.ref opa), .val (.ref opb), .val (.ref nd5), .val (.ref nd27), .val (.ref sya)] [(.int (own_rq ka kb))])) (fun t_ k_ => XS.icmpNo X85.here hx rfl (hb hby at_91) rfl (teq (c91_86 : ka = kb)).2 k_) ?_
    refine own_by (T' := T85) (g' := (mkF m 95 #[.val (.int qa), .val (.int qb), .val (.int ka), .val (.int kb), .val (.ref opa), .val (.ref opb), .val (.ref nd5), .val (.ref nd27), .val (.ref sya)] [(.int (1 : Int32)), (.int (own_rq ka kb))])) (fun t_ k_ => XS.iconst X85.here hx rfl (hb hby at_94) k_) ?_
    refine own_by (T' := T85) (g' := (mkF m 99 #[.val (.int qa), .val (.int qb), .val (.int ka), .val (.int kb), .val (.ref opa), .val (.ref opb), .val (.ref nd5), .val (.ref nd27), .val (.ref sya)] [(.int (1 : Int32)), (.int (own_rq ka kb))])) (fun t_ k_ => XS.goto X85.here hx rfl (pc0 := 95) (pc' := 99) rfl (hb hby at_95) (by decide) (by decide) k_) ?_
    refine own_by (T' := T85) (g' := (mkF m 102 #[.val (.int qa), .val (.int qb), .val (.int ka), .val (.int kb), .val (.ref opa), .val (.ref opb), .val (.ref nd5), .val (.ref nd27), .val (.ref sya)] [])) (fun t_ k_ => XS.icmpNo X85.here hx rfl (hb hby at_99) rfl (teq ((own_rq_y ka kb c91_86) : (own_rq ka kb) = (1 : Int32))).2 k_) ?_
    refine own_by (T' := T85) (g' := (mkF m 103 #[.val (.int qa), .val (.int qb), .val (.int ka), .val (.int kb), .val (.ref opa), .val (.ref opb), .val (.ref nd5), .val (.ref nd27), .val (.ref sya)] [(.int (1 : Int32))])) (fun t_ k_ => XS.iconst X85.here hx rfl (hb hby at_102) k_) ?_
    refine own_by (T' := T85) (g' := (mkF m 107 #[.val (.int qa), .val (.int qb), .val (.int ka), .val (.int kb), .val (.ref opa), .val (.ref opb), .val (.ref nd5), .val (.ref nd27), .val (.ref sya)] [(.int (1 : Int32))])) (fun t_ k_ => XS.goto X85.here hx rfl (pc0 := 103) (pc' := 107) rfl (hb hby at_103) (by decide) (by decide) k_) ?_
    refine own_retNW X85 hS54 (by rw [e85]; exact (Nat.le_refl T54.heap.size)) hx (t := .boolean) Bd.returns hlk (by simp) (hb hby at_107) (by decide) (by decide) (v := (1 : Int32)) rfl ?_
    rw [e85]
    exact ⟨rfl, N85⟩
  · skip
    refine own_by (T' := T85) (g' := (mkF m 98 #[.val (.int qa), .val (.int qb), .val (.int ka), .val (.int kb), .val (.ref opa), .val (.ref opb), .val (.ref nd5), .val (.ref nd27), .val (.ref sya)] [(.int (own_rq ka kb))])) (fun t_ k_ => XS.icmpYes X85.here hx rfl (pc0 := 91) (pc' := 98) rfl (hb hby at_91) rfl (feq (c91_86 : ¬ (ka = kb))).2 (by decide) (by decide) k_) ?_
    refine own_by (T' := T85) (g' := (mkF m 99 #[.val (.int qa), .val (.int qb), .val (.int ka), .val (.int kb), .val (.ref opa), .val (.ref opb), .val (.ref nd5), .val (.ref nd27), .val (.ref sya)] [(.int (0 : Int32)), (.int (own_rq ka kb))])) (fun t_ k_ => XS.iconst X85.here hx rfl (hb hby at_98) k_) ?_
    refine own_by (T' := T85) (g' := (mkF m 102 #[.val (.int qa), .val (.int qb), .val (.int ka), .val (.int kb), .val (.ref opa), .val (.ref opb), .val (.ref nd5), .val (.ref nd27), .val (.ref sya)] [])) (fun t_ k_ => XS.icmpNo X85.here hx rfl (hb hby at_99) rfl (teq ((own_rq_n ka kb c91_86) : (own_rq ka kb) = (0 : Int32))).2 k_) ?_
    refine own_by (T' := T85) (g' := (mkF m 103 #[.val (.int qa), .val (.int qb), .val (.int ka), .val (.int kb), .val (.ref opa), .val (.ref opb), .val (.ref nd5), .val (.ref nd27), .val (.ref sya)] [(.int (1 : Int32))])) (fun t_ k_ => XS.iconst X85.here hx rfl (hb hby at_102) k_) ?_
    refine own_by (T' := T85) (g' := (mkF m 107 #[.val (.int qa), .val (.int qb), .val (.int ka), .val (.int kb), .val (.ref opa), .val (.ref opb), .val (.ref nd5), .val (.ref nd27), .val (.ref sya)] [(.int (1 : Int32))])) (fun t_ k_ => XS.goto X85.here hx rfl (pc0 := 103) (pc' := 107) rfl (hb hby at_103) (by decide) (by decide) k_) ?_
    refine own_retNW X85 hS54 (by rw [e85]; exact (Nat.le_refl T54.heap.size)) hx (t := .boolean) Bd.returns hlk (by simp) (hb hby at_107) (by decide) (by decide) (v := (1 : Int32)) rfl ?_
    rw [e85]
    exact ⟨rfl, N85⟩
set_option maxRecDepth 65536 in
set_option maxHeartbeats 40000000 in
theorem own_comes {Post : Tables → Env → Array Value → State → Outcome → State → Prop} (hpost : ∀ tb e args s v u, (limb_1_1.after args s (.returned v) u = true ∧ limb_1_2.after args s (.returned v) u = true ∧ True) → ReturnedEndW s (.returned v) u (Jvm.fieldLocs frame_1_writes args s ++ Jvm.arrayLocs frame_1_arrays args s ++ Jvm.staticLocs frame_1_statics s) 24 6272 → Post tb e args s (.returned v) u) :
    ArmFor flags0 classFile x code maxLocals ret World_1 tables_1 room_1 Calls_1 rest_1 Pre_1 Post := by
  intro l hfl _ _ p e ha hc hk s m args below hf hA hF happ hP
  obtain ⟨hcalls, hrest, hpre⟩ := hP
  obtain ⟨-, -, -, hnamed, -, -, -, hat⟩ := (Spec.applies_iff hf).mp happ
  obtain ⟨hg, hn⟩ := and_e (Cond.before_iff.mp (show (Jvm.Cond.and given_1 narrow_1).before args s = true from hpre))
  obtain ⟨g0, gr0⟩ := and_e hg
  obtain ⟨w0, w1, rfl⟩ : ∃ w0 w1 : Value, args = #[w0, w1] := by
    have hs : args.size = 2 := by simpa [Cond.value, given_1] using g0
    obtain ⟨L⟩ := args
    match L, hs with
    | [w0, w1], _ => exact ⟨w0, w1, rfl⟩
  have hw := fun d (hd : d ∈ tables_1) => atoms_spec (ws := Jvm.Cond.code x code maxLocals ret :: tables_1) hat d (List.mem_cons_of_mem _ hd)
  have hfit : Fit s := fun {y c} hc i hi => by
    obtain ⟨ha, rfl⟩ := Array.getElem?_eq_some_iff.mp hc
    have q := List.all_eq_true.mp ((Array.all_eq_true_iff_forall_mem.mp hF) _ (Array.getElem_mem ha)) i (List.mem_range.mpr hi)
    simpa [Array.getElem?_eq_getElem hi] using q
  obtain ⟨q0, gr1⟩ := and_e gr0
  obtain ⟨i0, ei0⟩ := is_v q0
  obtain rfl : w0 = (.int i0) := Option.some.inj ei0
  obtain ⟨i1, ei1⟩ := is_v gr1
  obtain rfl : w1 = (.int i1) := Option.some.inj ei1
  obtain ⟨nc0, nr0⟩ := and_e hn
  obtain ⟨nc1, nr1⟩ := and_e nr0
  obtain ⟨nc2, nr2⟩ := and_e nr1
  obtain ⟨nc3, nr3⟩ := and_e nr2
  obtain ⟨nc4, nr4⟩ := and_e nr3
  obtain ⟨nc5, nr5⟩ := and_e nr4
  obtain ⟨nc6, nr6⟩ := and_e nr5
  obtain ⟨nc7, nr7⟩ := and_e nr6
  obtain ⟨nc8, nr8⟩ := and_e nr7
  obtain ⟨nc9, nr9⟩ := and_e nr8
  obtain ⟨nc10, nr10⟩ := and_e nr9
  obtain ⟨nc11, nr11⟩ := and_e nr10
  obtain ⟨nc12, nr12⟩ := and_e nr11
  obtain ⟨nc13, nr13⟩ := and_e nr12
  obtain ⟨nc14, nr14⟩ := and_e nr13
  obtain ⟨nc15, nr15⟩ := and_e nr14
  obtain ⟨nc16, nr16⟩ := and_e nr15
  obtain ⟨nc17, nr17⟩ := and_e nr16
  obtain ⟨nc18, nr18⟩ := and_e nr17
  obtain ⟨nc19, nr19⟩ := and_e nr18
  obtain ⟨nc20, nr20⟩ := and_e nr19
  obtain ⟨nc21, nr21⟩ := and_e nr20
  obtain ⟨nc22, nr22⟩ := and_e nr21
  obtain ⟨nc23, nr23⟩ := and_e nr22
  obtain ⟨nc24, nr24⟩ := and_e nr23
  obtain ⟨nc25, nr25⟩ := and_e nr24
  obtain ⟨nc26, nr26⟩ := and_e nr25
  obtain ⟨nc27, nr27⟩ := and_e nr26
  obtain ⟨nc28, nr28⟩ := and_e nr27
  obtain ⟨nc29, nr29⟩ := and_e nr28
  obtain ⟨nc30, nr30⟩ := and_e nr29
  obtain ⟨nc31, nr31⟩ := and_e nr30
  obtain ⟨nc32, nr32⟩ := and_e nr31
  obtain ⟨nc33, nr33⟩ := and_e nr32
  obtain ⟨nc34, nr34⟩ := and_e nr33
  obtain ⟨nc35, nr35⟩ := and_e nr34
  obtain ⟨nc36, nr36⟩ := and_e nr35
  obtain ⟨nc37, nr37⟩ := and_e nr36
  obtain ⟨nc38, nr38⟩ := and_e nr37
  obtain ⟨nc39, nr39⟩ := and_e nr38
  obtain ⟨nc40, nr40⟩ := and_e nr39
  obtain ⟨nc41, nr41⟩ := and_e nr40
  obtain ⟨nc42, nr42⟩ := and_e nr41
  obtain ⟨nc43, nr43⟩ := and_e nr42
  obtain ⟨nc44, nr44⟩ := and_e nr43
  obtain ⟨nc45, nr45⟩ := and_e nr44
  obtain ⟨nc46, nr46⟩ := and_e nr45
  obtain ⟨nc47, nr47⟩ := and_e nr46
  obtain ⟨nc48, nr48⟩ := and_e nr47
  obtain ⟨nc49, nr49⟩ := and_e nr48
  obtain ⟨nc50, nr50⟩ := and_e nr49
  obtain ⟨nc51, nr51⟩ := and_e nr50
  obtain ⟨nc52, nr52⟩ := and_e nr51
  obtain ⟨nc53, nr53⟩ := and_e nr52
  have nc54 := nr53
  obtain ⟨a_ADD, ev_ADD⟩ := exa_v nc0
  have E_ADD := Exa.start ev_ADD nc0
  have S_ADD := Sta.start ev_ADD (Or.inr ⟨(hw _ (List.mem_of_getElem? (i := 9) rfl)), (hw _ (List.mem_of_getElem? (i := 10) rfl))⟩)
  obtain ⟨y_ADD, ey_ADD⟩ := exa_v nc2
  have Ey_ADD := Exa.start ey_ADD nc2
  have Fs_ADD := Fld.start (by rw [← fld_at ev_ADD]; exact ey_ADD)
  have Fc_ADD := own_fI ey_ADD nc4
  obtain ⟨b_ADD, eb_ADD⟩ := arr_v nc5
  have Fv_ADD := Fld.start (by rw [← fld_at ey_ADD]; exact eb_ADD)
  have V_ADD : own_Ia s s.heap b_ADD .byte 1 (own_tx 0) := own_arr hfit eb_ADD nc5 nc6 (by decide) (fun i hi => by match i, hi with | 0, _ => exact nc7)
  have O_ADD : own_Op s s.heap 0 a_ADD := ⟨y_ADD, b_ADD, E_ADD, Fs_ADD, Ey_ADD, Fc_ADD, Fv_ADD, V_ADD⟩
  obtain ⟨a_SUBTRACT, ev_SUBTRACT⟩ := exa_v nc14
  have E_SUBTRACT := Exa.start ev_SUBTRACT nc14
  have S_SUBTRACT := Sta.start ev_SUBTRACT (Or.inr ⟨(hw _ (List.mem_of_getElem? (i := 9) rfl)), (hw _ (List.mem_of_getElem? (i := 82) rfl))⟩)
  obtain ⟨y_SUBTRACT, ey_SUBTRACT⟩ := exa_v nc16
  have Ey_SUBTRACT := Exa.start ey_SUBTRACT nc16
  have Fs_SUBTRACT := Fld.start (by rw [← fld_at ev_SUBTRACT]; exact ey_SUBTRACT)
  have Fc_SUBTRACT := own_fI ey_SUBTRACT nc22
  obtain ⟨b_SUBTRACT, eb_SUBTRACT⟩ := arr_v nc23
  have Fv_SUBTRACT := Fld.start (by rw [← fld_at ey_SUBTRACT]; exact eb_SUBTRACT)
  have V_SUBTRACT : own_Ia s s.heap b_SUBTRACT .byte 1 (own_tx 1) := own_arr hfit eb_SUBTRACT nc23 nc24 (by decide) (fun i hi => by match i, hi with | 0, _ => exact nc25)
  have O_SUBTRACT : own_Op s s.heap 1 a_SUBTRACT := ⟨y_SUBTRACT, b_SUBTRACT, E_SUBTRACT, Fs_SUBTRACT, Ey_SUBTRACT, Fc_SUBTRACT, Fv_SUBTRACT, V_SUBTRACT⟩
  obtain ⟨a_MULTIPLY, ev_MULTIPLY⟩ := exa_v nc13
  have E_MULTIPLY := Exa.start ev_MULTIPLY nc13
  have S_MULTIPLY := Sta.start ev_MULTIPLY (Or.inr ⟨(hw _ (List.mem_of_getElem? (i := 9) rfl)), (hw _ (List.mem_of_getElem? (i := 80) rfl))⟩)
  obtain ⟨y_MULTIPLY, ey_MULTIPLY⟩ := exa_v nc15
  have Ey_MULTIPLY := Exa.start ey_MULTIPLY nc15
  have Fs_MULTIPLY := Fld.start (by rw [← fld_at ev_MULTIPLY]; exact ey_MULTIPLY)
  have Fc_MULTIPLY := own_fI ey_MULTIPLY nc17
  obtain ⟨b_MULTIPLY, eb_MULTIPLY⟩ := arr_v nc18
  have Fv_MULTIPLY := Fld.start (by rw [← fld_at ey_MULTIPLY]; exact eb_MULTIPLY)
  have V_MULTIPLY : own_Ia s s.heap b_MULTIPLY .byte 1 (own_tx 2) := own_arr hfit eb_MULTIPLY nc18 nc19 (by decide) (fun i hi => by match i, hi with | 0, _ => exact nc20)
  have O_MULTIPLY : own_Op s s.heap 2 a_MULTIPLY := ⟨y_MULTIPLY, b_MULTIPLY, E_MULTIPLY, Fs_MULTIPLY, Ey_MULTIPLY, Fc_MULTIPLY, Fv_MULTIPLY, V_MULTIPLY⟩
  obtain ⟨a_DIVIDE, ev_DIVIDE⟩ := exa_v nc1
  have E_DIVIDE := Exa.start ev_DIVIDE nc1
  have S_DIVIDE := Sta.start ev_DIVIDE (Or.inr ⟨(hw _ (List.mem_of_getElem? (i := 9) rfl)), (hw _ (List.mem_of_getElem? (i := 12) rfl))⟩)
  obtain ⟨y_DIVIDE, ey_DIVIDE⟩ := exa_v nc3
  have Ey_DIVIDE := Exa.start ey_DIVIDE nc3
  have Fs_DIVIDE := Fld.start (by rw [← fld_at ev_DIVIDE]; exact ey_DIVIDE)
  have Fc_DIVIDE := own_fI ey_DIVIDE nc9
  obtain ⟨b_DIVIDE, eb_DIVIDE⟩ := arr_v nc10
  have Fv_DIVIDE := Fld.start (by rw [← fld_at ey_DIVIDE]; exact eb_DIVIDE)
  have V_DIVIDE : own_Ia s s.heap b_DIVIDE .byte 1 (own_tx 3) := own_arr hfit eb_DIVIDE nc10 nc11 (by decide) (fun i hi => by match i, hi with | 0, _ => exact nc12)
  have O_DIVIDE : own_Op s s.heap 3 a_DIVIDE := ⟨y_DIVIDE, b_DIVIDE, E_DIVIDE, Fs_DIVIDE, Ey_DIVIDE, Fc_DIVIDE, Fv_DIVIDE, V_DIVIDE⟩
  obtain ⟨a_MIN, ev_MIN⟩ := exa_v nc32
  have E_MIN := Exa.start ev_MIN nc32
  have S_MIN := Sta.start ev_MIN (Or.inr ⟨(hw _ (List.mem_of_getElem? (i := 9) rfl)), (hw _ (List.mem_of_getElem? (i := 87) rfl))⟩)
  obtain ⟨y_MIN, ey_MIN⟩ := exa_v nc33
  have Ey_MIN := Exa.start ey_MIN nc33
  have Fs_MIN := Fld.start (by rw [← fld_at ev_MIN]; exact ey_MIN)
  have Fc_MIN := own_fI ey_MIN nc34
  obtain ⟨b_MIN, eb_MIN⟩ := arr_v nc35
  have Fv_MIN := Fld.start (by rw [← fld_at ey_MIN]; exact eb_MIN)
  have V_MIN : own_Ia s s.heap b_MIN .byte 3 (own_tx 4) := own_arr hfit eb_MIN nc35 nc36 (by decide) (fun i hi => by match i, hi with | 0, _ => exact nc37 | 1, _ => exact nc38 | 2, _ => exact nc39)
  have O_MIN : own_Op s s.heap 4 a_MIN := ⟨y_MIN, b_MIN, E_MIN, Fs_MIN, Ey_MIN, Fc_MIN, Fv_MIN, V_MIN⟩
  obtain ⟨a_MAX, ev_MAX⟩ := exa_v nc26
  have E_MAX := Exa.start ev_MAX nc26
  have S_MAX := Sta.start ev_MAX (Or.inr ⟨(hw _ (List.mem_of_getElem? (i := 9) rfl)), (hw _ (List.mem_of_getElem? (i := 85) rfl))⟩)
  obtain ⟨y_MAX, ey_MAX⟩ := exa_v nc27
  have Ey_MAX := Exa.start ey_MAX nc27
  have Fs_MAX := Fld.start (by rw [← fld_at ev_MAX]; exact ey_MAX)
  have Fc_MAX := own_fI ey_MAX nc29
  obtain ⟨b_MAX, eb_MAX⟩ := arr_v nc30
  have Fv_MAX := Fld.start (by rw [← fld_at ey_MAX]; exact eb_MAX)
  have V_MAX : own_Ia s s.heap b_MAX .byte 3 (own_tx 5) := own_arr hfit eb_MAX nc30 nc31 (by decide) (fun i hi => by match i, hi with | 0, _ => exact nc41 | 1, _ => exact nc42 | 2, _ => exact nc43)
  have O_MAX : own_Op s s.heap 5 a_MAX := ⟨y_MAX, b_MAX, E_MAX, Fs_MAX, Ey_MAX, Fc_MAX, Fv_MAX, V_MAX⟩
  obtain ⟨hj, -⟩ := atoms_of jdkStatics_1 (show (jdkStatics_1.foldr Jvm.Cond.and restOwn_1).before _ s = true from by rw [← rest_1_c_eq]; exact hrest)
  obtain ⟨cs, ecs⟩ := is_v (Cond.before_iff.mp (hj _ (List.mem_of_getElem? (i := 1) rfl)))
  have SC := Sta.start ecs (Or.inl (hj _ (List.mem_of_getElem? (i := 0) rfl)))
  have hcs : ¬ cs = (0 : Int32) := gotF (Cond.eq_ints ecs (Term.int_eval 0)) (not_v (Cond.before_iff.mp (hj _ (List.mem_of_getElem? (i := 2) rfl))))
  have hcst : ∀ i, i ∈ [29, 31, 33, 35, 37, 39] → Jvm.Lit.constHeld s "com/example/arcwright/arcwright/learn/gp/NodeOfPinLaw" i := fun i hi => hcalls.1 ("com/example/arcwright/arcwright/learn/gp/NodeOfPinLaw", i) (by simp only [List.mem_cons, List.not_mem_nil, or_false] at hi; rcases hi with rfl | rfl | rfl | rfl | rfl | rfl <;> decide)
  obtain ⟨n, o, h1, h2, h3, _, L, rfl, ⟨rfl, N⟩, hq⟩ := own_rm_law l s _ hw tables_1 i0 i1 a_ADD a_SUBTRACT a_MULTIPLY a_DIVIDE a_MIN a_MAX cs s.heap s.heap.size (Nat.le_refl _) S_ADD S_SUBTRACT S_MULTIPLY S_DIVIDE S_MIN S_MAX O_ADD O_SUBTRACT O_MULTIPLY O_DIVIDE O_MIN O_MAX SC hcs (fun _ _ q => q) hcst (hj _ (List.mem_of_getElem? (i := 2) rfl)) p e ha hc hk s m _ below hf ((Spec.applies_iff_loose hf).mp happ).1 ⟨rfl, State.Warmed39.refl s, rfl, rfl⟩ trivial
  refine ⟨n, _, h1, h2, h3, hpost _ _ _ _ _ _ ⟨Cond.after_iff.mpr rfl, Cond.after_iff.mpr (eq_i res_at (Term.int_eval (1)) rfl), trivial⟩ ⟨hq.1, hq.2.1, hq.2.2.1, (hq.2.2.2.sift fun y hy => Or.inr (N y hy)).mono (by decide) (by decide)⟩⟩
theorem main_1_1 : Claimed_1_1 := own_comes fun _ _ _ _ _ _ h hF => ⟨h.1, hF⟩
theorem main_1_2 : Claimed_1_2 := own_comes fun _ _ _ _ _ _ h hF => ⟨h.2.1, hF⟩
end Jvm.Pilot.@@N@@
namespace Jvm.Pilot.@@N@@
open Jvm Jvm.ClassFile Sem Op Lib Jvm.Free Jvm.Stand Jvm.Pilot.@@N@@.Jvm.D
/-! MADE BY PROGRAM (witnessworld.py) out of the Statement's table words and the real class files: 19 classes; the members and pool entries that the words name. The judged class is class 1, her method 4. -/
namespace start1
open Jvm.ClassFile
def u (s : String) : CpInfo := .utf8 (stringToUtf16 s)
/-- a pool by its gaps: so many unusable entries, then the entry; so many at the end -/
def gap : Nat → List CpInfo → List CpInfo
  | 0, r => r
  | n + 1, r => .unusable :: gap n r
def poolList (es : List (Nat × CpInfo)) (last : Nat) : List CpInfo := es.foldr (fun e r => gap e.1 (e.2 :: r)) (gap last [])
def pool (es : List (Nat × CpInfo)) (last : Nat) : Array CpInfo := ⟨poolList es last⟩
def fileOf (pool : Array CpInfo) (this : Nat) (attrs : Array Attribute := #[]) (ms : Array MethodInfo := #[]) (fl : Nat := 33) (sup : Nat := 0) (ifs : Array Nat := #[]) (fds : Array FieldInfo := #[]) : ClassFile where
  minorVersion := 0
  majorVersion := 65
  constantPool := pool
  accessFlags := fl
  thisClass := this
  superClass := sup
  interfaces := ifs
  fields := fds
  methods := ms
  attributes := attrs
def plain (name : String) (sup : Option ClassId) : Class where
  name := name
  kind := .ordinary
  loader := none
  accessFlags := 33
  super := sup
  interfaces := #[]
  cf := none
  fields := #[]
  methods := #[]
  instanceTypes := #[]
  staticTypes := #[]
  resolved := #[]
  callSites := []
  init := .initialized
  statics := none
  mirror := none

def pool0 : Array CpInfo := pool [(5, u "<init>"), (0, u "()V"), (1, .class_ 10), (1, u "java/lang/Object")] 113

def k0c0 : Code := { maxStack := 0, maxLocals := 1, code := object_method_1_code, exceptionTable := #[], attributes := #[] }
def k0m0 : Method := { name := "<init>", desc := "()V", sig := { parameters := [], returnType := none }, accessFlags := 1, code := some k0c0 }
/-- java/lang/Object -/
def k0 : Class := { plain "java/lang/Object" none with
  accessFlags := 33
  interfaces := #[]
  cf := some (fileOf pool0 8 #[] #[{ accessFlags := 1, nameIndex := 5, descriptorIndex := 6, attributes := #[] }] 33 0 #[] #[])
  fields := #[]
  methods := #[k0m0]
  instanceTypes := #[]
  staticTypes := #[]
  resolved := Array.replicate 124 none
  statics := none }

def pool1 : Array CpInfo := pool [(2, .class_ 4), (1, u "java/lang/Object"), (0, u "<init>"), (0, u "()V"), (0, .integer 2147483647), (0, .fieldref 9 10), (0, .class_ 11), (0, .nameAndType 12 13), (0, u "com/example/arcwright/arcwright/model/policy/Operator"), (0, u "ADD"), (0, u "Lcom/example/arcwright/arcwright/model/policy/Operator;"), (0, .fieldref 9 15), (0, .nameAndType 16 13), (0, u "SUBTRACT"), (0, .fieldref 9 18), (0, .nameAndType 19 13), (0, u "MULTIPLY"), (0, .fieldref 9 21), (0, .nameAndType 22 13), (0, u "DIVIDE"), (0, .fieldref 9 24), (0, .nameAndType 25 13), (0, u "MIN"), (0, .fieldref 9 27), (0, .nameAndType 28 13), (0, u "MAX"), (0, .string 30), (0, u "+"), (0, .string 32), (0, u "-"), (0, .string 34), (0, u "*"), (0, .string 36), (0, u "/"), (0, .string 38), (0, u "min"), (0, .string 40), (0, u "max"), (0, .methodref 42 43), (0, .class_ 44), (0, .nameAndType 45 46), (0, u "com/example/arcwright/arcwright/learn/gp/NodeOfPinLaw"), (0, u "index"), (0, u "(I)I"), (0, .methodref 42 48), (0, .nameAndType 49 50), (0, u "pick"), (0, u "(I)Lcom/example/arcwright/arcwright/model/policy/Operator;"), (0, .methodref 52 53), (0, .class_ 54), (0, .nameAndType 55 56), (0, u "com/example/arcwright/arcwright/learn/gp/Node"), (0, u "of"), (0, u "(Lcom/example/arcwright/arcwright/model/policy/Operator;)Lcom/example/arcwright/arcwright/learn/gp/Node;"), (0, .methodref 52 58), (0, .nameAndType 59 60), (0, u "symbol"), (0, u "()Ljava/lang/String;"), (0, .methodref 52 62), (0, .nameAndType 63 64), (0, u "function"), (0, u "()Z"), (0, .methodref 42 66), (0, .nameAndType 67 68), (0, u "expected"), (0, u "(I)Ljava/lang/String;"), (0, .methodref 70 71), (0, .class_ 72), (0, .nameAndType 73 74), (0, u "java/lang/String"), (0, u "equals"), (0, u "(Ljava/lang/Object;)Z"), (0, .methodref 9 58), (0, .methodref 52 71), (3, u "law"), (0, u "(II)Z")] 2

def k1m0 : Method := { name := "<init>", desc := "()V", sig := { parameters := [], returnType := none }, accessFlags := 1, code := none }
def k1c1 : Code := { maxStack := 2, maxLocals := 1, code := method_2_code, exceptionTable := #[], attributes := #[] }
def k1m1 : Method := { name := "index", desc := "(I)I", sig := { parameters := [.int], returnType := some .int }, accessFlags := 10, code := some k1c1 }
def k1c2 : Code := { maxStack := 2, maxLocals := 1, code := method_3_code, exceptionTable := #[], attributes := #[] }
def k1m2 : Method := { name := "pick", desc := "(I)Lcom/example/arcwright/arcwright/model/policy/Operator;", sig := { parameters := [.int], returnType := some (.object "com/example/arcwright/arcwright/model/policy/Operator") }, accessFlags := 10, code := some k1c2 }
def k1c3 : Code := { maxStack := 2, maxLocals := 1, code := method_4_code, exceptionTable := #[], attributes := #[] }
def k1m3 : Method := { name := "expected", desc := "(I)Ljava/lang/String;", sig := { parameters := [.int], returnType := some (.object "java/lang/String") }, accessFlags := 10, code := some k1c3 }
def k1c4 : Code := { maxStack := 3, maxLocals := 9, code := code, exceptionTable := #[], attributes := #[] }
def k1m4 : Method := { name := "law", desc := "(II)Z", sig := { parameters := [.int, .int], returnType := some .boolean }, accessFlags := 9, code := some k1c4 }
/-- com/example/arcwright/arcwright/learn/gp/NodeOfPinLaw -/
def k1 : Class := { plain "com/example/arcwright/arcwright/learn/gp/NodeOfPinLaw" (some 0) with
  accessFlags := 49
  interfaces := #[]
  cf := some (fileOf pool1 42 #[] #[{ accessFlags := 1, nameIndex := 5, descriptorIndex := 6, attributes := #[] }, { accessFlags := 10, nameIndex := 45, descriptorIndex := 46, attributes := #[] }, { accessFlags := 10, nameIndex := 49, descriptorIndex := 50, attributes := #[] }, { accessFlags := 10, nameIndex := 67, descriptorIndex := 68, attributes := #[] }, { accessFlags := 9, nameIndex := 80, descriptorIndex := 81, attributes := #[] }] 49 2 #[] #[])
  fields := #[]
  methods := #[k1m0, k1m1, k1m2, k1m3, k1m4]
  instanceTypes := #[]
  staticTypes := #[]
  resolved := Array.replicate 84 none
  statics := none }

def pool2 : Array CpInfo := pool [(1, .class_ 2), (0, u "java/lang/constant/Constable"), (0, .class_ 4), (0, u "java/lang/Object")] 6

/-- java/lang/constant/Constable -/
def k2 : Class := { plain "java/lang/constant/Constable" (some 0) with
  accessFlags := 1537
  interfaces := #[]
  cf := some (fileOf pool2 1 #[] #[] 1537 3 #[] #[])
  fields := #[]
  methods := #[]
  instanceTypes := #[]
  staticTypes := #[]
  resolved := Array.replicate 11 none
  statics := none }

def pool3 : Array CpInfo := pool [(1, .class_ 2), (0, u "java/lang/Comparable"), (0, .class_ 4), (0, u "java/lang/Object")] 7

/-- java/lang/Comparable -/
def k3 : Class := { plain "java/lang/Comparable" (some 0) with
  accessFlags := 1537
  interfaces := #[]
  cf := some (fileOf pool3 1 #[] #[] 1537 3 #[] #[])
  fields := #[]
  methods := #[]
  instanceTypes := #[]
  staticTypes := #[]
  resolved := Array.replicate 12 none
  statics := none }

def pool4 : Array CpInfo := pool [(1, .class_ 2), (0, u "java/io/Serializable"), (0, .class_ 4), (0, u "java/lang/Object")] 2

/-- java/io/Serializable -/
def k4 : Class := { plain "java/io/Serializable" (some 0) with
  accessFlags := 1537
  interfaces := #[]
  cf := some (fileOf pool4 1 #[] #[] 1537 3 #[] #[])
  fields := #[]
  methods := #[]
  instanceTypes := #[]
  staticTypes := #[]
  resolved := Array.replicate 7 none
  statics := none }

def pool5 : Array CpInfo := pool [(2, .class_ 4), (1, u "java/lang/Enum"), (0, u "name"), (0, u "Ljava/lang/String;"), (2, u "ordinal"), (0, u "I"), (1, .class_ 14), (1, u "java/lang/Object"), (4, u "hash"), (86, .class_ 108), (1, u "java/lang/Enum$EnumDesc"), (2, .class_ 112), (0, u "java/lang/constant/Constable"), (0, .class_ 114), (0, u "java/lang/Comparable"), (0, .class_ 116), (0, u "java/io/Serializable")] 87

/-- java/lang/Enum -/
def k5 : Class := { plain "java/lang/Enum" (some 0) with
  accessFlags := 1057
  interfaces := #[2, 3, 4]
  cf := some (fileOf pool5 2 #[.nestMembers #[106]] #[] 1057 12 #[111, 113, 115] #[{ accessFlags := 18, nameIndex := 5, descriptorIndex := 6, attributes := #[] }, { accessFlags := 18, nameIndex := 9, descriptorIndex := 10, attributes := #[] }, { accessFlags := 2, nameIndex := 19, descriptorIndex := 10, attributes := #[] }])
  fields := #[{ name := "name", type := (.object "java/lang/String"), accessFlags := 18, slot := 0, constantValue := 0 }, { name := "ordinal", type := .int, accessFlags := 18, slot := 1, constantValue := 0 }, { name := "hash", type := .int, accessFlags := 2, slot := 2, constantValue := 0 }]
  methods := #[]
  instanceTypes := #[(.object "java/lang/String"), .int, .int]
  staticTypes := #[]
  resolved := Array.replicate 204 none
  statics := none }

def pool6 : Array CpInfo := pool [(1, .class_ 2), (0, u "com/example/arcwright/arcwright/model/policy/Operator"), (2, u "ADD"), (0, u "Lcom/example/arcwright/arcwright/model/policy/Operator;"), (2, u "SUBTRACT"), (2, u "MULTIPLY"), (2, u "DIVIDE"), (2, u "MIN"), (2, u "MAX"), (2, u "$VALUES"), (0, u "[Lcom/example/arcwright/arcwright/model/policy/Operator;"), (6, .class_ 34), (1, u "java/lang/Enum"), (6, .fieldref 1 42), (0, .nameAndType 43 44), (0, u "symbol"), (0, u "Ljava/lang/String;"), (48, u "()Ljava/lang/String;")] 7

def k6c0 : Code := { maxStack := 1, maxLocals := 1, code := prog_38_method_4_code, exceptionTable := #[], attributes := #[] }
def k6m0 : Method := { name := "symbol", desc := "()Ljava/lang/String;", sig := { parameters := [], returnType := some (.object "java/lang/String") }, accessFlags := 1, code := some k6c0 }
/-- com/example/arcwright/arcwright/model/policy/Operator -/
def k6 : Class := { plain "com/example/arcwright/arcwright/model/policy/Operator" (some 5) with
  accessFlags := 16433
  interfaces := #[]
  cf := some (fileOf pool6 1 #[] #[{ accessFlags := 1, nameIndex := 43, descriptorIndex := 93, attributes := #[] }] 16433 32 #[] #[{ accessFlags := 16409, nameIndex := 5, descriptorIndex := 6, attributes := #[] }, { accessFlags := 16409, nameIndex := 9, descriptorIndex := 6, attributes := #[] }, { accessFlags := 16409, nameIndex := 12, descriptorIndex := 6, attributes := #[] }, { accessFlags := 16409, nameIndex := 15, descriptorIndex := 6, attributes := #[] }, { accessFlags := 16409, nameIndex := 18, descriptorIndex := 6, attributes := #[] }, { accessFlags := 16409, nameIndex := 21, descriptorIndex := 6, attributes := #[] }, { accessFlags := 18, nameIndex := 43, descriptorIndex := 44, attributes := #[] }, { accessFlags := 4122, nameIndex := 24, descriptorIndex := 25, attributes := #[] }])
  fields := #[{ name := "ADD", type := (.object "com/example/arcwright/arcwright/model/policy/Operator"), accessFlags := 16409, slot := 0, constantValue := 0 }, { name := "SUBTRACT", type := (.object "com/example/arcwright/arcwright/model/policy/Operator"), accessFlags := 16409, slot := 1, constantValue := 0 }, { name := "MULTIPLY", type := (.object "com/example/arcwright/arcwright/model/policy/Operator"), accessFlags := 16409, slot := 2, constantValue := 0 }, { name := "DIVIDE", type := (.object "com/example/arcwright/arcwright/model/policy/Operator"), accessFlags := 16409, slot := 3, constantValue := 0 }, { name := "MIN", type := (.object "com/example/arcwright/arcwright/model/policy/Operator"), accessFlags := 16409, slot := 4, constantValue := 0 }, { name := "MAX", type := (.object "com/example/arcwright/arcwright/model/policy/Operator"), accessFlags := 16409, slot := 5, constantValue := 0 }, { name := "symbol", type := (.object "java/lang/String"), accessFlags := 18, slot := 3, constantValue := 0 }, { name := "$VALUES", type := (.array (.object "com/example/arcwright/arcwright/model/policy/Operator")), accessFlags := 4122, slot := 6, constantValue := 0 }]
  methods := #[k6m0]
  instanceTypes := #[(.object "java/lang/String"), .int, .int, (.object "java/lang/String")]
  staticTypes := #[(.object "com/example/arcwright/arcwright/model/policy/Operator"), (.object "com/example/arcwright/arcwright/model/policy/Operator"), (.object "com/example/arcwright/arcwright/model/policy/Operator"), (.object "com/example/arcwright/arcwright/model/policy/Operator"), (.object "com/example/arcwright/arcwright/model/policy/Operator"), (.object "com/example/arcwright/arcwright/model/policy/Operator"), (.array (.object "com/example/arcwright/arcwright/model/policy/Operator"))]
  resolved := Array.replicate 101 none
  statics := some 0 }

def pool7 : Array CpInfo := pool [(1, .methodref 2 3), (0, .class_ 4), (0, .nameAndType 5 6), (0, u "java/lang/Object"), (0, u "<init>"), (0, u "()V"), (0, .fieldref 8 9), (0, .class_ 10), (0, .nameAndType 11 12), (0, u "com/example/arcwright/arcwright/learn/gp/Node"), (0, u "symbol"), (0, u "Ljava/lang/String;"), (0, .fieldref 8 14), (0, .nameAndType 15 16), (0, u "function"), (0, u "Z"), (0, .methodref 18 19), (0, .class_ 20), (0, .nameAndType 11 21), (0, u "com/example/arcwright/arcwright/model/policy/Operator"), (0, u "()Ljava/lang/String;"), (0, .methodref 8 23), (0, .nameAndType 5 24), (0, u "(Ljava/lang/String;Z)V"), (23, .methodref 49 50), (0, .class_ 51), (0, .nameAndType 52 53), (0, u "java/lang/String"), (0, u "equals"), (0, u "(Ljava/lang/Object;)Z"), (6, u "of"), (0, u "(Lcom/example/arcwright/arcwright/model/policy/Operator;)Lcom/example/arcwright/arcwright/learn/gp/Node;"), (4, u "()Z")] 17

def k7c0 : Code := { maxStack := 2, maxLocals := 3, code := prog_10_method_1_code, exceptionTable := #[], attributes := #[] }
def k7m0 : Method := { name := "<init>", desc := "(Ljava/lang/String;Z)V", sig := { parameters := [(.object "java/lang/String"), .boolean], returnType := none }, accessFlags := 2, code := some k7c0 }
def k7c1 : Code := { maxStack := 4, maxLocals := 1, code := prog_10_method_2_code, exceptionTable := #[], attributes := #[] }
def k7m1 : Method := { name := "of", desc := "(Lcom/example/arcwright/arcwright/model/policy/Operator;)Lcom/example/arcwright/arcwright/learn/gp/Node;", sig := { parameters := [(.object "com/example/arcwright/arcwright/model/policy/Operator")], returnType := some (.object "com/example/arcwright/arcwright/learn/gp/Node") }, accessFlags := 9, code := some k7c1 }
def k7c2 : Code := { maxStack := 1, maxLocals := 1, code := prog_10_method_5_code, exceptionTable := #[], attributes := #[] }
def k7m2 : Method := { name := "symbol", desc := "()Ljava/lang/String;", sig := { parameters := [], returnType := some (.object "java/lang/String") }, accessFlags := 1, code := some k7c2 }
def k7c3 : Code := { maxStack := 1, maxLocals := 1, code := prog_10_method_6_code, exceptionTable := #[], attributes := #[] }
def k7m3 : Method := { name := "function", desc := "()Z", sig := { parameters := [], returnType := some .boolean }, accessFlags := 1, code := some k7c3 }
def k7c4 : Code := { maxStack := 2, maxLocals := 3, code := prog_10_method_7_code, exceptionTable := #[], attributes := #[] }
def k7m4 : Method := { name := "equals", desc := "(Ljava/lang/Object;)Z", sig := { parameters := [(.object "java/lang/Object")], returnType := some .boolean }, accessFlags := 1, code := some k7c4 }
/-- com/example/arcwright/arcwright/learn/gp/Node -/
def k7 : Class := { plain "com/example/arcwright/arcwright/learn/gp/Node" (some 0) with
  accessFlags := 33
  interfaces := #[]
  cf := some (fileOf pool7 8 #[] #[{ accessFlags := 2, nameIndex := 5, descriptorIndex := 24, attributes := #[] }, { accessFlags := 9, nameIndex := 60, descriptorIndex := 61, attributes := #[] }, { accessFlags := 1, nameIndex := 11, descriptorIndex := 21, attributes := #[] }, { accessFlags := 1, nameIndex := 15, descriptorIndex := 66, attributes := #[] }, { accessFlags := 1, nameIndex := 52, descriptorIndex := 53, attributes := #[] }] 33 2 #[] #[{ accessFlags := 18, nameIndex := 11, descriptorIndex := 12, attributes := #[] }, { accessFlags := 18, nameIndex := 15, descriptorIndex := 16, attributes := #[] }])
  fields := #[{ name := "symbol", type := (.object "java/lang/String"), accessFlags := 18, slot := 0, constantValue := 0 }, { name := "function", type := .boolean, accessFlags := 18, slot := 1, constantValue := 0 }]
  methods := #[k7m0, k7m1, k7m2, k7m3, k7m4]
  instanceTypes := #[(.object "java/lang/String"), .boolean]
  staticTypes := #[]
  resolved := Array.replicate 84 none
  statics := none }

def pool8 : Array CpInfo := pool [(2, .class_ 4), (1, u "java/lang/CharSequence"), (42, .class_ 48), (0, u "java/lang/CharSequence$1CodePointIterator"), (10, .class_ 60), (0, u "java/lang/CharSequence$1CharIterator"), (5, .class_ 67), (0, u "java/lang/Object")] 63

/-- java/lang/CharSequence -/
def k8 : Class := { plain "java/lang/CharSequence" (some 0) with
  accessFlags := 1537
  interfaces := #[]
  cf := some (fileOf pool8 2 #[.nestMembers #[47, 59]] #[] 1537 66 #[] #[])
  fields := #[]
  methods := #[]
  instanceTypes := #[]
  staticTypes := #[]
  resolved := Array.replicate 131 none
  statics := none }

def pool9 : Array CpInfo := pool [(1, .class_ 2), (0, u "java/lang/constant/ConstantDesc"), (0, .class_ 4), (0, u "java/lang/Object")] 32

/-- java/lang/constant/ConstantDesc -/
def k9 : Class := { plain "java/lang/constant/ConstantDesc" (some 0) with
  accessFlags := 1537
  interfaces := #[]
  cf := some (fileOf pool9 1 #[] #[] 1537 3 #[] #[])
  fields := #[]
  methods := #[]
  instanceTypes := #[]
  staticTypes := #[]
  resolved := Array.replicate 37 none
  statics := none }

def pool10 : Array CpInfo := pool [(2, .class_ 4), (1, u "java/lang/Object"), (0, u "<init>"), (0, u "()V"), (2, .fieldref 10 11), (0, .class_ 12), (0, .nameAndType 13 14), (0, u "java/lang/String"), (0, u "value"), (0, u "[B"), (0, .fieldref 10 16), (0, .nameAndType 17 18), (0, u "coder"), (0, u "B"), (2, u "hash"), (0, u "I"), (2, u "hashIsZero"), (0, u "Z"), (11, .fieldref 10 39), (0, .nameAndType 40 26), (0, u "COMPACT_STRINGS"), (66, .class_ 109), (1, u "java/lang/StringLatin1"), (431, .methodref 107 542), (0, .nameAndType 543 544), (0, u "equals"), (0, u "([B[B)Z"), (28, u "(Ljava/lang/Object;)Z"), (1, .class_ 576), (0, u "java/lang/CharSequence"), (22, u "CASE_INSENSITIVE_ORDER"), (0, u "Ljava/util/Comparator;"), (500, u "serialPersistentFields"), (0, u "[Ljava/io/ObjectStreamField;"), (0, .class_ 1104), (0, u "java/lang/String$CaseInsensitiveComparator"), (1, .class_ 1107), (0, u "java/io/Serializable"), (0, .class_ 1109), (0, u "java/lang/Comparable"), (0, .class_ 1111), (0, u "java/lang/constant/Constable"), (0, .class_ 1113), (0, u "java/lang/constant/ConstantDesc"), (2, u "serialVersionUID"), (0, u "J"), (3, u "REPL"), (0, u "C"), (2, u "LATIN1"), (1, u "UTF16")] 323

def k10m0 : Method := { name := "<init>", desc := "()V", sig := { parameters := [], returnType := none }, accessFlags := 1, code := none }
def k10c1 : Code := { maxStack := 2, maxLocals := 3, code := jdk_42_method_66_code, exceptionTable := #[], attributes := #[] }
def k10m1 : Method := { name := "equals", desc := "(Ljava/lang/Object;)Z", sig := { parameters := [(.object "java/lang/Object")], returnType := some .boolean }, accessFlags := 1, code := some k10c1 }
/-- java/lang/String -/
def k10 : Class := { plain "java/lang/String" (some 0) with
  accessFlags := 49
  interfaces := #[4, 3, 8, 2, 9]
  cf := some (fileOf pool10 10 #[.nestMembers #[1103]] #[{ accessFlags := 1, nameIndex := 5, descriptorIndex := 6, attributes := #[] }, { accessFlags := 1, nameIndex := 543, descriptorIndex := 573, attributes := #[] }] 49 2 #[1106, 1108, 575, 1110, 1112] #[{ accessFlags := 18, nameIndex := 13, descriptorIndex := 14, attributes := #[] }, { accessFlags := 18, nameIndex := 17, descriptorIndex := 18, attributes := #[] }, { accessFlags := 2, nameIndex := 21, descriptorIndex := 22, attributes := #[] }, { accessFlags := 2, nameIndex := 25, descriptorIndex := 26, attributes := #[] }, { accessFlags := 26, nameIndex := 1116, descriptorIndex := 1117, attributes := #[] }, { accessFlags := 24, nameIndex := 40, descriptorIndex := 26, attributes := #[] }, { accessFlags := 26, nameIndex := 1101, descriptorIndex := 1102, attributes := #[] }, { accessFlags := 26, nameIndex := 1121, descriptorIndex := 1122, attributes := #[] }, { accessFlags := 25, nameIndex := 599, descriptorIndex := 600, attributes := #[] }, { accessFlags := 24, nameIndex := 1125, descriptorIndex := 18, attributes := #[] }, { accessFlags := 24, nameIndex := 1127, descriptorIndex := 18, attributes := #[] }])
  fields := #[{ name := "value", type := (.array .byte), accessFlags := 18, slot := 0, constantValue := 0 }, { name := "coder", type := .byte, accessFlags := 18, slot := 1, constantValue := 0 }, { name := "hash", type := .int, accessFlags := 2, slot := 2, constantValue := 0 }, { name := "hashIsZero", type := .boolean, accessFlags := 2, slot := 3, constantValue := 0 }, { name := "serialVersionUID", type := .long, accessFlags := 26, slot := 0, constantValue := 0 }, { name := "COMPACT_STRINGS", type := .boolean, accessFlags := 24, slot := 1, constantValue := 0 }, { name := "serialPersistentFields", type := (.array (.object "java/io/ObjectStreamField")), accessFlags := 26, slot := 2, constantValue := 0 }, { name := "REPL", type := .char, accessFlags := 26, slot := 3, constantValue := 0 }, { name := "CASE_INSENSITIVE_ORDER", type := (.object "java/util/Comparator"), accessFlags := 25, slot := 4, constantValue := 0 }, { name := "LATIN1", type := .byte, accessFlags := 24, slot := 5, constantValue := 0 }, { name := "UTF16", type := .byte, accessFlags := 24, slot := 6, constantValue := 0 }]
  methods := #[k10m0, k10m1]
  instanceTypes := #[(.array .byte), .byte, .int, .boolean]
  staticTypes := #[.long, .boolean, (.array (.object "java/io/ObjectStreamField")), .char, (.object "java/util/Comparator"), .byte, .byte]
  resolved := Array.replicate 1451 none
  statics := some 1 }

def pool11 : Array CpInfo := pool [(4, .class_ 6), (1, u "java/lang/Object"), (0, u "<init>"), (0, u "()V"), (5, .class_ 16), (1, u "java/lang/StringLatin1"), (104, u "$assertionsDisabled"), (0, u "Z"), (98, .class_ 223), (1, u "java/lang/StringLatin1$LinesSpliterator"), (57, u "equals"), (0, u "([B[B)Z"), (107, .class_ 391), (0, u "java/lang/StringLatin1$CharsSpliterator")] 3

def k11m0 : Method := { name := "<init>", desc := "()V", sig := { parameters := [], returnType := none }, accessFlags := 0, code := none }
def k11c1 : Code := { maxStack := 3, maxLocals := 3, code := jdk_43_method_13_code, exceptionTable := #[], attributes := #[] }
def k11m1 : Method := { name := "equals", desc := "([B[B)Z", sig := { parameters := [(.array .byte), (.array .byte)], returnType := some .boolean }, accessFlags := 9, code := some k11c1 }
/-- java/lang/StringLatin1 -/
def k11 : Class := { plain "java/lang/StringLatin1" (some 0) with
  accessFlags := 48
  interfaces := #[]
  cf := some (fileOf pool11 14 #[.nestMembers #[390, 221]] #[{ accessFlags := 0, nameIndex := 7, descriptorIndex := 8, attributes := #[] }, { accessFlags := 9, nameIndex := 281, descriptorIndex := 282, attributes := #[] }] 48 4 #[] #[{ accessFlags := 4120, nameIndex := 121, descriptorIndex := 122, attributes := #[] }])
  fields := #[{ name := "$assertionsDisabled", type := .boolean, accessFlags := 4120, slot := 0, constantValue := 0 }]
  methods := #[k11m0, k11m1]
  instanceTypes := #[]
  staticTypes := #[.boolean]
  resolved := Array.replicate 395 none
  statics := none }

def pool12 : Array CpInfo := pool [(2, .class_ 4), (1, u "java/lang/Object"), (0, u "<init>"), (0, u "()V"), (17, .class_ 26), (1, u "jdk/internal/util/Preconditions"), (28, .class_ 56), (0, u "jdk/internal/util/Preconditions$4"), (57, .class_ 115), (0, u "jdk/internal/util/Preconditions$1"), (7, u "SIOOBE_FORMATTER"), (0, u "Ljava/util/function/BiFunction;"), (0, .class_ 126), (0, u "jdk/internal/util/Preconditions$2"), (3, u "AIOOBE_FORMATTER"), (0, .class_ 132), (0, u "jdk/internal/util/Preconditions$3"), (3, u "IOOBE_FORMATTER")] 57

def k12m0 : Method := { name := "<init>", desc := "()V", sig := { parameters := [], returnType := none }, accessFlags := 1, code := none }
/-- jdk/internal/util/Preconditions -/
def k12 : Class := { plain "jdk/internal/util/Preconditions" (some 0) with
  accessFlags := 33
  interfaces := #[]
  cf := some (fileOf pool12 24 #[.nestMembers #[55, 131, 125, 114]] #[{ accessFlags := 1, nameIndex := 5, descriptorIndex := 6, attributes := #[] }] 33 2 #[] #[{ accessFlags := 25, nameIndex := 123, descriptorIndex := 124, attributes := #[] }, { accessFlags := 25, nameIndex := 130, descriptorIndex := 124, attributes := #[] }, { accessFlags := 25, nameIndex := 136, descriptorIndex := 124, attributes := #[] }])
  fields := #[{ name := "SIOOBE_FORMATTER", type := (.object "java/util/function/BiFunction"), accessFlags := 25, slot := 0, constantValue := 0 }, { name := "AIOOBE_FORMATTER", type := (.object "java/util/function/BiFunction"), accessFlags := 25, slot := 1, constantValue := 0 }, { name := "IOOBE_FORMATTER", type := (.object "java/util/function/BiFunction"), accessFlags := 25, slot := 2, constantValue := 0 }]
  methods := #[k12m0]
  instanceTypes := #[]
  staticTypes := #[(.object "java/util/function/BiFunction"), (.object "java/util/function/BiFunction"), (.object "java/util/function/BiFunction")]
  resolved := Array.replicate 194 none
  statics := some 2 }

def pool13 : Array CpInfo := pool [(9, u "<init>"), (6, .class_ 18), (1, u "java/lang/Object"), (0, u "()V"), (1, .class_ 23), (1, u "jdk/internal/util/ArraysSupport"), (0, u "LOG2_ARRAY_LONG_INDEX_SCALE"), (0, u "I"), (2, u "U"), (0, u "Ljdk/internal/misc/Unsafe;"), (8, u "BIG_ENDIAN"), (0, u "Z"), (8, u "LOG2_BYTE_BIT_SIZE"), (4, u "LOG2_ARRAY_INT_INDEX_SCALE"), (54, u "JLA"), (0, u "Ljdk/internal/access/JavaLangAccess;"), (11, u "LOG2_ARRAY_BOOLEAN_INDEX_SCALE"), (9, u "LOG2_ARRAY_BYTE_INDEX_SCALE"), (5, u "LOG2_ARRAY_CHAR_INDEX_SCALE"), (5, u "LOG2_ARRAY_SHORT_INDEX_SCALE"), (18, u "LOG2_ARRAY_FLOAT_INDEX_SCALE"), (24, u "LOG2_ARRAY_DOUBLE_INDEX_SCALE"), (89, u "T_BOOLEAN"), (2, u "T_CHAR"), (1, u "T_FLOAT"), (1, u "T_DOUBLE"), (1, u "T_BYTE"), (1, u "T_SHORT"), (1, u "T_INT"), (1, u "T_LONG"), (1, u "SOFT_MAX_ARRAY_LENGTH")] 83

def k13m0 : Method := { name := "<init>", desc := "()V", sig := { parameters := [], returnType := none }, accessFlags := 2, code := none }
/-- jdk/internal/util/ArraysSupport -/
def k13 : Class := { plain "jdk/internal/util/ArraysSupport" (some 0) with
  accessFlags := 33
  interfaces := #[]
  cf := some (fileOf pool13 21 #[] #[{ accessFlags := 2, nameIndex := 9, descriptorIndex := 19, attributes := #[] }] 33 16 #[] #[{ accessFlags := 24, nameIndex := 28, descriptorIndex := 29, attributes := #[] }, { accessFlags := 26, nameIndex := 38, descriptorIndex := 39, attributes := #[] }, { accessFlags := 25, nameIndex := 121, descriptorIndex := 25, attributes := #[] }, { accessFlags := 25, nameIndex := 131, descriptorIndex := 25, attributes := #[] }, { accessFlags := 25, nameIndex := 137, descriptorIndex := 25, attributes := #[] }, { accessFlags := 25, nameIndex := 143, descriptorIndex := 25, attributes := #[] }, { accessFlags := 25, nameIndex := 53, descriptorIndex := 25, attributes := #[] }, { accessFlags := 25, nameIndex := 24, descriptorIndex := 25, attributes := #[] }, { accessFlags := 25, nameIndex := 162, descriptorIndex := 25, attributes := #[] }, { accessFlags := 25, nameIndex := 187, descriptorIndex := 25, attributes := #[] }, { accessFlags := 26, nameIndex := 48, descriptorIndex := 25, attributes := #[] }, { accessFlags := 25, nameIndex := 277, descriptorIndex := 25, attributes := #[] }, { accessFlags := 25, nameIndex := 280, descriptorIndex := 25, attributes := #[] }, { accessFlags := 25, nameIndex := 282, descriptorIndex := 25, attributes := #[] }, { accessFlags := 25, nameIndex := 284, descriptorIndex := 25, attributes := #[] }, { accessFlags := 25, nameIndex := 286, descriptorIndex := 25, attributes := #[] }, { accessFlags := 25, nameIndex := 288, descriptorIndex := 25, attributes := #[] }, { accessFlags := 25, nameIndex := 290, descriptorIndex := 25, attributes := #[] }, { accessFlags := 25, nameIndex := 292, descriptorIndex := 25, attributes := #[] }, { accessFlags := 26, nameIndex := 108, descriptorIndex := 109, attributes := #[] }, { accessFlags := 25, nameIndex := 294, descriptorIndex := 25, attributes := #[] }])
  fields := #[{ name := "U", type := (.object "jdk/internal/misc/Unsafe"), accessFlags := 24, slot := 0, constantValue := 0 }, { name := "BIG_ENDIAN", type := .boolean, accessFlags := 26, slot := 1, constantValue := 0 }, { name := "LOG2_ARRAY_BOOLEAN_INDEX_SCALE", type := .int, accessFlags := 25, slot := 2, constantValue := 0 }, { name := "LOG2_ARRAY_BYTE_INDEX_SCALE", type := .int, accessFlags := 25, slot := 3, constantValue := 0 }, { name := "LOG2_ARRAY_CHAR_INDEX_SCALE", type := .int, accessFlags := 25, slot := 4, constantValue := 0 }, { name := "LOG2_ARRAY_SHORT_INDEX_SCALE", type := .int, accessFlags := 25, slot := 5, constantValue := 0 }, { name := "LOG2_ARRAY_INT_INDEX_SCALE", type := .int, accessFlags := 25, slot := 6, constantValue := 0 }, { name := "LOG2_ARRAY_LONG_INDEX_SCALE", type := .int, accessFlags := 25, slot := 7, constantValue := 0 }, { name := "LOG2_ARRAY_FLOAT_INDEX_SCALE", type := .int, accessFlags := 25, slot := 8, constantValue := 0 }, { name := "LOG2_ARRAY_DOUBLE_INDEX_SCALE", type := .int, accessFlags := 25, slot := 9, constantValue := 0 }, { name := "LOG2_BYTE_BIT_SIZE", type := .int, accessFlags := 26, slot := 10, constantValue := 0 }, { name := "T_BOOLEAN", type := .int, accessFlags := 25, slot := 11, constantValue := 0 }, { name := "T_CHAR", type := .int, accessFlags := 25, slot := 12, constantValue := 0 }, { name := "T_FLOAT", type := .int, accessFlags := 25, slot := 13, constantValue := 0 }, { name := "T_DOUBLE", type := .int, accessFlags := 25, slot := 14, constantValue := 0 }, { name := "T_BYTE", type := .int, accessFlags := 25, slot := 15, constantValue := 0 }, { name := "T_SHORT", type := .int, accessFlags := 25, slot := 16, constantValue := 0 }, { name := "T_INT", type := .int, accessFlags := 25, slot := 17, constantValue := 0 }, { name := "T_LONG", type := .int, accessFlags := 25, slot := 18, constantValue := 0 }, { name := "JLA", type := (.object "jdk/internal/access/JavaLangAccess"), accessFlags := 26, slot := 19, constantValue := 0 }, { name := "SOFT_MAX_ARRAY_LENGTH", type := .int, accessFlags := 25, slot := 20, constantValue := 0 }]
  methods := #[k13m0]
  instanceTypes := #[]
  staticTypes := #[(.object "jdk/internal/misc/Unsafe"), .boolean, .int, .int, .int, .int, .int, .int, .int, .int, .int, .int, .int, .int, .int, .int, .int, .int, .int, (.object "jdk/internal/access/JavaLangAccess"), .int]
  resolved := Array.replicate 378 none
  statics := none }

def pool14 : Array CpInfo := pool [(1, u "java/lang/Cloneable"), (0, .class_ 1), (0, u "java/lang/Object"), (0, .class_ 3)] 3

/-- java/lang/Cloneable -/
def k14 : Class := { plain "java/lang/Cloneable" (some 0) with
  accessFlags := 1537
  interfaces := #[]
  cf := some (fileOf pool14 2 #[] #[] 1537 4 #[] #[])
  fields := #[]
  methods := #[]
  instanceTypes := #[]
  staticTypes := #[]
  resolved := Array.replicate 8 none
  statics := none }

/-- the primitive byte -/
def k15 : Class := { plain "byte" none with kind := .primitive 'B', accessFlags := 0x411 }
/-- [B -/
def k16 : Class := { plain "[B" (some 0) with kind := .array 15 .byte, interfaces := #[14, 4], accessFlags := 1041 }

/-- the primitive int -/
def k17 : Class := { plain "int" none with kind := .primitive 'I', accessFlags := 0x411 }
/-- [I -/
def k18 : Class := { plain "[I" (some 0) with kind := .array 17 .int, interfaces := #[14, 4], accessFlags := 1041 }

def heap : Heap := #[{ cls := 6, slots := #[.ref 15, .ref 16, .ref 17, .ref 18, .ref 19, .ref 20, .null], vm := .statics 6 },
  { cls := 10, slots := #[.long 0, .int 1, .null, .int 0, .null, .int 0, .int 0], vm := .statics 10 },
  { cls := 12, slots := #[.null, .null, .null], vm := .statics 12 },
  { cls := 16, slots := #[.int 43], vm := .none },
  { cls := 16, slots := #[.int 45], vm := .none },
  { cls := 16, slots := #[.int 42], vm := .none },
  { cls := 16, slots := #[.int 47], vm := .none },
  { cls := 16, slots := #[.int 109, .int 105, .int 110], vm := .none },
  { cls := 16, slots := #[.int 109, .int 97, .int 120], vm := .none },
  { cls := 10, slots := #[.ref 3, .int 0, .int 0, .int 0], vm := .none },
  { cls := 10, slots := #[.ref 4, .int 0, .int 0, .int 0], vm := .none },
  { cls := 10, slots := #[.ref 5, .int 0, .int 0, .int 0], vm := .none },
  { cls := 10, slots := #[.ref 6, .int 0, .int 0, .int 0], vm := .none },
  { cls := 10, slots := #[.ref 7, .int 0, .int 0, .int 0], vm := .none },
  { cls := 10, slots := #[.ref 8, .int 0, .int 0, .int 0], vm := .none },
  { cls := 6, slots := #[.null, .int 0, .int 0, .ref 9], vm := .none },
  { cls := 6, slots := #[.null, .int 1, .int 0, .ref 10], vm := .none },
  { cls := 6, slots := #[.null, .int 2, .int 0, .ref 11], vm := .none },
  { cls := 6, slots := #[.null, .int 3, .int 0, .ref 12], vm := .none },
  { cls := 6, slots := #[.null, .int 4, .int 0, .ref 13], vm := .none },
  { cls := 6, slots := #[.null, .int 5, .int 0, .ref 14], vm := .none }]
def classes : Array Class := #[k0, k1, k2, k3, k4, k5, k6, k7, k8, k9, k10, k11, k12, k13, k14, k15, k16, k17, k18]
def interned : List (Array UInt16 × Addr) := []
def slotsUsed : Nat := 75
def theMethod : MethodId := ⟨1, 4⟩
def args0 : Array Value := #[.int 5, .int 7]
def aboutOver (below : List Frame) : State where
  vm := { classes := classes, interned := interned.toArray }
  heap := heap
  slotsUsed := slotsUsed
  threads := #[{ frames := .invoking theMethod args0 :: below }]
def below0 : List Frame := [.native { method := ⟨0, 0⟩, args := #[] }]
def about1 : State := aboutOver below0
def p0 : Program := .bare "" "" ""
def e0 : Env := launch0.env 0 0 0
theorem w_frames : about1.frames = Frame.invoking theMethod args0 :: below0 := rfl
set_option maxRecDepth 65536 in
theorem w_args : argsFit about1.vm theMethod args0 = true := by decide +kernel
set_option maxRecDepth 65536 in
theorem w_heap : heapFits about1 = true := by decide +kernel
set_option maxRecDepth 65536 in
theorem w_runnable : about1.curStatus? = some .runnable := by decide +kernel
set_option maxRecDepth 65536 in
theorem w_alone : about1.alone = true := by decide +kernel
set_option maxRecDepth 65536 in
theorem w_named : about1.methodNamed? x = some theMethod := by decide +kernel
set_option maxRecDepth 65536 in
theorem w_hears : about1.hears theMethod below0 = true := by decide +kernel
set_option maxRecDepth 65536 in
theorem w_ripe : about1.ripe theMethod args0 below0 = true := by decide +kernel
theorem w_running : about1.status = .running := rfl
set_option maxRecDepth 65536 in
theorem w_room : about1.hasRoom e0.platform room_1 = true :=
  launch0.hasRoom_least _ room_1 (by decide +kernel) (by decide +kernel) (by decide +kernel) (by decide +kernel) (by decide +kernel) (by decide +kernel)
theorem allAtoms_all (ts : List Jvm.Cond) (a : Array Jvm.Value) (st : Jvm.State) : (allAtoms ts).before a st = ts.all (fun c => c.before a st) := by
  induction ts with
  | nil => rfl
  | cons c t ih =>
    show (Jvm.Cond.and c (allAtoms t)).before a st = _
    rw [Jvm.Cond.before_and, ih, List.all_cons]
def words1 : List Jvm.Cond := Jvm.Cond.code x code maxLocals ret :: tables_1
/-- a 'code' word, met by the world's own term for the bytes: nothing is compared byte by byte -/
theorem code_word {y : MethodName} {bytes : ByteArray} {mx : Nat} {rt : Option FieldType} {a : Array Value} {s : State} {m : MethodId} {meth : Method} {c : Code} (h1 : s.methodNamed? y = some m) (h2 : s.vm.method? m = some meth) (h3 : meth.code = some c) (h4 : c.code = bytes)
    (h5 : (c.maxLocals == mx && c.exceptionTable.isEmpty && decide (c.maxStack ≤ mostOperands) && decide (meth.sig.returnType = rt) && !meth.locks && decide (parseMethodDescriptor y.desc = some meth.sig)) = true) : (Jvm.Cond.code y bytes mx rt).before a s = true := by
  simp only [Bool.and_eq_true, beq_iff_eq, Bool.not_eq_true', decide_eq_true_eq] at h5
  obtain ⟨⟨⟨⟨⟨g1, g2⟩, g3⟩, g4⟩, g5⟩, g6⟩ := h5
  simp [Cond.before, Cond.holds, Cond.value, h1, h2, h3, h4, g1, g2, g3, g4, g5, g6]
def isCode : Jvm.Cond → Bool
  | .code _ _ _ _ => true
  | _ => false
theorem all_split {L : List Jvm.Cond} {P : Jvm.Cond → Bool} (h1 : L.all (fun c => isCode c || P c) = true) (h2 : ∀ c ∈ L.filter isCode, P c = true) : L.all P = true := by
  refine List.all_eq_true.mpr fun c hc => ?_
  have h := List.all_eq_true.mp h1 c hc
  rcases Bool.eq_false_or_eq_true (isCode c) with hi | hi
  · exact h2 c (List.mem_filter.mpr ⟨hc, hi⟩)
  · simpa [hi] using h
set_option maxRecDepth 65536 in
theorem w_c0 : (Jvm.Cond.code x code maxLocals ret).before args0 about1 = true := code_word (m := ⟨1, 4⟩) (meth := k1m4) (c := k1c4) (by decide +kernel) rfl rfl rfl (by decide +kernel)
set_option maxRecDepth 65536 in
theorem w_c1 : (Jvm.Cond.code ({ cls := "com/example/arcwright/arcwright/learn/gp/NodeOfPinLaw", name := "index", desc := "(I)I" } : Jvm.MethodName) method_2_code (1 : Nat) (Option.some Jvm.ClassFile.FieldType.int)).before args0 about1 = true := code_word (m := ⟨1, 1⟩) (meth := k1m1) (c := k1c1) (by decide +kernel) rfl rfl rfl (by decide +kernel)
set_option maxRecDepth 65536 in
theorem w_c2 : (Jvm.Cond.code ({ cls := "com/example/arcwright/arcwright/learn/gp/NodeOfPinLaw", name := "pick", desc := "(I)Lcom/example/arcwright/arcwright/model/policy/Operator;" } : Jvm.MethodName) method_3_code (1 : Nat) (Option.some (Jvm.ClassFile.FieldType.object "com/example/arcwright/arcwright/model/policy/Operator"))).before args0 about1 = true := code_word (m := ⟨1, 2⟩) (meth := k1m2) (c := k1c2) (by decide +kernel) rfl rfl rfl (by decide +kernel)
set_option maxRecDepth 65536 in
theorem w_c3 : (Jvm.Cond.code ({ cls := "com/example/arcwright/arcwright/learn/gp/Node", name := "of", desc := "(Lcom/example/arcwright/arcwright/model/policy/Operator;)Lcom/example/arcwright/arcwright/learn/gp/Node;" } : Jvm.MethodName) prog_10_method_2_code (1 : Nat) (Option.some (Jvm.ClassFile.FieldType.object "com/example/arcwright/arcwright/learn/gp/Node"))).before args0 about1 = true := code_word (m := ⟨7, 1⟩) (meth := k7m1) (c := k7c1) (by decide +kernel) rfl rfl rfl (by decide +kernel)
set_option maxRecDepth 65536 in
theorem w_c4 : (Jvm.Cond.code ({ cls := "com/example/arcwright/arcwright/model/policy/Operator", name := "symbol", desc := "()Ljava/lang/String;" } : Jvm.MethodName) prog_38_method_4_code (1 : Nat) (Option.some (Jvm.ClassFile.FieldType.object "java/lang/String"))).before args0 about1 = true := code_word (m := ⟨6, 0⟩) (meth := k6m0) (c := k6c0) (by decide +kernel) rfl rfl rfl (by decide +kernel)
set_option maxRecDepth 65536 in
theorem w_c5 : (Jvm.Cond.code ({ cls := "com/example/arcwright/arcwright/learn/gp/Node", name := "<init>", desc := "(Ljava/lang/String;Z)V" } : Jvm.MethodName) prog_10_method_1_code (3 : Nat) (Option.none : Option Jvm.ClassFile.FieldType)).before args0 about1 = true := code_word (m := ⟨7, 0⟩) (meth := k7m0) (c := k7c0) (by decide +kernel) rfl rfl rfl (by decide +kernel)
set_option maxRecDepth 65536 in
theorem w_c6 : (Jvm.Cond.code ({ cls := "java/lang/Object", name := "<init>", desc := "()V" } : Jvm.MethodName) object_method_1_code (1 : Nat) (Option.none : Option Jvm.ClassFile.FieldType)).before args0 about1 = true := code_word (m := ⟨0, 0⟩) (meth := k0m0) (c := k0c0) (by decide +kernel) rfl rfl rfl (by decide +kernel)
set_option maxRecDepth 65536 in
theorem w_c7 : (Jvm.Cond.code ({ cls := "com/example/arcwright/arcwright/learn/gp/Node", name := "symbol", desc := "()Ljava/lang/String;" } : Jvm.MethodName) prog_10_method_5_code (1 : Nat) (Option.some (Jvm.ClassFile.FieldType.object "java/lang/String"))).before args0 about1 = true := code_word (m := ⟨7, 2⟩) (meth := k7m2) (c := k7c2) (by decide +kernel) rfl rfl rfl (by decide +kernel)
set_option maxRecDepth 65536 in
theorem w_c8 : (Jvm.Cond.code ({ cls := "com/example/arcwright/arcwright/learn/gp/Node", name := "function", desc := "()Z" } : Jvm.MethodName) prog_10_method_6_code (1 : Nat) (Option.some Jvm.ClassFile.FieldType.boolean)).before args0 about1 = true := code_word (m := ⟨7, 3⟩) (meth := k7m3) (c := k7c3) (by decide +kernel) rfl rfl rfl (by decide +kernel)
set_option maxRecDepth 65536 in
theorem w_c9 : (Jvm.Cond.code ({ cls := "com/example/arcwright/arcwright/learn/gp/NodeOfPinLaw", name := "expected", desc := "(I)Ljava/lang/String;" } : Jvm.MethodName) method_4_code (1 : Nat) (Option.some (Jvm.ClassFile.FieldType.object "java/lang/String"))).before args0 about1 = true := code_word (m := ⟨1, 3⟩) (meth := k1m3) (c := k1c3) (by decide +kernel) rfl rfl rfl (by decide +kernel)
set_option maxRecDepth 65536 in
theorem w_c10 : (Jvm.Cond.code ({ cls := "java/lang/String", name := "equals", desc := "(Ljava/lang/Object;)Z" } : Jvm.MethodName) jdk_42_method_66_code (3 : Nat) (Option.some Jvm.ClassFile.FieldType.boolean)).before args0 about1 = true := code_word (m := ⟨10, 1⟩) (meth := k10m1) (c := k10c1) (by decide +kernel) rfl rfl rfl (by decide +kernel)
set_option maxRecDepth 65536 in
theorem w_c11 : (Jvm.Cond.code ({ cls := "java/lang/StringLatin1", name := "equals", desc := "([B[B)Z" } : Jvm.MethodName) jdk_43_method_13_code (3 : Nat) (Option.some Jvm.ClassFile.FieldType.boolean)).before args0 about1 = true := code_word (m := ⟨11, 1⟩) (meth := k11m1) (c := k11c1) (by decide +kernel) rfl rfl rfl (by decide +kernel)
set_option maxRecDepth 65536 in
theorem w_c12 : (Jvm.Cond.code ({ cls := "com/example/arcwright/arcwright/learn/gp/Node", name := "equals", desc := "(Ljava/lang/Object;)Z" } : Jvm.MethodName) prog_10_method_7_code (3 : Nat) (Option.some Jvm.ClassFile.FieldType.boolean)).before args0 about1 = true := code_word (m := ⟨7, 4⟩) (meth := k7m4) (c := k7c4) (by decide +kernel) rfl rfl rfl (by decide +kernel)
def codes1 : List Jvm.Cond := [Jvm.Cond.code x code maxLocals ret, Jvm.Cond.code ({ cls := "com/example/arcwright/arcwright/learn/gp/NodeOfPinLaw", name := "index", desc := "(I)I" } : Jvm.MethodName) method_2_code (1 : Nat) (Option.some Jvm.ClassFile.FieldType.int), Jvm.Cond.code ({ cls := "com/example/arcwright/arcwright/learn/gp/NodeOfPinLaw", name := "pick", desc := "(I)Lcom/example/arcwright/arcwright/model/policy/Operator;" } : Jvm.MethodName) method_3_code (1 : Nat) (Option.some (Jvm.ClassFile.FieldType.object "com/example/arcwright/arcwright/model/policy/Operator")), Jvm.Cond.code ({ cls := "com/example/arcwright/arcwright/learn/gp/Node", name := "of", desc := "(Lcom/example/arcwright/arcwright/model/policy/Operator;)Lcom/example/arcwright/arcwright/learn/gp/Node;" } : Jvm.MethodName) prog_10_method_2_code (1 : Nat) (Option.some (Jvm.ClassFile.FieldType.object "com/example/arcwright/arcwright/learn/gp/Node")), Jvm.Cond.code ({ cls := "com/example/arcwright/arcwright/model/policy/Operator", name := "symbol", desc := "()Ljava/lang/String;" } : Jvm.MethodName) prog_38_method_4_code (1 : Nat) (Option.some (Jvm.ClassFile.FieldType.object "java/lang/String")), Jvm.Cond.code ({ cls := "com/example/arcwright/arcwright/learn/gp/Node", name := "<init>", desc := "(Ljava/lang/String;Z)V" } : Jvm.MethodName) prog_10_method_1_code (3 : Nat) (Option.none : Option Jvm.ClassFile.FieldType), Jvm.Cond.code ({ cls := "java/lang/Object", name := "<init>", desc := "()V" } : Jvm.MethodName) object_method_1_code (1 : Nat) (Option.none : Option Jvm.ClassFile.FieldType), Jvm.Cond.code ({ cls := "com/example/arcwright/arcwright/learn/gp/Node", name := "symbol", desc := "()Ljava/lang/String;" } : Jvm.MethodName) prog_10_method_5_code (1 : Nat) (Option.some (Jvm.ClassFile.FieldType.object "java/lang/String")), Jvm.Cond.code ({ cls := "com/example/arcwright/arcwright/learn/gp/Node", name := "function", desc := "()Z" } : Jvm.MethodName) prog_10_method_6_code (1 : Nat) (Option.some Jvm.ClassFile.FieldType.boolean), Jvm.Cond.code ({ cls := "com/example/arcwright/arcwright/learn/gp/NodeOfPinLaw", name := "expected", desc := "(I)Ljava/lang/String;" } : Jvm.MethodName) method_4_code (1 : Nat) (Option.some (Jvm.ClassFile.FieldType.object "java/lang/String")), Jvm.Cond.code ({ cls := "java/lang/String", name := "equals", desc := "(Ljava/lang/Object;)Z" } : Jvm.MethodName) jdk_42_method_66_code (3 : Nat) (Option.some Jvm.ClassFile.FieldType.boolean), Jvm.Cond.code ({ cls := "java/lang/StringLatin1", name := "equals", desc := "([B[B)Z" } : Jvm.MethodName) jdk_43_method_13_code (3 : Nat) (Option.some Jvm.ClassFile.FieldType.boolean), Jvm.Cond.code ({ cls := "com/example/arcwright/arcwright/learn/gp/Node", name := "equals", desc := "(Ljava/lang/Object;)Z" } : Jvm.MethodName) prog_10_method_7_code (3 : Nat) (Option.some Jvm.ClassFile.FieldType.boolean)]
set_option maxRecDepth 65536 in
theorem codes_eq : words1.filter isCode = codes1 := rfl
theorem w_codes : ∀ c ∈ words1.filter isCode, c.before args0 about1 = true := by
  rw [codes_eq]
  intro c hc
  simp only [codes1, List.mem_cons, List.not_mem_nil, or_false] at hc
  rcases hc with rfl | rfl | rfl | rfl | rfl | rfl | rfl | rfl | rfl | rfl | rfl | rfl | rfl
  · exact w_c0
  · exact w_c1
  · exact w_c2
  · exact w_c3
  · exact w_c4
  · exact w_c5
  · exact w_c6
  · exact w_c7
  · exact w_c8
  · exact w_c9
  · exact w_c10
  · exact w_c11
  · exact w_c12
set_option maxRecDepth 65536 in
theorem w_t1 : (words1.take 24).all (fun c => isCode c || c.before args0 about1) = true := by decide +kernel
set_option maxRecDepth 65536 in
theorem w_t2 : ((words1.drop 24).take 24).all (fun c => isCode c || c.before args0 about1) = true := by decide +kernel
set_option maxRecDepth 65536 in
theorem w_t3 : (((words1.drop 24).drop 24).take 24).all (fun c => isCode c || c.before args0 about1) = true := by decide +kernel
set_option maxRecDepth 65536 in
theorem w_t4 : (((words1.drop 24).drop 24).drop 24).all (fun c => isCode c || c.before args0 about1) = true := by decide +kernel
theorem w_tables : (allAtoms (Jvm.Cond.code x code maxLocals ret :: tables_1)).before args0 about1 = true := by
  rw [allAtoms_all]
  show words1.all (fun c => c.before args0 about1) = true
  refine all_split ?_ w_codes
  rw [← List.take_append_drop 24 words1, List.all_append, w_t1, ← List.take_append_drop 24 (words1.drop 24), List.all_append, w_t2, ← List.take_append_drop 24 ((words1.drop 24).drop 24), List.all_append, w_t3, w_t4]
  rfl
set_option maxRecDepth 65536 in
theorem w_rest : rest_1_c.before args0 about1 = true := by decide +kernel
set_option maxRecDepth 65536 in
theorem w_case : (Jvm.Cond.and given_1 narrow_1).before args0 about1 = true := by decide +kernel
set_option maxRecDepth 65536 in
theorem w_consts : constsHeld consts_1 about1 := Jvm.Lit.constsHeldB_iff.mp (by decide +kernel)
theorem w_applies : (headSpec (Jvm.Cond.code x code maxLocals ret :: tables_1) room_1).applies x e0.platform about1 = true :=
  (Spec.applies_iff w_frames).mpr ⟨w_running, w_runnable, w_alone, w_named, w_hears, w_ripe, w_room, w_tables⟩
theorem atStart : AtStart classFile x code maxLocals ret World_1 tables_1 room_1 Calls_1 rest_1 Pre_1 launch0 p0 e0 about1 theMethod args0 below0 :=
  ⟨lists_1, trivial, launch0.admits_env _ _ _, launch0.least_env, fairChoices_fair.cas, fairChoices_fair.clock, w_frames, w_args, w_heap, w_applies, ⟨w_consts, trivial⟩, w_rest, w_case⟩
end start1
theorem witness_1 : WitnessClaimed_1 := ⟨start1.p0, start1.e0, start1.about1, start1.theMethod, start1.args0, start1.below0, start1.atStart⟩
end Jvm.Pilot.@@N@@
