import JvmDerived
import JvmDerived.Pilot.@@N@@Statement
import JvmDerived.Pilot.@@N@@Code
set_option linter.unusedVariables false
set_option linter.unusedSimpArgs false
namespace Jvm.Pilot.@@N@@
open Jvm Jvm.ClassFile Sem Op Lib Jvm.Free Jvm.Stand Jvm.LawKit Jvm.RoadKit Bundle Jvm.Pilot.@@N@@.Jvm.D
/-! A walk in the backward style: 'own_Goes K T g': from the frame g over T the run comes to an end of which K holds. -/
def own_Goes (p : Program) (e : Env) (below : List Frame) (K : Outcome → State → Prop) (T : State) (g : JFrame) : Prop :=
  ∃ s₂ o, Steps p.tables e below (T.setTop g) s₂ ∧ s₂.status = .running ∧ Ended s₂ below o ∧ K o s₂
def own_K (Q : Option Value → Heap → List Loc → Prop) (U : State) (C S : Nat) : Outcome → State → Prop :=
  fun o U' => ∃ v L, o = .returned v ∧ Q v U'.heap L ∧ FrameEnd U o U' L C S
section OwnKit
variable {p : Program} {l : Launch} {e : Env} {R : Room} {s : State} {m : MethodId} {args : Array Value} {below : List Frame} {meth : Method} {c : Code} {T T' : State} {locs : List Loc} {cells slots : Nat} {Z : State} {a0 : Array Value} {h : Heap} {K : Outcome → State → Prop} {Q : Option Value → Heap → List Loc → Prop} {C S : Nat}
theorem own_by {g g' : JFrame} (st : ∀ t, Steps p.tables e below (T'.setTop g') t → Steps p.tables e below (T.setTop g) t) (k : own_Goes p e below K T' g') : own_Goes p e below K T g := by
  obtain ⟨s₂, o, h1, r⟩ := k
  exact ⟨s₂, o, st _ h1, r⟩
theorem own_retN (X : Stand p l e R s m args below meth c T locs cells slots) (hx : p.tables.exec = Jvm.exec) {pc : Nat} {Ls : Array Slot} {z : Int32} {t : FieldType} {rest : List Value} (hret : meth.sig.returnType = some t) (hlocks : meth.locks = false) (ht : t = .boolean ∨ t = .byte ∨ t = .char ∨ t = .short)
    (hd : decode c.code pc = .ok (.ireturn, 1)) (hc : cells ≤ C) (hs : slots ≤ S) {v : Int32} (hv : nar t z = v) (q : Q (some (.int v)) T.heap locs) : own_Goes p e below (own_K Q s C S) T (mkF m pc Ls (.int z :: rest)) := by
  subst hv
  obtain ⟨fs, hr, hrun, hended, hW, hsame⟩ := X.leave (v := some (.int (nar t z))) (fun h => by rw [hret] at h; cases h) hlocks
  exact ⟨_, _, retN X hx hret ht hd hr, hrun, hended, _, _, rfl, q, ⟨_, rfl⟩, hW, hsame.mono hc hs⟩
theorem own_retV (X : Stand p l e R s m args below meth c T locs cells slots) (hx : p.tables.exec = Jvm.exec) {pc : Nat} {Ls : Array Slot} {w : Value} {t : FieldType} {i : Instr} {rest : List Value} (hret : meth.sig.returnType = some t) (hlocks : meth.locks = false) (hn : narrow t w = w)
    (hi : (i = .ireturn ∧ (t = .int ∨ t = .boolean ∨ t = .byte ∨ t = .char ∨ t = .short) ∧ ∃ z, w = .int z) ∨ (i = .lreturn ∧ t = .long ∧ ∃ z, w = .long z) ∨ (i = .dreturn ∧ t = .double ∧ ∃ z, w = .double z) ∨ (i = .freturn ∧ t = .float ∧ ∃ z, w = .float z) ∨ (i = .areturn ∧ t.isReference = true ∧ w.isRef = true))
    (hd : decode c.code pc = .ok (i, 1)) (hc : cells ≤ C) (hs : slots ≤ S) (q : Q (some w) T.heap locs) : own_Goes p e below (own_K Q s C S) T (mkF m pc Ls (w :: rest)) := by
  obtain ⟨fs, hr, hrun, hended, hW, hsame⟩ := X.leave (v := some w) (fun h => by rw [hret] at h; cases h) hlocks
  exact ⟨_, _, retOut X hx hret hn hi hd hr, hrun, hended, _, _, rfl, q, ⟨_, rfl⟩, hW, hsame.mono hc hs⟩
theorem own_retI (X : Stand p l e R s m args below meth c T locs cells slots) (hx : p.tables.exec = Jvm.exec) {pc : Nat} {Ls : Array Slot} {z : Int32} {rest : List Value} (hret : meth.sig.returnType = some .int) (hlocks : meth.locks = false)
    (hd : decode c.code pc = .ok (.ireturn, 1)) (hc : cells ≤ C) (hs : slots ≤ S) (q : Q (some (.int z)) T.heap locs) : own_Goes p e below (own_K Q s C S) T (mkF m pc Ls (.int z :: rest)) :=
  own_retV X hx hret hlocks rfl (Or.inl ⟨rfl, Or.inl rfl, z, rfl⟩) hd hc hs q
theorem own_retJ (X : Stand p l e R s m args below meth c T locs cells slots) (hx : p.tables.exec = Jvm.exec) {pc : Nat} {Ls : Array Slot} {z : Int64} {rest : List Value} (hret : meth.sig.returnType = some .long) (hlocks : meth.locks = false)
    (hd : decode c.code pc = .ok (.lreturn, 1)) (hc : cells ≤ C) (hs : slots ≤ S) (q : Q (some (.long z)) T.heap locs) : own_Goes p e below (own_K Q s C S) T (mkF m pc Ls (.long z :: rest)) :=
  own_retV X hx hret hlocks rfl (Or.inr (Or.inl ⟨rfl, rfl, z, rfl⟩)) hd hc hs q
theorem own_retR (X : Stand p l e R s m args below meth c T locs cells slots) (hx : p.tables.exec = Jvm.exec) {pc : Nat} {Ls : Array Slot} {w : Value} {t : FieldType} {rest : List Value} (hret : meth.sig.returnType = some t) (hlocks : meth.locks = false) (ht : t.isReference = true) (hw : w.isRef = true)
    (hd : decode c.code pc = .ok (.areturn, 1)) (hc : cells ≤ C) (hs : slots ≤ S) (q : Q (some w) T.heap locs) : own_Goes p e below (own_K Q s C S) T (mkF m pc Ls (w :: rest)) :=
  own_retV X hx hret hlocks (by cases t <;> first | (cases ht; done) | (cases w <;> rfl)) (Or.inr (Or.inr (Or.inr (Or.inr ⟨rfl, ht, hw⟩)))) hd hc hs q
theorem own_ret0 (X : Stand p l e R s m args below meth c T locs cells slots) (hx : p.tables.exec = Jvm.exec) {pc : Nat} {Ls : Array Slot} (hret : meth.sig.returnType = none) (hlocks : meth.locks = false)
    (hd : decode c.code pc = .ok (.return_, 1)) (hc : cells ≤ C) (hs : slots ≤ S) (q : Q none T.heap locs) : own_Goes p e below (own_K Q s C S) T (mkF m pc Ls []) := by
  obtain ⟨fs, hr, hrun, hended, hW, hsame⟩ := X.leave (v := none) (fun _ => rfl) hlocks
  exact ⟨_, _, X.returnOut hx hret hd hr, hrun, hended, _, _, rfl, q, ⟨_, rfl⟩, hW, hsame.mono hc hs⟩
theorem own_lrem {g : JFrame} {target : State} (X : Stand p l e R s m args below meth c T locs cells slots) (hx : p.tables.exec = Jvm.exec) (hg : g.method = m) {x y : Int64} {rest : List Value} (hd : decode c.code g.pc = .ok (.lrem, 1)) (hs : g.stack = .long y :: .long x :: rest) (hy : y ≠ 0)
    (hr : Steps p.tables e below (T.setTop { g with pc := g.pc + 1, stack := .long (x % y) :: rest }) target) : Steps p.tables e below (T.setTop g) target := by
  have q : x - x / y * y = x % y := lrem_mod x y
  exact XS.lrem X.here hx hg hd hs hy (by rw [q]; exact hr)
/-- what a callee's theorem says -/
abbrev own_Met (l : Launch) (Z : State) (y : MethodName) (bytes : ByteArray) (maxL : Nat) (ret : Option FieldType) (rm : Room) (as' : Array Value) (h : Heap) (Q : Option Value → Heap → List Loc → Prop) : Prop :=
  MetFree l y (head1 [Cond.code y bytes maxL ret] rm) (fun a U => a = as' ∧ Z.Warmed39 U.vm ∧ U.heap = h) (fun _ _ _ _ _ => True) (fun _ U o U' => ∃ v L, o = .returned v ∧ Q v U'.heap L ∧ FrameEnd U o U' L rm.cells rm.slots)
theorem own_callS (X : Stand p l e R s m args below meth c T locs cells slots) (hx : p.tables.exec = Jvm.exec) (hZ : Z.Warmed39 s.vm) {own : String} {index : Nat} {y : MethodName} {bytes : ByteArray} {maxL : Nat} {ret : Option FieldType}
    (hown : s.vm.findClass own = some m.cls) (w1 : (Cond.methodLink own index y).before a0 Z = true) (w2 : (Cond.static y).before a0 Z = true) (w3 : (Cond.initialized y.cls).before a0 Z = true) (w4 : (Cond.code y bytes maxL ret).before a0 Z = true) (hy : y.cls ≠ "java/lang/invoke/MethodHandle" ∧ y.cls ≠ "java/lang/invoke/VarHandle")
    {rm : Room} {argsL rest : List Value} (hM : own_Met l Z y bytes maxL ret rm argsL.toArray h Q) (eT : T.heap = h) {W : Nat} (hf : rm.frames + 1 ≤ R.frames) (hl : W + (maxL + 11) + rm.locals ≤ R.locals) (hc : cells + rm.cells ≤ R.cells) (hs : slots + rm.slots ≤ R.slots)
    {g : JFrame} (hg : g.method = m) (hsize : g.locals.size = c.maxLocals) (hlen : ∀ sig, parseMethodDescriptor y.desc = some sig → argsL.length = sig.parameters.length)
    (hstack : g.stack = argsL.reverse ++ rest) (hW : 2 * g.monitorRoom + (rest.map fun v => v.category).sum ≤ W) (hdg : decode c.code g.pc = .ok (.invokestatic index, 3)) :
    ∃ (v : Option Value) (T' : State) (L : List Loc), Stand p l e R s m args below meth c T' (locs ++ L) (cells + rm.cells) (slots + rm.slots) ∧ Q v T'.heap L ∧ ∀ K, own_Goes p e below K T' { g with pc := g.pc + 3, stack := v.toList ++ rest } → own_Goes p e below K T g := by
  obtain ⟨v, vm₁, ⟨T', L', k', n'⟩, -, X', ⟨L, hQ, l1, l2, l3⟩, st⟩ := Jvm.LawKit.callS X hx hown (mvT hZ w1) (mvT hZ w2) (mvT hZ w3) (mvT hZ w4) hy (backOf (W := W) hM hZ w4 w3 hf hl) hg hsize hlen hstack hW hdg (fun _ _ => ⟨rfl, eT, hc, hs⟩)
  dsimp only [Pt.U, Pt.locs, Pt.cells, Pt.slots] at X' l1 l2 l3 st hQ
  subst l1 l2 l3
  exact ⟨v, T', L, X', hQ, fun K k => own_by st k⟩
theorem own_callI (X : Stand p l e R s m args below meth c T locs cells slots) (hx : p.tables.exec = Jvm.exec) (hZ : Z.Warmed39 s.vm) {own : String} {index : Nat} {y : MethodName} {bytes : ByteArray} {maxL : Nat} (hy1 : y.name = "<init>")
    (hown : s.vm.findClass own = some m.cls) (w1 : (Cond.methodLink own index y).before a0 Z = true) (w2 : (Cond.instanceMethod y).before a0 Z = true) (w3 : (Cond.initialized y.cls).before a0 Z = true) (w4 : (Cond.code y bytes maxL none).before a0 Z = true) (hy : y.cls ≠ "java/lang/invoke/MethodHandle" ∧ y.cls ≠ "java/lang/invoke/VarHandle")
    {rm : Room} {a : Addr} {argsL rest : List Value} (hM : own_Met l Z y bytes maxL none rm (.ref a :: argsL).toArray h Q) (eT : T.heap = h) {W : Nat} (hf : rm.frames + 1 ≤ R.frames) (hl : W + (maxL + 11) + rm.locals ≤ R.locals) (hc : cells + rm.cells ≤ R.cells) (hs : slots + rm.slots ≤ R.slots)
    {g : JFrame} (hg : g.method = m) (hsize : g.locals.size = c.maxLocals) (hlen : ∀ sig, parseMethodDescriptor y.desc = some sig → argsL.length = sig.parameters.length)
    (hstack : g.stack = argsL.reverse ++ .ref a :: rest) (hW : 2 * g.monitorRoom + (rest.map fun v => v.category).sum ≤ W) (hdg : decode c.code g.pc = .ok (.invokespecial index, 3)) :
    ∃ (v : Option Value) (T' : State) (L : List Loc), Stand p l e R s m args below meth c T' (locs ++ L) (cells + rm.cells) (slots + rm.slots) ∧ Q v T'.heap L ∧ ∀ K, own_Goes p e below K T' { g with pc := g.pc + 3, stack := v.toList ++ rest } → own_Goes p e below K T g := by
  obtain ⟨v, vm₁, ⟨T', L', k', n'⟩, -, X', ⟨L, hQ, l1, l2, l3⟩, st⟩ := X.specialBack hx hy1 hown (mvT hZ w1) (mvT hZ w2) (mvT hZ w4) hy (backOf (W := W) hM hZ w4 w3 hf hl) hg hsize (Steps.refl _) hlen hstack hW hdg (fun _ _ => ⟨rfl, eT, hc, hs⟩)
  dsimp only [Pt.U, Pt.locs, Pt.cells, Pt.slots] at X' l1 l2 l3 st hQ
  subst l1 l2 l3
  exact ⟨v, T', L, X', hQ, fun K k => own_by (fun t k => st.trans k) k⟩
theorem own_callV (X : Stand p l e R s m args below meth c T locs cells slots) (hx : p.tables.exec = Jvm.exec) (hZ : Z.Warmed39 s.vm) {own C : String} {index : Nat} {y : MethodName} {bytes : ByteArray} {maxL : Nat} {ret : Option FieldType}
    (hown : s.vm.findClass own = some m.cls) (w1 : (Cond.methodLink own index y).before a0 Z = true) (w5 : (Cond.declares y).before a0 Z = true) (w6 : (Cond.selects C y y).before a0 Z = true) (w2 : (Cond.instanceMethod y).before a0 Z = true) (w3 : (Cond.initialized y.cls).before a0 Z = true) (w4 : (Cond.code y bytes maxL ret).before a0 Z = true) (hy : y.cls ≠ "java/lang/invoke/MethodHandle" ∧ y.cls ≠ "java/lang/invoke/VarHandle")
    {rm : Room} {a : Addr} {argsL rest : List Value} (E : Exa Z h a C) (hM : own_Met l Z y bytes maxL ret rm (.ref a :: argsL).toArray h Q) (eT : T.heap = h) {W : Nat} (hf : rm.frames + 1 ≤ R.frames) (hl : W + (maxL + 11) + rm.locals ≤ R.locals) (hc : cells + rm.cells ≤ R.cells) (hs : slots + rm.slots ≤ R.slots)
    {g : JFrame} (hg : g.method = m) (hsize : g.locals.size = c.maxLocals) (hlen : ∀ sig, parseMethodDescriptor y.desc = some sig → argsL.length = sig.parameters.length)
    (hstack : g.stack = argsL.reverse ++ .ref a :: rest) (hW : 2 * g.monitorRoom + (rest.map fun v => v.category).sum ≤ W) (hdg : decode c.code g.pc = .ok (.invokevirtual index, 3)) :
    ∃ (v : Option Value) (T' : State) (L : List Loc), Stand p l e R s m args below meth c T' (locs ++ L) (cells + rm.cells) (slots + rm.slots) ∧ Q v T'.heap L ∧ ∀ K, own_Goes p e below K T' { g with pc := g.pc + 3, stack := v.toList ++ rest } → own_Goes p e below K T g := by
  obtain ⟨cB, kB, q1, q2, q3⟩ := isOf hZ eT E
  obtain ⟨v, vm₁, ⟨T', L', k', n'⟩, -, X', ⟨L, hQ, l1, l2, l3⟩, st⟩ := X.virtualBack hx hown (mvT hZ w1) (mvT hZ w5) (notFace_of_selects (args := #[]) (mvT hZ w6)) (mvT hZ w6) (mvT hZ w2) hy (backOf (W := W) hM hZ w4 w3 hf hl) q1 q3 hg hsize (Steps.refl _) hlen hstack hW hdg (fun _ _ => ⟨rfl, eT, hc, hs⟩)
  dsimp only [Pt.U, Pt.locs, Pt.cells, Pt.slots] at X' l1 l2 l3 st hQ
  subst l1 l2 l3
  exact ⟨v, T', L, X', hQ, fun K k => own_by (fun t k => st.trans k) k⟩
theorem own_callPv (X : Stand p l e R s m args below meth c T locs cells slots) (hx : p.tables.exec = Jvm.exec) (hZ : Z.Warmed39 s.vm) {own C : String} {index : Nat} {y : MethodName} {bytes : ByteArray} {maxL : Nat} {ret : Option FieldType}
    (hown : s.vm.findClass own = some m.cls) (w1 : (Cond.methodLink own index y).before a0 Z = true) (w6 : (Cond.selects y.cls y y).before a0 Z = true) (w2 : (Cond.instanceMethod y).before a0 Z = true) (w7 : (Cond.privateMethod y).before a0 Z = true) (w3 : (Cond.initialized y.cls).before a0 Z = true) (w4 : (Cond.code y bytes maxL ret).before a0 Z = true) (hy : y.cls ≠ "java/lang/invoke/MethodHandle" ∧ y.cls ≠ "java/lang/invoke/VarHandle")
    {rm : Room} {a : Addr} {argsL rest : List Value} (E : Exa Z h a C) (hM : own_Met l Z y bytes maxL ret rm (.ref a :: argsL).toArray h Q) (eT : T.heap = h) {W : Nat} (hf : rm.frames + 1 ≤ R.frames) (hl : W + (maxL + 11) + rm.locals ≤ R.locals) (hc : cells + rm.cells ≤ R.cells) (hs : slots + rm.slots ≤ R.slots)
    {g : JFrame} (hg : g.method = m) (hsize : g.locals.size = c.maxLocals) (hlen : ∀ sig, parseMethodDescriptor y.desc = some sig → argsL.length = sig.parameters.length)
    (hstack : g.stack = argsL.reverse ++ .ref a :: rest) (hW : 2 * g.monitorRoom + (rest.map fun v => v.category).sum ≤ W) (hdg : decode c.code g.pc = .ok (.invokevirtual index, 3)) :
    ∃ (v : Option Value) (T' : State) (L : List Loc), Stand p l e R s m args below meth c T' (locs ++ L) (cells + rm.cells) (slots + rm.slots) ∧ Q v T'.heap L ∧ ∀ K, own_Goes p e below K T' { g with pc := g.pc + 3, stack := v.toList ++ rest } → own_Goes p e below K T g := by
  obtain ⟨cq, q1, q2⟩ := E.cell
  obtain ⟨v, vm₁, ⟨T', L', k', n'⟩, -, X', ⟨L, hQ, l1, l2, l3⟩, st⟩ := X.privateBack hx hown (mvT hZ w1) (mvT hZ w2) (mvT hZ w6) (Cond.privateMethod_at (mvP hZ w7 (args := #[]))) (mvT hZ w4) hy (backOf (W := W) hM hZ w4 w3 hf hl) hg hsize (Steps.refl _) (by rw [eT]; exact q1) q2 hlen hstack hW hdg (fun _ _ => ⟨rfl, eT, hc, hs⟩)
  dsimp only [Pt.U, Pt.locs, Pt.cells, Pt.slots] at X' l1 l2 l3 st hQ
  subst l1 l2 l3
  exact ⟨v, T', L, X', hQ, fun K k => own_by (fun t k => st.trans k) k⟩
theorem own_Sta_keep {h' : Heap} {ws : List Addr} {O n d : String} {v : Value} (F : Sta Z h O n d v) (K : Keep h h' ws) (q : ∀ a ∈ ws, ∀ cell : Cell, h[a]? = some cell → cell.vm.isStatics = false) : Sta Z h' O n d v := by
  obtain ⟨cf, i, k, f, st, cell, h1, h2, h3, h4, h5, h6, h7⟩ := F
  refine ⟨cf, i, k, f, st, cell, h1, h2, h3, h4, K.2.1 st cell h5 (fun y => ?_), h6, h7⟩
  rw [q st y cell h5] at h6; cases h6
theorem own_selp {y : MethodName} {k : Nat} (w7 : (Cond.privateMethod y).before a0 Z = true) (w2 : (Cond.instanceMethod y).before a0 Z = true) (wi : (Cond.instantiable y.cls k).before a0 Z = true) (hy : y.cls ≠ "java/lang/invoke/MethodHandle" ∧ y.cls ≠ "java/lang/invoke/VarHandle") : (Cond.selects y.cls y y).before a0 Z = true := by
  obtain ⟨c, k, i1, i2, i3, i4, -⟩ := Cond.instantiable_spec wi
  rw [Bool.or_eq_false_iff] at i4
  exact Jvm.Stand.selects_self_of_private i1 i2 i4.1 (Cond.privateMethod_at w7) w2 hy
end OwnKit
/-! arrays of ints, bytes, chars: a length and a function -/
def own_Ia (Z : State) (h : Heap) (a : Addr) (ty : FieldType) (n : Nat) (f : Nat → Int32) : Prop := ∃ c : Cell, Arr Z h a c ty ∧ c.slots.size = n ∧ (∀ i, i < n → c.slots[i]? = some (.int (f i))) ∧ ∀ i, i < n → fits ty (.int (f i)) = true
section OwnArr
variable {p : Program} {l : Launch} {e : Env} {R : Room} {s : State} {m : MethodId} {args : Array Value} {below : List Frame} {meth : Method} {c : Code} {T T' : State} {locs : List Loc} {cells slots : Nat} {Z : State} {a0 : Array Value} {h h' : Heap} {a b : Addr} {ty : FieldType} {n : Nat} {f : Nat → Int32}
theorem own_Ia_lt (F : own_Ia Z h a ty n f) : a < h.size := by obtain ⟨c, A, -⟩ := F; exact A.lt
theorem own_Ia_ext (E : Ext h h') (F : own_Ia Z h a ty n f) : own_Ia Z h' a ty n f := by obtain ⟨c, A, r⟩ := F; exact ⟨c, A.ext E, r⟩
theorem own_Ia_other {sl : Nat} {v : Value} (W : Wr h h' b sl v) (F : own_Ia Z h a ty n f) (q : a ≠ b) : own_Ia Z h' a ty n f := by obtain ⟨c, A, r⟩ := F; exact ⟨c, A.other W q, r⟩
theorem own_Ia_keep {ws : List Addr} (K : Keep h h' ws) (F : own_Ia Z h a ty n f) (q : a ∉ ws) : own_Ia Z h' a ty n f := by obtain ⟨c, A, r⟩ := F; exact ⟨c, ⟨K.2.1 a c A.1 q, A.2⟩, r⟩
theorem own_Ia_set {j : Nat} {x : Int32} (W : Wr h h' a j (.int x)) (F : own_Ia Z h a ty n f) (hf : fits ty (.int x) = true) : own_Ia Z h' a ty n (fun i => if i = j then x else f i) := by
  obtain ⟨c, A, S, H, G⟩ := F
  refine ⟨c.setSlot j (.int x), A.same W, by rw [sz_set]; exact S, fun i hi => ?_, fun i hi => ?_⟩
  · by_cases q : i = j
    · subst q
      have : i < c.slots.size := by rw [S]; exact hi
      simp [Cell.setSlot, this]
    · have := H i hi
      simp only [Cell.setSlot, if_neg q]
      rw [Array.getElem?_setIfInBounds_ne (Ne.symm q)]; exact this
  · dsimp only
    by_cases q : i = j
    · rw [if_pos q]; exact hf
    · rw [if_neg q]; exact G i hi
theorem own_Ia_new {k : ClassId} {z : Int32} (A : Arr Z h a (newA k ty z) ty) (hd : defaultValue ty = .int 0) (hf : fits ty (.int 0) = true) (hz : z.toNatClampNeg = n) : own_Ia Z h a ty n (fun _ => 0) := by
  subst hz
  refine ⟨_, A, sz_new _ _ _, fun i hi => ?_, fun i hi => hf⟩
  simp [newA, hd, hi]
theorem own_Ia_congr {f' : Nat → Int32} (F : own_Ia Z h a ty n f) (q : ∀ i, i < n → f i = f' i) : own_Ia Z h a ty n f' := by
  obtain ⟨c, A, S, H, G⟩ := F; exact ⟨c, A, S, fun i hi => by rw [H i hi, q i hi], fun i hi => by rw [← q i hi]; exact G i hi⟩
theorem own_bal (X : Stand p l e R s m args below meth c T locs cells slots) (hx : p.tables.exec = Jvm.exec) (hZ : Z.Warmed39 s.vm) (eT : T.heap = h) (F : own_Ia Z h a .byte n f) {j : Int32} (hj0 : ¬ j < 0) (hj1 : j.toNatClampNeg < n) {g : JFrame} (hg : g.method = m) {rest : List Value} (hs : g.stack = .int j :: .ref a :: rest) (hd : decode c.code g.pc = .ok (.baload, 1)) (t : State)
    (k : Steps p.tables e below (T.setTop { g with pc := g.pc + 1, stack := .int (f j.toNatClampNeg) :: rest }) t) : Steps p.tables e below (T.setTop g) t := by
  obtain ⟨c, A, S, H, G⟩ := F
  exact X.baloadBytes hx (by rw [eT]; exact A.1) (State.isArrayOf_alike hZ.alike A.2.1) A.2.2 (fun q => q.elim hj0 (fun q => absurd hj1 (by rw [← S]; exact Nat.not_lt.mpr q))) (H _ hj1) hg hs hd t k
theorem own_cal (X : Stand p l e R s m args below meth c T locs cells slots) (hx : p.tables.exec = Jvm.exec) (hZ : Z.Warmed39 s.vm) (eT : T.heap = h) (F : own_Ia Z h a .char n f) {j : Int32} (hj0 : ¬ j < 0) (hj1 : j.toNatClampNeg < n) {g : JFrame} (hg : g.method = m) {rest : List Value} (hs : g.stack = .int j :: .ref a :: rest) (hd : decode c.code g.pc = .ok (.caload, 1)) (t : State)
    (k : Steps p.tables e below (T.setTop { g with pc := g.pc + 1, stack := .int (f j.toNatClampNeg) :: rest }) t) : Steps p.tables e below (T.setTop g) t := by
  obtain ⟨c, A, S, H, G⟩ := F
  exact X.caload hx (by rw [eT]; exact A.1) (State.isArrayOf_alike hZ.alike A.2.1) A.2.2 (fun q => q.elim hj0 (fun q => absurd hj1 (by rw [← S]; exact Nat.not_lt.mpr q))) (H _ hj1) hg hs hd t k
theorem own_ial (X : Stand p l e R s m args below meth c T locs cells slots) (hx : p.tables.exec = Jvm.exec) (hZ : Z.Warmed39 s.vm) (eT : T.heap = h) (F : own_Ia Z h a .int n f) {j : Int32} (hj0 : ¬ j < 0) (hj1 : j.toNatClampNeg < n) {g : JFrame} (hg : g.method = m) {rest : List Value} (hs : g.stack = .int j :: .ref a :: rest) (hd : decode c.code g.pc = .ok (.iaload, 1)) (t : State)
    (k : Steps p.tables e below (T.setTop { g with pc := g.pc + 1, stack := .int (f j.toNatClampNeg) :: rest }) t) : Steps p.tables e below (T.setTop g) t := by
  obtain ⟨c, A, S, H, G⟩ := F
  exact X.iaload hx (by rw [eT]; exact A.1) (State.isArrayOf_alike hZ.alike A.2.1) A.2.2 (fun q => q.elim hj0 (fun q => absurd hj1 (by rw [← S]; exact Nat.not_lt.mpr q))) (H _ hj1) hg hs hd t k
theorem own_alen (X : Stand p l e R s m args below meth c T locs cells slots) (hx : p.tables.exec = Jvm.exec) (hZ : Z.Warmed39 s.vm) (eT : T.heap = h) (F : own_Ia Z h a ty n f) {z : Int32} (hz : n.toInt32 = z) {g : JFrame} (hg : g.method = m) {rest : List Value} (hs : g.stack = .ref a :: rest) (hd : decode c.code g.pc = .ok (.arraylength, 1)) (t : State)
    (k : Steps p.tables e below (T.setTop { g with pc := g.pc + 1, stack := .int z :: rest }) t) : Steps p.tables e below (T.setTop g) t := by
  obtain ⟨c, A, S, H, G⟩ := F
  subst hz S
  exact X.arraylength hx (by rw [eT]; exact A.1) (State.isArrayOf_alike hZ.alike A.2.1) hg hs hd t k
theorem own_bas (X : Stand p l e R s m args below meth c T locs cells slots) (hx : p.tables.exec = Jvm.exec) (hZ : Z.Warmed39 s.vm) (eT : T.heap = h) (F : own_Ia Z h a .byte n f) {j x : Int32} (hj0 : ¬ j < 0) (hj1 : j.toNatClampNeg < n) {g : JFrame} (hg : g.method = m) {rest : List Value} (hs : g.stack = .int x :: .int j :: .ref a :: rest) (hd : decode c.code g.pc = .ok (.bastore, 1)) :
    ∃ T' h', Stand p l e R s m args below meth c T' (locs ++ [⟨a, j.toNatClampNeg⟩]) cells slots ∧ T'.heap = h' ∧ Wr h h' a j.toNatClampNeg (.int (nar .byte x)) ∧ ∀ target, Steps p.tables e below (T'.setTop { g with pc := g.pc + 1, stack := rest }) target → Steps p.tables e below (T.setTop g) target := by
  obtain ⟨c, A, S, H, G⟩ := F
  exact stB X hx hZ eT A (fun q => q.elim hj0 (fun q => absurd hj1 (by rw [← S]; exact Nat.not_lt.mpr q))) hg hs hd
theorem own_cas (X : Stand p l e R s m args below meth c T locs cells slots) (hx : p.tables.exec = Jvm.exec) (hZ : Z.Warmed39 s.vm) (eT : T.heap = h) (F : own_Ia Z h a .char n f) {j x : Int32} (hj0 : ¬ j < 0) (hj1 : j.toNatClampNeg < n) {g : JFrame} (hg : g.method = m) {rest : List Value} (hs : g.stack = .int x :: .int j :: .ref a :: rest) (hd : decode c.code g.pc = .ok (.castore, 1)) :
    ∃ T' h', Stand p l e R s m args below meth c T' (locs ++ [⟨a, j.toNatClampNeg⟩]) cells slots ∧ T'.heap = h' ∧ Wr h h' a j.toNatClampNeg (.int (nar .char x)) ∧ ∀ target, Steps p.tables e below (T'.setTop { g with pc := g.pc + 1, stack := rest }) target → Steps p.tables e below (T.setTop g) target := by
  obtain ⟨c, A, S, H, G⟩ := F
  exact stC X hx hZ eT A (fun q => q.elim hj0 (fun q => absurd hj1 (by rw [← S]; exact Nat.not_lt.mpr q))) hg hs hd
theorem own_ias (X : Stand p l e R s m args below meth c T locs cells slots) (hx : p.tables.exec = Jvm.exec) (hZ : Z.Warmed39 s.vm) (eT : T.heap = h) (F : own_Ia Z h a .int n f) {j x : Int32} (hj0 : ¬ j < 0) (hj1 : j.toNatClampNeg < n) {g : JFrame} (hg : g.method = m) {rest : List Value} (hs : g.stack = .int x :: .int j :: .ref a :: rest) (hd : decode c.code g.pc = .ok (.iastore, 1)) :
    ∃ T' h', Stand p l e R s m args below meth c T' (locs ++ [⟨a, j.toNatClampNeg⟩]) cells slots ∧ T'.heap = h' ∧ Wr h h' a j.toNatClampNeg (.int x) ∧ ∀ target, Steps p.tables e below (T'.setTop { g with pc := g.pc + 1, stack := rest }) target → Steps p.tables e below (T.setTop g) target := by
  obtain ⟨c, A, S, H, G⟩ := F
  exact stI X hx hZ eT A (fun q => q.elim hj0 (fun q => absurd hj1 (by rw [← S]; exact Nat.not_lt.mpr q))) hg hs hd
end OwnArr
section OwnCp
variable {p : Program} {l : Launch} {e : Env} {R : Room} {s : State} {m : MethodId} {args : Array Value} {below : List Frame} {meth : Method} {c : Code} {T T' : State} {locs : List Loc} {cells slots : Nat} {Z : State} {a0 : Array Value} {h h' : Heap} {a b : Addr} {ty : FieldType} {n n' : Nat} {f f' : Nat → Int32}
theorem own_n32 (hn : n < 2 ^ 31) : n.toInt32.toNatClampNeg = n := by
  have := len_toInt hn
  simp only [Int32.toNatClampNeg]; omega
theorem own_rget (g : Nat → Value) (d : Value) (i : Nat) : ((List.range n).map g).getD i d = if i < n then g i else d := by
  by_cases q : i < n
  · simp [List.getD_eq_getElem?_getD, q]
  · simp [List.getD_eq_getElem?_getD, q]
theorem own_Ia_arv (F : own_Ia Z h a ty n f) (hn : n < 2 ^ 31) : ∃ k, Arv Z h a k ty n.toInt32 ((List.range n).map fun i => .int (f i)) (.int 0) := by
  obtain ⟨c, A, S, H, G⟩ := F
  have hz := own_n32 hn
  have hl := len_toInt hn
  refine ⟨c.cls, c, A, rfl, by rw [hz]; exact S, ?_, fun k hk => ?_, fun i hi => ?_⟩
  · rw [Int32.lt_iff_toInt_lt, hl, show (0 : Int32).toInt = 0 from rfl]; omega
  · rw [S] at hk; rw [own_rget, if_pos hk]; exact H k hk
  · rw [S] at hi; rw [own_rget, if_pos hi]; exact G i hi
theorem own_arv_Ia {k : ClassId} {z : Int32} {vs : List Value} {dv : Value} (F : Arv Z h a k ty z vs dv) (hz : z.toNatClampNeg = n) (q : ∀ i, i < n → vs.getD i dv = .int (f i)) : own_Ia Z h a ty n f := by
  obtain ⟨c, A, -, S, -, H, G⟩ := F
  rw [hz] at S
  refine ⟨c, A, S, fun i hi => ?_, fun i hi => ?_⟩
  · rw [H i (by rw [S]; exact hi), q i hi]
  · rw [← q i hi]; exact G i (by rw [S]; exact hi)
theorem own_cpl (g g' : Nat → Value) (d : Value) (sp dp nn : Nat) (h4 : sp + nn ≤ n) (h5 : dp + nn ≤ n') (i : Nat) (hi : i < n') :
    ((((List.range n').map g').take dp ++ (List.range nn).map (fun i => ((List.range n).map g).getD (sp + i) d)) ++ ((List.range n').map g').drop (dp + nn)).getD i d = if dp ≤ i ∧ i < dp + nn then g (sp + (i - dp)) else g' i := by
  have l1 : (((List.range n').map g').take dp).length = dp := by simp; omega
  have l2 : ((((List.range n').map g').take dp ++ (List.range nn).map (fun i => ((List.range n).map g).getD (sp + i) d))).length = dp + nn := by rw [List.length_append, l1]; simp
  rw [List.getD_eq_getElem?_getD]
  by_cases q1 : i < dp
  · rw [List.getElem?_append_left (by rw [l2]; omega), List.getElem?_append_left (by rw [l1]; exact q1), if_neg (by omega)]
    rw [List.getElem?_take_of_lt q1]
    simp [hi]
  · by_cases q2 : i < dp + nn
    · rw [List.getElem?_append_left (by rw [l2]; exact q2), List.getElem?_append_right (by rw [l1]; omega), l1, if_pos ⟨by omega, q2⟩]
      have q3 : i - dp < nn := by omega
      have q4 : sp + (i - dp) < n := by omega
      simp only [List.getElem?_map, List.getElem?_range q3, Option.map_some, Option.getD_some]
      rw [own_rget, if_pos q4]
    · rw [List.getElem?_append_right (by rw [l2]; omega), l2, if_neg (by omega)]
      rw [List.getElem?_drop, show dp + nn + (i - (dp + nn)) = i by omega]
      simp [hi]
theorem own_cp (X : Stand p l e R s m args below meth c T locs cells slots) (hx : p.tables.exec = Jvm.exec) (hZ : Z.Warmed39 s.vm) {own : String} {index : Nat} (hown : s.vm.findClass own = some m.cls)
    (w1 : (Cond.methodLink own index Jvm.Stand.acN).before a0 Z = true) (w2 : (Cond.native Jvm.Stand.acN).before a0 Z = true) (w3 : (Cond.static Jvm.Stand.acN).before a0 Z = true) (w4 : (Cond.initialized "java/lang/System").before a0 Z = true) (eT : T.heap = h)
    (A : own_Ia Z h a ty n f) (B : own_Ia Z h b ty n' f') (hty : refKind ty = false) (hn : n < 2 ^ 31) (hn' : n' < 2 ^ 31) {sp dp nn : Int32} (h1 : ¬ sp < 0) (h2 : ¬ dp < 0) (h3 : ¬ nn < 0) (h4 : sp.toNatClampNeg + nn.toNatClampNeg ≤ n) (h5 : dp.toNatClampNeg + nn.toNatClampNeg ≤ n')
    {n0 : Nat} (N : Fr n0 locs) (ge : n0 ≤ b) {g : JFrame} (hg : g.method = m) (hsize : g.locals.size = c.maxLocals) {rest : List Value} (hs : g.stack = .int nn :: .int dp :: .ref b :: .int sp :: .ref a :: rest) (hd : decode c.code g.pc = .ok (.invokestatic index, 3))
    (hf : 1 ≤ R.frames) {W : Nat} (hW : 2 * g.monitorRoom + (rest.map fun v => v.category).sum ≤ W) (hlo : W + 18 ≤ R.locals) :
    ∃ T' h' L, Stand p l e R s m args below meth c T' L cells slots ∧ T'.heap = h' ∧ Fr n0 L ∧ Keep h h' [b] ∧ own_Ia Z h' b ty n' (fun i => if dp.toNatClampNeg ≤ i ∧ i < dp.toNatClampNeg + nn.toNatClampNeg then f (sp.toNatClampNeg + (i - dp.toNatClampNeg)) else f' i) ∧
      ∀ target, Steps p.tables e below (T'.setTop { g with pc := g.pc + 3, stack := rest }) target → Steps p.tables e below (T.setTop g) target := by
  obtain ⟨k, A'⟩ := own_Ia_arv A hn
  obtain ⟨k', B'⟩ := own_Ia_arv B hn'
  obtain ⟨T', h', L, X', e', N', K', V', st⟩ := cpA X hx hZ hown w1 w2 w3 w4 eT A' B' (Or.inl ⟨rfl, hty⟩) h1 h2 h3 (by rw [own_n32 hn]; exact h4) (by rw [own_n32 hn']; exact h5) rfl (by simpa using h5) N ge hg hsize hs hd hf hW (by show W + 18 ≤ _; exact hlo)
  refine ⟨T', h', L, X', e', N', K', own_arv_Ia V' (own_n32 hn') (fun i hi => ?_), st⟩
  rw [own_cpl _ _ _ _ _ _ h4 h5 i hi]
  split <;> rfl
end OwnCp
theorem own_kk (q : Int32) : ((q &&& (2147483647 : Int32)) % (5 : Int32)) = (0 : Int32) ∨ ((q &&& (2147483647 : Int32)) % (5 : Int32)) = (1 : Int32) ∨ ((q &&& (2147483647 : Int32)) % (5 : Int32)) = (2 : Int32) ∨ ((q &&& (2147483647 : Int32)) % (5 : Int32)) = (3 : Int32) ∨ ((q &&& (2147483647 : Int32)) % (5 : Int32)) = (4 : Int32) := by
  have e := c_mask q 2147483647 31 (by decide) (by decide)
  have z := (c_irem (q &&& (2147483647 : Int32)) (5 : Int32) 5 rfl).1 (by rw [e]; exact Int.emod_nonneg _ (by decide))
  have l1 := Int.emod_nonneg (q &&& (2147483647 : Int32)).toInt (show (5 : Int) ≠ 0 by decide)
  have l2 := Int.emod_lt_of_pos (q &&& (2147483647 : Int32)).toInt (show (0 : Int) < 5 by decide)
  simp only [← Int32.toInt_inj]
  rw [z]
  simp only [show (0 : Int32).toInt = 0 from rfl, show (1 : Int32).toInt = 1 from rfl, show (2 : Int32).toInt = 2 from rfl, show (3 : Int32).toInt = 3 from rfl, show (4 : Int32).toInt = 4 from rfl]
  omega
def own_b4 (x0 x1 x2 x3 : Int32) (i : Nat) : Int32 := if i = 0 then x0.toInt8.toInt32 else if i = 1 then x1.toInt8.toInt32 else if i = 2 then x2.toInt8.toInt32 else x3.toInt8.toInt32
theorem own_nb (x : Int32) : nar .byte x.toInt8.toInt32 = x.toInt8.toInt32 := by show x.toInt8.toInt32.toInt8.toInt32 = _; simp
theorem own_norm4 (x0 x1 x2 x3 : Int32) : ∀ i, i < 4 → (fun i => if i = 3 then (nar .byte x3.toInt8.toInt32) else (fun i => if i = 2 then (nar .byte x2.toInt8.toInt32) else (fun i => if i = 1 then (nar .byte x1.toInt8.toInt32) else (fun i => if i = 0 then (nar .byte x0.toInt8.toInt32) else (fun _ => (0 : Int32)) i) i) i) i) i = own_b4 x0 x1 x2 x3 i := by
  intro i hi
  have : i = 0 ∨ i = 1 ∨ i = 2 ∨ i = 3 := by omega
  rcases this with rfl | rfl | rfl | rfl <;> simp [own_b4, own_nb]
theorem own_d_svI_0 : decode prog_43_method_2_code 0 = .ok (.aload_n 0, 1) := by decide +kernel
theorem own_d_svI_1 : decode prog_43_method_2_code 1 = .ok (.invokespecial 9, 3) := by decide +kernel
theorem own_d_svI_4 : decode prog_43_method_2_code 4 = .ok (.aload_n 0, 1) := by decide +kernel
theorem own_d_svI_5 : decode prog_43_method_2_code 5 = .ok (.aload_n 1, 1) := by decide +kernel
theorem own_d_svI_6 : decode prog_43_method_2_code 6 = .ok (.putfield 14, 3) := by decide +kernel
theorem own_d_svI_9 : decode prog_43_method_2_code 9 = .ok (.aload_n 0, 1) := by decide +kernel
theorem own_d_svI_10 : decode prog_43_method_2_code 10 = .ok (.aconst_null, 1) := by decide +kernel
theorem own_d_svI_11 : decode prog_43_method_2_code 11 = .ok (.putfield 18, 3) := by decide +kernel
theorem own_d_svI_14 : decode prog_43_method_2_code 14 = .ok (.aload_n 0, 1) := by decide +kernel
theorem own_d_svI_15 : decode prog_43_method_2_code 15 = .ok (.lconst 0, 1) := by decide +kernel
theorem own_d_svI_16 : decode prog_43_method_2_code 16 = .ok (.putfield 22, 3) := by decide +kernel
theorem own_d_svI_19 : decode prog_43_method_2_code 19 = .ok (.aload_n 0, 1) := by decide +kernel
theorem own_d_svI_20 : decode prog_43_method_2_code 20 = .ok (.iload_n 2, 1) := by decide +kernel
theorem own_d_svI_21 : decode prog_43_method_2_code 21 = .ok (.putfield 26, 3) := by decide +kernel
theorem own_d_svI_24 : decode prog_43_method_2_code 24 = .ok (.return_, 1) := by decide +kernel
theorem own_pn_com_example_rowgate_rowgate_StoredValue : plainName "com/example/rowgate/rowgate/StoredValue" = true := by first | (simp [plainName, overriddenIn]; done) | decide +kernel
theorem own_ef_svI (m : MethodId) (a : Addr) (bs : Addr) (ln : Int32) : entryFrame m #[(.ref a), (.ref bs), (.int ln)] 3 = mkF m 0 #[.val (.ref a), .val (.ref bs), .val (.int ln)] [] := by first | (simp [entryFrame, mkF, argsToLocals, Value.category]; done) | rfl
def own_Q_svI (Z : State) (a : Addr) (bs : Addr) (ln : Int32) (h0 : Heap) (n0 : Nat) (v : Option Value) (h : Heap) (L : List Loc) : Prop := v = none ∧ Fr n0 L ∧ Keep h0 h [a] ∧ Exa Z h a "com/example/rowgate/rowgate/StoredValue" ∧ Fld Z h a "com/example/rowgate/rowgate/StoredValue" "bytes" "[B" (.ref bs) ∧ Fld Z h a "com/example/rowgate/rowgate/StoredValue" "file" "Lcom/example/rowgate/rowgate/StoredValue$FileBytes;" .null ∧ Fld Z h a "com/example/rowgate/rowgate/StoredValue" "offset" "J" (.long (0 : Int64)) ∧ Fld Z h a "com/example/rowgate/rowgate/StoredValue" "length" "I" (.int ln)
set_option maxRecDepth 65536 in
set_option maxHeartbeats 40000000 in
theorem own_rm_svI (l : Launch) (Z : State) (a0 : Array Value) (hw : ∀ d ∈ tables_1, d.before a0 Z = true) (ws : List Jvm.Cond) (a : Addr) (bs : Addr) (ln : Int32) (h0 : Heap) (n0 : Nat) (Z0 : n0 ≤ h0.size) (E0 : Exa Z h0 a "com/example/rowgate/rowgate/StoredValue") (G0 : n0 ≤ a) (F0_bytes : Fld Z h0 a "com/example/rowgate/rowgate/StoredValue" "bytes" "[B" .null) (F0_file : Fld Z h0 a "com/example/rowgate/rowgate/StoredValue" "file" "Lcom/example/rowgate/rowgate/StoredValue$FileBytes;" .null) (F0_offset : Fld Z h0 a "com/example/rowgate/rowgate/StoredValue" "offset" "J" (.long (0 : Int64))) (F0_length : Fld Z h0 a "com/example/rowgate/rowgate/StoredValue" "length" "I" (.int (0 : Int32))) :
    MetFree l (⟨"com/example/rowgate/rowgate/StoredValue", "<init>", "([BI)V"⟩ : MethodName) (head1 (Jvm.Cond.code (⟨"com/example/rowgate/rowgate/StoredValue", "<init>", "([BI)V"⟩ : MethodName) prog_43_method_2_code 3 none :: ws) ({ frames := 1, cells := 0, slots := 0, locals := 12 } : Room)) (fun a_ U_ => a_ = #[(.ref a), (.ref bs), (.int ln)] ∧ Z.Warmed39 U_.vm ∧ U_.heap = h0) (fun _ _ _ _ _ => True) (fun _ U_ o_ U'_ => ∃ v_ L_, o_ = .returned v_ ∧ own_Q_svI Z a bs ln h0 n0 v_ U'_.heap L_ ∧ FrameEnd U_ o_ U'_ L_ ({ frames := 1, cells := 0, slots := 0, locals := 12 } : Room).cells ({ frames := 1, cells := 0, slots := 0, locals := 12 } : Room).slots) := by
  refine MetFree.of_bodySF (plainFor_of_name own_pn_com_example_rowgate_rowgate_StoredValue) hisR ?_
  intro p e s m args below meth c s₁ Bd hml0 hP hK
  obtain ⟨rfl, hZ, hh⟩ := hP
  have hx := Bd.exec
  have hby := Bd.bytes
  have hlk : meth.locks = false := BodyLoose.notSynchronized Bd
  have hml : c.maxLocals = 3 := hml0
  have hown : s.vm.findClass "com/example/rowgate/rowgate/StoredValue" = some m.cls := findClass_of_methodNamed Bd.named
  have hnm := (name_of_methodNamed Bd.named Bd.method).1
  have X0 : Stand p l e ({ frames := 1, cells := 0, slots := 0, locals := 12 } : Room) s m #[(.ref a), (.ref bs), (.int ln)] below meth c s₁ [] 0 0 := Stand.of_body Bd
  have e0 : s₁.heap = h0 := by rw [← hh, Bd.state]; rfl
  have N0 := Fr.nil n0
  show own_Goes p e below (own_K (own_Q_svI Z a bs ln h0 n0) s ({ frames := 1, cells := 0, slots := 0, locals := 12 } : Room).cells ({ frames := 1, cells := 0, slots := 0, locals := 12 } : Room).slots) s₁ (entryFrame m #[(.ref a), (.ref bs), (.int ln)] 3)
  rw [own_ef_svI]
  have K0 := Keep.refl h0 [a]
  refine own_by (T' := s₁) (g' := (mkF m 1 #[.val (.ref a), .val (.ref bs), .val (.int ln)] [(.ref a)])) (fun t_ k_ => XS.aloadN X0.here hx rfl (hb hby own_d_svI_0) rfl rfl k_) ?_
  obtain ⟨T1, X1, e1, st1⟩ := initO X0 hx hZ hown (hw _ (List.mem_of_getElem? (i := 8) rfl)) (hw _ (List.mem_of_getElem? (i := 9) rfl)) (hw _ (List.mem_of_getElem? (i := 10) rfl)) e0 (g := (mkF m 1 #[.val (.ref a), .val (.ref bs), .val (.int ln)] [(.ref a)])) rfl (by rw [hml]; rfl) rfl (hb hby own_d_svI_1) (by decide) (W := 0) (by show 2 * 0 + _ ≤ _; exact Nat.le_of_eq rfl) (by decide)
  refine own_by (T' := T1) (g' := (mkF m 4 #[.val (.ref a), .val (.ref bs), .val (.int ln)] [])) st1 ?_
  refine own_by (T' := T1) (g' := (mkF m 5 #[.val (.ref a), .val (.ref bs), .val (.int ln)] [(.ref a)])) (fun t_ k_ => XS.aloadN X1.here hx rfl (hb hby own_d_svI_4) rfl rfl k_) ?_
  refine own_by (T' := T1) (g' := (mkF m 6 #[.val (.ref a), .val (.ref bs), .val (.int ln)] [(.ref bs), (.ref a)])) (fun t_ k_ => XS.aloadN X1.here hx rfl (hb hby own_d_svI_5) rfl rfl k_) ?_
  obtain ⟨T2, h2, X2, e2, W2, st2⟩ := putF X1 hx hZ hown (host := "") (Or.inl (hw _ (List.mem_of_getElem? (i := 11) rfl))) Via.refl e1 F0_bytes E0 (Or.inr ⟨(hw _ (List.mem_of_getElem? (i := 12) rfl)), rfl, hnm⟩) (hw _ (List.mem_of_getElem? (i := 3) rfl)) (ty := (.array .byte)) (by decide) rfl rfl (g := (mkF m 6 #[.val (.ref a), .val (.ref bs), .val (.int ln)] [(.ref bs), (.ref a)])) rfl rfl (hb hby own_d_svI_6)
  refine own_by (T' := T2) (g' := (mkF m 9 #[.val (.ref a), .val (.ref bs), .val (.int ln)] [])) st2 ?_
  have N2 := Fr.snoc X2 N0 G0
  have f3 := Nat.le_trans Z0 (Keep.of_wr W2).1
  have f4 := Exa.wr W2 E0
  have f5 := Fld.same W2 F0_bytes
  have f6 := Fld.other W2 F0_file (Or.inr (slot_ne (Or.inr (hw _ (List.mem_of_getElem? (i := 14) rfl))) (Or.inr (hw _ (List.mem_of_getElem? (i := 12) rfl))) (by decide) (t := (.object "com/example/rowgate/rowgate/StoredValue$FileBytes")) (t' := (.array .byte)) (by decide) (by decide)))
  have f7 := Fld.other W2 F0_offset (Or.inr (slot_ne (Or.inr (hw _ (List.mem_of_getElem? (i := 16) rfl))) (Or.inr (hw _ (List.mem_of_getElem? (i := 12) rfl))) (by decide) (t := .long) (t' := (.array .byte)) (by decide) (by decide)))
  have f8 := Fld.other W2 F0_length (Or.inr (slot_ne (Or.inr (hw _ (List.mem_of_getElem? (i := 18) rfl))) (Or.inr (hw _ (List.mem_of_getElem? (i := 12) rfl))) (by decide) (t := .int) (t' := (.array .byte)) (by decide) (by decide)))
  have f9 := Keep.wr K0 W2 (Or.inl (List.mem_of_getElem? (i := 0) rfl))
  refine own_by (T' := T2) (g' := (mkF m 10 #[.val (.ref a), .val (.ref bs), .val (.int ln)] [(.ref a)])) (fun t_ k_ => XS.aloadN X2.here hx rfl (hb hby own_d_svI_9) rfl rfl k_) ?_
  refine own_by (T' := T2) (g' := (mkF m 11 #[.val (.ref a), .val (.ref bs), .val (.int ln)] [.null, (.ref a)])) (fun t_ k_ => XS.aconstNull X2.here hx rfl (hb hby own_d_svI_10) k_) ?_
  obtain ⟨T10, h10, X10, e10, W10, st10⟩ := putF X2 hx hZ hown (host := "") (Or.inl (hw _ (List.mem_of_getElem? (i := 13) rfl))) Via.refl e2 f6 f4 (Or.inr ⟨(hw _ (List.mem_of_getElem? (i := 14) rfl)), rfl, hnm⟩) (hw _ (List.mem_of_getElem? (i := 3) rfl)) (ty := (.object "com/example/rowgate/rowgate/StoredValue$FileBytes")) (by decide) rfl rfl (g := (mkF m 11 #[.val (.ref a), .val (.ref bs), .val (.int ln)] [.null, (.ref a)])) rfl rfl (hb hby own_d_svI_11)
  refine own_by (T' := T10) (g' := (mkF m 14 #[.val (.ref a), .val (.ref bs), .val (.int ln)] [])) st10 ?_
  have N10 := Fr.snoc X10 N2 G0
  have f11 := Nat.le_trans f3 (Keep.of_wr W10).1
  have f12 := Exa.wr W10 f4
  have f13 := Fld.other W10 f5 (Or.inr (slot_ne (Or.inr (hw _ (List.mem_of_getElem? (i := 12) rfl))) (Or.inr (hw _ (List.mem_of_getElem? (i := 14) rfl))) (by decide) (t := (.array .byte)) (t' := (.object "com/example/rowgate/rowgate/StoredValue$FileBytes")) (by decide) (by decide)))
  have f14 := Fld.same W10 f6
  have f15 := Fld.other W10 f7 (Or.inr (slot_ne (Or.inr (hw _ (List.mem_of_getElem? (i := 16) rfl))) (Or.inr (hw _ (List.mem_of_getElem? (i := 14) rfl))) (by decide) (t := .long) (t' := (.object "com/example/rowgate/rowgate/StoredValue$FileBytes")) (by decide) (by decide)))
  have f16 := Fld.other W10 f8 (Or.inr (slot_ne (Or.inr (hw _ (List.mem_of_getElem? (i := 18) rfl))) (Or.inr (hw _ (List.mem_of_getElem? (i := 14) rfl))) (by decide) (t := .int) (t' := (.object "com/example/rowgate/rowgate/StoredValue$FileBytes")) (by decide) (by decide)))
  have f17 := Keep.wr f9 W10 (Or.inl (List.mem_of_getElem? (i := 0) rfl))
  refine own_by (T' := T10) (g' := (mkF m 15 #[.val (.ref a), .val (.ref bs), .val (.int ln)] [(.ref a)])) (fun t_ k_ => XS.aloadN X10.here hx rfl (hb hby own_d_svI_14) rfl rfl k_) ?_
  refine own_by (T' := T10) (g' := (mkF m 16 #[.val (.ref a), .val (.ref bs), .val (.int ln)] [(.long (0 : Int64)), (.ref a)])) (fun t_ k_ => XS.lconst X10.here hx rfl (hb hby own_d_svI_15) k_) ?_
  obtain ⟨T18, h18, X18, e18, W18, st18⟩ := putF X10 hx hZ hown (host := "") (Or.inl (hw _ (List.mem_of_getElem? (i := 15) rfl))) Via.refl e10 f15 f12 (Or.inr ⟨(hw _ (List.mem_of_getElem? (i := 16) rfl)), rfl, hnm⟩) (hw _ (List.mem_of_getElem? (i := 3) rfl)) (ty := .long) (by decide) rfl rfl (g := (mkF m 16 #[.val (.ref a), .val (.ref bs), .val (.int ln)] [(.long (0 : Int64)), (.ref a)])) rfl rfl (hb hby own_d_svI_16)
  refine own_by (T' := T18) (g' := (mkF m 19 #[.val (.ref a), .val (.ref bs), .val (.int ln)] [])) st18 ?_
  have N18 := Fr.snoc X18 N10 G0
  have f19 := Nat.le_trans f11 (Keep.of_wr W18).1
  have f20 := Exa.wr W18 f12
  have f21 := Fld.other W18 f13 (Or.inr (slot_ne (Or.inr (hw _ (List.mem_of_getElem? (i := 12) rfl))) (Or.inr (hw _ (List.mem_of_getElem? (i := 16) rfl))) (by decide) (t := (.array .byte)) (t' := .long) (by decide) (by decide)))
  have f22 := Fld.other W18 f14 (Or.inr (slot_ne (Or.inr (hw _ (List.mem_of_getElem? (i := 14) rfl))) (Or.inr (hw _ (List.mem_of_getElem? (i := 16) rfl))) (by decide) (t := (.object "com/example/rowgate/rowgate/StoredValue$FileBytes")) (t' := .long) (by decide) (by decide)))
  have f23 := Fld.same W18 f15
  have f24 := Fld.other W18 f16 (Or.inr (slot_ne (Or.inr (hw _ (List.mem_of_getElem? (i := 18) rfl))) (Or.inr (hw _ (List.mem_of_getElem? (i := 16) rfl))) (by decide) (t := .int) (t' := .long) (by decide) (by decide)))
  have f25 := Keep.wr f17 W18 (Or.inl (List.mem_of_getElem? (i := 0) rfl))
  refine own_by (T' := T18) (g' := (mkF m 20 #[.val (.ref a), .val (.ref bs), .val (.int ln)] [(.ref a)])) (fun t_ k_ => XS.aloadN X18.here hx rfl (hb hby own_d_svI_19) rfl rfl k_) ?_
  refine own_by (T' := T18) (g' := (mkF m 21 #[.val (.ref a), .val (.ref bs), .val (.int ln)] [(.int ln), (.ref a)])) (fun t_ k_ => XS.iloadN X18.here hx rfl (hb hby own_d_svI_20) rfl k_) ?_
  obtain ⟨T26, h26, X26, e26, W26, st26⟩ := putF X18 hx hZ hown (host := "") (Or.inl (hw _ (List.mem_of_getElem? (i := 17) rfl))) Via.refl e18 f24 f20 (Or.inr ⟨(hw _ (List.mem_of_getElem? (i := 18) rfl)), rfl, hnm⟩) (hw _ (List.mem_of_getElem? (i := 3) rfl)) (ty := .int) (by decide) rfl rfl (g := (mkF m 21 #[.val (.ref a), .val (.ref bs), .val (.int ln)] [(.int ln), (.ref a)])) rfl rfl (hb hby own_d_svI_21)
  refine own_by (T' := T26) (g' := (mkF m 24 #[.val (.ref a), .val (.ref bs), .val (.int ln)] [])) st26 ?_
  have N26 := Fr.snoc X26 N18 G0
  have f27 := Nat.le_trans f19 (Keep.of_wr W26).1
  have f28 := Exa.wr W26 f20
  have f29 := Fld.other W26 f21 (Or.inr (slot_ne (Or.inr (hw _ (List.mem_of_getElem? (i := 12) rfl))) (Or.inr (hw _ (List.mem_of_getElem? (i := 18) rfl))) (by decide) (t := (.array .byte)) (t' := .int) (by decide) (by decide)))
  have f30 := Fld.other W26 f22 (Or.inr (slot_ne (Or.inr (hw _ (List.mem_of_getElem? (i := 14) rfl))) (Or.inr (hw _ (List.mem_of_getElem? (i := 18) rfl))) (by decide) (t := (.object "com/example/rowgate/rowgate/StoredValue$FileBytes")) (t' := .int) (by decide) (by decide)))
  have f31 := Fld.other W26 f23 (Or.inr (slot_ne (Or.inr (hw _ (List.mem_of_getElem? (i := 16) rfl))) (Or.inr (hw _ (List.mem_of_getElem? (i := 18) rfl))) (by decide) (t := .long) (t' := .int) (by decide) (by decide)))
  have f32 := Fld.same W26 f24
  have f33 := Keep.wr f25 W26 (Or.inl (List.mem_of_getElem? (i := 0) rfl))
  refine own_ret0 X26 hx Bd.returns hlk (hb hby own_d_svI_24) (by decide) (by decide) ?_
  rw [e26]
  exact ⟨rfl, N26, f33, f28, f29, f30, f31, f32⟩
theorem own_d_ar_0 : decode prog_43_method_4_code 0 = .ok (.aload_n 0, 1) := by decide +kernel
theorem own_d_ar_1 : decode prog_43_method_4_code 1 = .ok (.getfield 14, 3) := by decide +kernel
theorem own_d_ar_4 : decode prog_43_method_4_code 4 = .ok (.ifnonnull 13, 3) := by decide +kernel
theorem own_d_ar_17 : decode prog_43_method_4_code 17 = .ok (.aload_n 0, 1) := by decide +kernel
theorem own_d_ar_18 : decode prog_43_method_4_code 18 = .ok (.getfield 14, 3) := by decide +kernel
theorem own_d_ar_21 : decode prog_43_method_4_code 21 = .ok (.areturn, 1) := by decide +kernel
theorem own_ef_ar (m : MethodId) (a : Addr) : entryFrame m #[(.ref a)] 1 = mkF m 0 #[.val (.ref a)] [] := by first | (simp [entryFrame, mkF, argsToLocals, Value.category]; done) | rfl
def own_Q_ar (Z : State) (a : Addr) (bs : Addr) (h0 : Heap) (n0 : Nat) (v : Option Value) (h : Heap) (L : List Loc) : Prop := v = some (.ref bs) ∧ Fr n0 L ∧ h = h0
set_option maxRecDepth 65536 in
set_option maxHeartbeats 40000000 in
theorem own_rm_ar (l : Launch) (Z : State) (a0 : Array Value) (hw : ∀ d ∈ tables_1, d.before a0 Z = true) (ws : List Jvm.Cond) (a : Addr) (bs : Addr) (h0 : Heap) (n0 : Nat) (Z0 : n0 ≤ h0.size) (F0 : Fld Z h0 a "com/example/rowgate/rowgate/StoredValue" "bytes" "[B" (.ref bs)) :
    MetFree l (⟨"com/example/rowgate/rowgate/StoredValue", "array", "()[B"⟩ : MethodName) (head1 (Jvm.Cond.code (⟨"com/example/rowgate/rowgate/StoredValue", "array", "()[B"⟩ : MethodName) prog_43_method_4_code 1 (some (.array .byte)) :: ws) ({ frames := 0, cells := 0, slots := 0, locals := 0 } : Room)) (fun a_ U_ => a_ = #[(.ref a)] ∧ Z.Warmed39 U_.vm ∧ U_.heap = h0) (fun _ _ _ _ _ => True) (fun _ U_ o_ U'_ => ∃ v_ L_, o_ = .returned v_ ∧ own_Q_ar Z a bs h0 n0 v_ U'_.heap L_ ∧ FrameEnd U_ o_ U'_ L_ ({ frames := 0, cells := 0, slots := 0, locals := 0 } : Room).cells ({ frames := 0, cells := 0, slots := 0, locals := 0 } : Room).slots) := by
  refine MetFree.of_bodySF (plainFor_of_name own_pn_com_example_rowgate_rowgate_StoredValue) hisR ?_
  intro p e s m args below meth c s₁ Bd hml0 hP hK
  obtain ⟨rfl, hZ, hh⟩ := hP
  have hx := Bd.exec
  have hby := Bd.bytes
  have hlk : meth.locks = false := BodyLoose.notSynchronized Bd
  have hml : c.maxLocals = 1 := hml0
  have hown : s.vm.findClass "com/example/rowgate/rowgate/StoredValue" = some m.cls := findClass_of_methodNamed Bd.named
  have hnm := (name_of_methodNamed Bd.named Bd.method).1
  have X0 : Stand p l e ({ frames := 0, cells := 0, slots := 0, locals := 0 } : Room) s m #[(.ref a)] below meth c s₁ [] 0 0 := Stand.of_body Bd
  have e0 : s₁.heap = h0 := by rw [← hh, Bd.state]; rfl
  have N0 := Fr.nil n0
  show own_Goes p e below (own_K (own_Q_ar Z a bs h0 n0) s ({ frames := 0, cells := 0, slots := 0, locals := 0 } : Room).cells ({ frames := 0, cells := 0, slots := 0, locals := 0 } : Room).slots) s₁ (entryFrame m #[(.ref a)] 1)
  rw [own_ef_ar]
  refine own_by (T' := s₁) (g' := (mkF m 1 #[.val (.ref a)] [(.ref a)])) (fun t_ k_ => XS.aloadN X0.here hx rfl (hb hby own_d_ar_0) rfl rfl k_) ?_
  obtain ⟨T1, X1, e1, st1⟩ := getF X0 hx hZ hown (host := "") (Or.inl (hw _ (List.mem_of_getElem? (i := 11) rfl))) Via.refl e0 F0 (g := (mkF m 1 #[.val (.ref a)] [(.ref a)])) rfl rfl (hb hby own_d_ar_1)
  refine own_by (T' := T1) (g' := (mkF m 4 #[.val (.ref a)] [(.ref bs)])) st1 ?_
  refine own_by (T' := T1) (g' := (mkF m 17 #[.val (.ref a)] [])) (fun t_ k_ => XS.ifnonnullYes X1.here hx rfl (pc0 := 4) (pc' := 17) rfl (hb hby own_d_ar_4) rfl (by decide) (by decide) k_) ?_
  refine own_by (T' := T1) (g' := (mkF m 18 #[.val (.ref a)] [(.ref a)])) (fun t_ k_ => XS.aloadN X1.here hx rfl (hb hby own_d_ar_17) rfl rfl k_) ?_
  obtain ⟨T2, X2, e2, st2⟩ := getF X1 hx hZ hown (host := "") (Or.inl (hw _ (List.mem_of_getElem? (i := 11) rfl))) Via.refl e1 F0 (g := (mkF m 18 #[.val (.ref a)] [(.ref a)])) rfl rfl (hb hby own_d_ar_18)
  refine own_by (T' := T2) (g' := (mkF m 21 #[.val (.ref a)] [(.ref bs)])) st2 ?_
  refine own_retR X2 hx Bd.returns hlk rfl rfl (hb hby own_d_ar_21) (by decide) (by decide) ?_
  rw [e2]
  exact ⟨rfl, N0, rfl⟩
theorem own_d_le_0 : decode prog_43_method_5_code 0 = .ok (.aload_n 0, 1) := by decide +kernel
theorem own_d_le_1 : decode prog_43_method_5_code 1 = .ok (.getfield 26, 3) := by decide +kernel
theorem own_d_le_4 : decode prog_43_method_5_code 4 = .ok (.ireturn, 1) := by decide +kernel
theorem own_ef_le (m : MethodId) (a : Addr) : entryFrame m #[(.ref a)] 1 = mkF m 0 #[.val (.ref a)] [] := by first | (simp [entryFrame, mkF, argsToLocals, Value.category]; done) | rfl
def own_Q_le (Z : State) (a : Addr) (ln : Int32) (h0 : Heap) (n0 : Nat) (v : Option Value) (h : Heap) (L : List Loc) : Prop := v = some (.int ln) ∧ Fr n0 L ∧ h = h0
set_option maxRecDepth 65536 in
set_option maxHeartbeats 40000000 in
theorem own_rm_le (l : Launch) (Z : State) (a0 : Array Value) (hw : ∀ d ∈ tables_1, d.before a0 Z = true) (ws : List Jvm.Cond) (a : Addr) (ln : Int32) (h0 : Heap) (n0 : Nat) (Z0 : n0 ≤ h0.size) (F0 : Fld Z h0 a "com/example/rowgate/rowgate/StoredValue" "length" "I" (.int ln)) :
    MetFree l (⟨"com/example/rowgate/rowgate/StoredValue", "length", "()I"⟩ : MethodName) (head1 (Jvm.Cond.code (⟨"com/example/rowgate/rowgate/StoredValue", "length", "()I"⟩ : MethodName) prog_43_method_5_code 1 (some .int) :: ws) ({ frames := 0, cells := 0, slots := 0, locals := 0 } : Room)) (fun a_ U_ => a_ = #[(.ref a)] ∧ Z.Warmed39 U_.vm ∧ U_.heap = h0) (fun _ _ _ _ _ => True) (fun _ U_ o_ U'_ => ∃ v_ L_, o_ = .returned v_ ∧ own_Q_le Z a ln h0 n0 v_ U'_.heap L_ ∧ FrameEnd U_ o_ U'_ L_ ({ frames := 0, cells := 0, slots := 0, locals := 0 } : Room).cells ({ frames := 0, cells := 0, slots := 0, locals := 0 } : Room).slots) := by
  refine MetFree.of_bodySF (plainFor_of_name own_pn_com_example_rowgate_rowgate_StoredValue) hisR ?_
  intro p e s m args below meth c s₁ Bd hml0 hP hK
  obtain ⟨rfl, hZ, hh⟩ := hP
  have hx := Bd.exec
  have hby := Bd.bytes
  have hlk : meth.locks = false := BodyLoose.notSynchronized Bd
  have hml : c.maxLocals = 1 := hml0
  have hown : s.vm.findClass "com/example/rowgate/rowgate/StoredValue" = some m.cls := findClass_of_methodNamed Bd.named
  have hnm := (name_of_methodNamed Bd.named Bd.method).1
  have X0 : Stand p l e ({ frames := 0, cells := 0, slots := 0, locals := 0 } : Room) s m #[(.ref a)] below meth c s₁ [] 0 0 := Stand.of_body Bd
  have e0 : s₁.heap = h0 := by rw [← hh, Bd.state]; rfl
  have N0 := Fr.nil n0
  show own_Goes p e below (own_K (own_Q_le Z a ln h0 n0) s ({ frames := 0, cells := 0, slots := 0, locals := 0 } : Room).cells ({ frames := 0, cells := 0, slots := 0, locals := 0 } : Room).slots) s₁ (entryFrame m #[(.ref a)] 1)
  rw [own_ef_le]
  refine own_by (T' := s₁) (g' := (mkF m 1 #[.val (.ref a)] [(.ref a)])) (fun t_ k_ => XS.aloadN X0.here hx rfl (hb hby own_d_le_0) rfl rfl k_) ?_
  obtain ⟨T1, X1, e1, st1⟩ := getF X0 hx hZ hown (host := "") (Or.inl (hw _ (List.mem_of_getElem? (i := 17) rfl))) Via.refl e0 F0 (g := (mkF m 1 #[.val (.ref a)] [(.ref a)])) rfl rfl (hb hby own_d_le_1)
  refine own_by (T' := T1) (g' := (mkF m 4 #[.val (.ref a)] [(.int ln)])) st1 ?_
  refine own_retI X1 hx Bd.returns hlk (hb hby own_d_le_4) (by decide) (by decide) ?_
  rw [e1]
  exact ⟨rfl, N0, rfl⟩
theorem own_d_sm_0 : decode method_3_code 0 = .ok (.aload_n 0, 1) := by decide +kernel
theorem own_d_sm_1 : decode method_3_code 1 = .ok (.iconst 0, 1) := by decide +kernel
theorem own_d_sm_2 : decode method_3_code 2 = .ok (.baload, 1) := by decide +kernel
theorem own_d_sm_3 : decode method_3_code 3 = .ok (.iload_n 1, 1) := by decide +kernel
theorem own_d_sm_4 : decode method_3_code 4 = .ok (.i2b, 1) := by decide +kernel
theorem own_d_sm_5 : decode method_3_code 5 = .ok (.if_icmp .ne 32, 3) := by decide +kernel
theorem own_d_sm_8 : decode method_3_code 8 = .ok (.aload_n 0, 1) := by decide +kernel
theorem own_d_sm_9 : decode method_3_code 9 = .ok (.iconst 1, 1) := by decide +kernel
theorem own_d_sm_10 : decode method_3_code 10 = .ok (.baload, 1) := by decide +kernel
theorem own_d_sm_11 : decode method_3_code 11 = .ok (.iload_n 2, 1) := by decide +kernel
theorem own_d_sm_12 : decode method_3_code 12 = .ok (.i2b, 1) := by decide +kernel
theorem own_d_sm_13 : decode method_3_code 13 = .ok (.if_icmp .ne 24, 3) := by decide +kernel
theorem own_d_sm_16 : decode method_3_code 16 = .ok (.aload_n 0, 1) := by decide +kernel
theorem own_d_sm_17 : decode method_3_code 17 = .ok (.iconst 2, 1) := by decide +kernel
theorem own_d_sm_18 : decode method_3_code 18 = .ok (.baload, 1) := by decide +kernel
theorem own_d_sm_19 : decode method_3_code 19 = .ok (.iload_n 3, 1) := by decide +kernel
theorem own_d_sm_20 : decode method_3_code 20 = .ok (.i2b, 1) := by decide +kernel
theorem own_d_sm_21 : decode method_3_code 21 = .ok (.if_icmp .ne 16, 3) := by decide +kernel
theorem own_d_sm_24 : decode method_3_code 24 = .ok (.aload_n 0, 1) := by decide +kernel
theorem own_d_sm_25 : decode method_3_code 25 = .ok (.iconst 3, 1) := by decide +kernel
theorem own_d_sm_26 : decode method_3_code 26 = .ok (.baload, 1) := by decide +kernel
theorem own_d_sm_27 : decode method_3_code 27 = .ok (.iload 4, 2) := by decide +kernel
theorem own_d_sm_29 : decode method_3_code 29 = .ok (.i2b, 1) := by decide +kernel
theorem own_d_sm_30 : decode method_3_code 30 = .ok (.if_icmp .ne 7, 3) := by decide +kernel
theorem own_d_sm_33 : decode method_3_code 33 = .ok (.iconst 1, 1) := by decide +kernel
theorem own_d_sm_34 : decode method_3_code 34 = .ok (.goto 4, 3) := by decide +kernel
theorem own_d_sm_38 : decode method_3_code 38 = .ok (.ireturn, 1) := by decide +kernel
theorem own_pn_com_example_rowgate_rowgate_StoredValueArrayPinLaw : plainName "com/example/rowgate/rowgate/StoredValueArrayPinLaw" = true := by first | (simp [plainName, overriddenIn]; done) | decide +kernel
theorem own_ef_sm (m : MethodId) (a : Addr) (x0 : Int32) (x1 : Int32) (x2 : Int32) (x3 : Int32) : entryFrame m #[(.ref a), (.int x0), (.int x1), (.int x2), (.int x3)] 5 = mkF m 0 #[.val (.ref a), .val (.int x0), .val (.int x1), .val (.int x2), .val (.int x3)] [] := by first | (simp [entryFrame, mkF, argsToLocals, Value.category]; done) | rfl
def own_Q_sm (Z : State) (a : Addr) (x0 : Int32) (x1 : Int32) (x2 : Int32) (x3 : Int32) (nl : Nat) (f : Nat → Int32) (h0 : Heap) (n0 : Nat) (v : Option Value) (h : Heap) (L : List Loc) : Prop := v = some (.int 1) ∧ Fr n0 L ∧ h = h0
set_option maxRecDepth 65536 in
set_option maxHeartbeats 40000000 in
theorem own_rm_sm (l : Launch) (Z : State) (a0 : Array Value) (hw : ∀ d ∈ tables_1, d.before a0 Z = true) (ws : List Jvm.Cond) (a : Addr) (x0 : Int32) (x1 : Int32) (x2 : Int32) (x3 : Int32) (nl : Nat) (f : Nat → Int32) (h0 : Heap) (n0 : Nat) (Z0 : n0 ≤ h0.size) (V0 : own_Ia Z h0 a .byte nl f) (hnl : 4 ≤ nl) (e0_ : f 0 = x0.toInt8.toInt32) (e1_ : f 1 = x1.toInt8.toInt32) (e2_ : f 2 = x2.toInt8.toInt32) (e3_ : f 3 = x3.toInt8.toInt32) :
    MetFree l (⟨"com/example/rowgate/rowgate/StoredValueArrayPinLaw", "same", "([BIIII)Z"⟩ : MethodName) (head1 (Jvm.Cond.code (⟨"com/example/rowgate/rowgate/StoredValueArrayPinLaw", "same", "([BIIII)Z"⟩ : MethodName) method_3_code 5 (some .boolean) :: ws) ({ frames := 0, cells := 0, slots := 0, locals := 0 } : Room)) (fun a_ U_ => a_ = #[(.ref a), (.int x0), (.int x1), (.int x2), (.int x3)] ∧ Z.Warmed39 U_.vm ∧ U_.heap = h0) (fun _ _ _ _ _ => True) (fun _ U_ o_ U'_ => ∃ v_ L_, o_ = .returned v_ ∧ own_Q_sm Z a x0 x1 x2 x3 nl f h0 n0 v_ U'_.heap L_ ∧ FrameEnd U_ o_ U'_ L_ ({ frames := 0, cells := 0, slots := 0, locals := 0 } : Room).cells ({ frames := 0, cells := 0, slots := 0, locals := 0 } : Room).slots) := by
  refine MetFree.of_bodySF (plainFor_of_name own_pn_com_example_rowgate_rowgate_StoredValueArrayPinLaw) hisR ?_
  intro p e s m args below meth c s₁ Bd hml0 hP hK
  obtain ⟨rfl, hZ, hh⟩ := hP
  have hx := Bd.exec
  have hby := Bd.bytes
  have hlk : meth.locks = false := BodyLoose.notSynchronized Bd
  have hml : c.maxLocals = 5 := hml0
  have hown : s.vm.findClass "com/example/rowgate/rowgate/StoredValueArrayPinLaw" = some m.cls := findClass_of_methodNamed Bd.named
  have hnm := (name_of_methodNamed Bd.named Bd.method).1
  have X0 : Stand p l e ({ frames := 0, cells := 0, slots := 0, locals := 0 } : Room) s m #[(.ref a), (.int x0), (.int x1), (.int x2), (.int x3)] below meth c s₁ [] 0 0 := Stand.of_body Bd
  have e0 : s₁.heap = h0 := by rw [← hh, Bd.state]; rfl
  have N0 := Fr.nil n0
  show own_Goes p e below (own_K (own_Q_sm Z a x0 x1 x2 x3 nl f h0 n0) s ({ frames := 0, cells := 0, slots := 0, locals := 0 } : Room).cells ({ frames := 0, cells := 0, slots := 0, locals := 0 } : Room).slots) s₁ (entryFrame m #[(.ref a), (.int x0), (.int x1), (.int x2), (.int x3)] 5)
  rw [own_ef_sm]
  refine own_by (T' := s₁) (g' := (mkF m 1 #[.val (.ref a), .val (.int x0), .val (.int x1), .val (.int x2), .val (.int x3)] [(.ref a)])) (fun t_ k_ => XS.aloadN X0.here hx rfl (hb hby own_d_sm_0) rfl rfl k_) ?_
  refine own_by (T' := s₁) (g' := (mkF m 2 #[.val (.ref a), .val (.int x0), .val (.int x1), .val (.int x2), .val (.int x3)] [(.int (0 : Int32)), (.ref a)])) (fun t_ k_ => XS.iconst X0.here hx rfl (hb hby own_d_sm_1) k_) ?_
  refine own_by (T' := s₁) (g' := (mkF m 3 #[.val (.ref a), .val (.int x0), .val (.int x1), .val (.int x2), .val (.int x3)] [(.int (f 0))])) (fun t_ k_ => own_bal X0 hx hZ e0 V0 (j := (0 : Int32)) (by decide) (Nat.lt_of_lt_of_le (by decide) hnl) (g := (mkF m 2 #[.val (.ref a), .val (.int x0), .val (.int x1), .val (.int x2), .val (.int x3)] [(.int (0 : Int32)), (.ref a)])) rfl rfl (hb hby own_d_sm_2) _ k_) ?_
  refine own_by (T' := s₁) (g' := (mkF m 4 #[.val (.ref a), .val (.int x0), .val (.int x1), .val (.int x2), .val (.int x3)] [(.int x0), (.int (f 0))])) (fun t_ k_ => XS.iloadN X0.here hx rfl (hb hby own_d_sm_3) rfl k_) ?_
  refine own_by (T' := s₁) (g' := (mkF m 5 #[.val (.ref a), .val (.int x0), .val (.int x1), .val (.int x2), .val (.int x3)] [(.int x0.toInt8.toInt32), (.int (f 0))])) (fun t_ k_ => XS.i2b X0.here hx rfl (hb hby own_d_sm_4) rfl k_) ?_
  refine own_by (T' := s₁) (g' := (mkF m 8 #[.val (.ref a), .val (.int x0), .val (.int x1), .val (.int x2), .val (.int x3)] [])) (fun t_ k_ => XS.icmpNo X0.here hx rfl (hb hby own_d_sm_5) rfl (teq (e0_ : (f 0) = x0.toInt8.toInt32)).2 k_) ?_
  refine own_by (T' := s₁) (g' := (mkF m 9 #[.val (.ref a), .val (.int x0), .val (.int x1), .val (.int x2), .val (.int x3)] [(.ref a)])) (fun t_ k_ => XS.aloadN X0.here hx rfl (hb hby own_d_sm_8) rfl rfl k_) ?_
  refine own_by (T' := s₁) (g' := (mkF m 10 #[.val (.ref a), .val (.int x0), .val (.int x1), .val (.int x2), .val (.int x3)] [(.int (1 : Int32)), (.ref a)])) (fun t_ k_ => XS.iconst X0.here hx rfl (hb hby own_d_sm_9) k_) ?_
  refine own_by (T' := s₁) (g' := (mkF m 11 #[.val (.ref a), .val (.int x0), .val (.int x1), .val (.int x2), .val (.int x3)] [(.int (f 1))])) (fun t_ k_ => own_bal X0 hx hZ e0 V0 (j := (1 : Int32)) (by decide) (Nat.lt_of_lt_of_le (by decide) hnl) (g := (mkF m 10 #[.val (.ref a), .val (.int x0), .val (.int x1), .val (.int x2), .val (.int x3)] [(.int (1 : Int32)), (.ref a)])) rfl rfl (hb hby own_d_sm_10) _ k_) ?_
  refine own_by (T' := s₁) (g' := (mkF m 12 #[.val (.ref a), .val (.int x0), .val (.int x1), .val (.int x2), .val (.int x3)] [(.int x1), (.int (f 1))])) (fun t_ k_ => XS.iloadN X0.here hx rfl (hb hby own_d_sm_11) rfl k_) ?_
  refine own_by (T' := s₁) (g' := (mkF m 13 #[.val (.ref a), .val (.int x0), .val (.int x1), .val (.int x2), .val (.int x3)] [(.int x1.toInt8.toInt32), (.int (f 1))])) (fun t_ k_ => XS.i2b X0.here hx rfl (hb hby own_d_sm_12) rfl k_) ?_
  refine own_by (T' := s₁) (g' := (mkF m 16 #[.val (.ref a), .val (.int x0), .val (.int x1), .val (.int x2), .val (.int x3)] [])) (fun t_ k_ => XS.icmpNo X0.here hx rfl (hb hby own_d_sm_13) rfl (teq (e1_ : (f 1) = x1.toInt8.toInt32)).2 k_) ?_
  refine own_by (T' := s₁) (g' := (mkF m 17 #[.val (.ref a), .val (.int x0), .val (.int x1), .val (.int x2), .val (.int x3)] [(.ref a)])) (fun t_ k_ => XS.aloadN X0.here hx rfl (hb hby own_d_sm_16) rfl rfl k_) ?_
  refine own_by (T' := s₁) (g' := (mkF m 18 #[.val (.ref a), .val (.int x0), .val (.int x1), .val (.int x2), .val (.int x3)] [(.int (2 : Int32)), (.ref a)])) (fun t_ k_ => XS.iconst X0.here hx rfl (hb hby own_d_sm_17) k_) ?_
  refine own_by (T' := s₁) (g' := (mkF m 19 #[.val (.ref a), .val (.int x0), .val (.int x1), .val (.int x2), .val (.int x3)] [(.int (f 2))])) (fun t_ k_ => own_bal X0 hx hZ e0 V0 (j := (2 : Int32)) (by decide) (Nat.lt_of_lt_of_le (by decide) hnl) (g := (mkF m 18 #[.val (.ref a), .val (.int x0), .val (.int x1), .val (.int x2), .val (.int x3)] [(.int (2 : Int32)), (.ref a)])) rfl rfl (hb hby own_d_sm_18) _ k_) ?_
  refine own_by (T' := s₁) (g' := (mkF m 20 #[.val (.ref a), .val (.int x0), .val (.int x1), .val (.int x2), .val (.int x3)] [(.int x2), (.int (f 2))])) (fun t_ k_ => XS.iloadN X0.here hx rfl (hb hby own_d_sm_19) rfl k_) ?_
  refine own_by (T' := s₁) (g' := (mkF m 21 #[.val (.ref a), .val (.int x0), .val (.int x1), .val (.int x2), .val (.int x3)] [(.int x2.toInt8.toInt32), (.int (f 2))])) (fun t_ k_ => XS.i2b X0.here hx rfl (hb hby own_d_sm_20) rfl k_) ?_
  refine own_by (T' := s₁) (g' := (mkF m 24 #[.val (.ref a), .val (.int x0), .val (.int x1), .val (.int x2), .val (.int x3)] [])) (fun t_ k_ => XS.icmpNo X0.here hx rfl (hb hby own_d_sm_21) rfl (teq (e2_ : (f 2) = x2.toInt8.toInt32)).2 k_) ?_
  refine own_by (T' := s₁) (g' := (mkF m 25 #[.val (.ref a), .val (.int x0), .val (.int x1), .val (.int x2), .val (.int x3)] [(.ref a)])) (fun t_ k_ => XS.aloadN X0.here hx rfl (hb hby own_d_sm_24) rfl rfl k_) ?_
  refine own_by (T' := s₁) (g' := (mkF m 26 #[.val (.ref a), .val (.int x0), .val (.int x1), .val (.int x2), .val (.int x3)] [(.int (3 : Int32)), (.ref a)])) (fun t_ k_ => XS.iconst X0.here hx rfl (hb hby own_d_sm_25) k_) ?_
  refine own_by (T' := s₁) (g' := (mkF m 27 #[.val (.ref a), .val (.int x0), .val (.int x1), .val (.int x2), .val (.int x3)] [(.int (f 3))])) (fun t_ k_ => own_bal X0 hx hZ e0 V0 (j := (3 : Int32)) (by decide) (Nat.lt_of_lt_of_le (by decide) hnl) (g := (mkF m 26 #[.val (.ref a), .val (.int x0), .val (.int x1), .val (.int x2), .val (.int x3)] [(.int (3 : Int32)), (.ref a)])) rfl rfl (hb hby own_d_sm_26) _ k_) ?_
  refine own_by (T' := s₁) (g' := (mkF m 29 #[.val (.ref a), .val (.int x0), .val (.int x1), .val (.int x2), .val (.int x3)] [(.int x3), (.int (f 3))])) (fun t_ k_ => XS.iload X0.here hx rfl (hb hby own_d_sm_27) rfl k_) ?_
  refine own_by (T' := s₁) (g' := (mkF m 30 #[.val (.ref a), .val (.int x0), .val (.int x1), .val (.int x2), .val (.int x3)] [(.int x3.toInt8.toInt32), (.int (f 3))])) (fun t_ k_ => XS.i2b X0.here hx rfl (hb hby own_d_sm_29) rfl k_) ?_
  refine own_by (T' := s₁) (g' := (mkF m 33 #[.val (.ref a), .val (.int x0), .val (.int x1), .val (.int x2), .val (.int x3)] [])) (fun t_ k_ => XS.icmpNo X0.here hx rfl (hb hby own_d_sm_30) rfl (teq (e3_ : (f 3) = x3.toInt8.toInt32)).2 k_) ?_
  refine own_by (T' := s₁) (g' := (mkF m 34 #[.val (.ref a), .val (.int x0), .val (.int x1), .val (.int x2), .val (.int x3)] [(.int (1 : Int32))])) (fun t_ k_ => XS.iconst X0.here hx rfl (hb hby own_d_sm_33) k_) ?_
  refine own_by (T' := s₁) (g' := (mkF m 38 #[.val (.ref a), .val (.int x0), .val (.int x1), .val (.int x2), .val (.int x3)] [(.int (1 : Int32))])) (fun t_ k_ => XS.goto X0.here hx rfl (pc0 := 34) (pc' := 38) rfl (hb hby own_d_sm_34) (by decide) (by decide) k_) ?_
  refine own_retN X0 hx (t := .boolean) Bd.returns hlk (by simp) (hb hby own_d_sm_38) (by decide) (by decide) (v := (1 : Int32)) rfl ?_
  rw [e0]
  exact ⟨rfl, N0, rfl⟩
theorem own_d_or0_0 : decode method_2_code 0 = .ok (.iload_n 0, 1) := by decide +kernel
theorem own_d_or0_1 : decode method_2_code 1 = .ok (.ifCond .ne 6, 3) := by decide +kernel
theorem own_d_or0_4 : decode method_2_code 4 = .ok (.iload_n 1, 1) := by decide +kernel
theorem own_d_or0_5 : decode method_2_code 5 = .ok (.i2b, 1) := by decide +kernel
theorem own_d_or0_6 : decode method_2_code 6 = .ok (.ireturn, 1) := by decide +kernel
theorem own_ef_or0 (m : MethodId) (x0 : Int32) (x1 : Int32) (x2 : Int32) (x3 : Int32) : entryFrame m #[(.int (0 : Int32)), (.int x0), (.int x1), (.int x2), (.int x3)] 5 = mkF m 0 #[.val (.int (0 : Int32)), .val (.int x0), .val (.int x1), .val (.int x2), .val (.int x3)] [] := by first | (simp [entryFrame, mkF, argsToLocals, Value.category]; done) | rfl
def own_Q_or0 (Z : State) (x0 : Int32) (x1 : Int32) (x2 : Int32) (x3 : Int32) (h0 : Heap) (n0 : Nat) (v : Option Value) (h : Heap) (L : List Loc) : Prop := v = some (.int x0.toInt8.toInt32) ∧ Fr n0 L ∧ h = h0
set_option maxRecDepth 65536 in
set_option maxHeartbeats 40000000 in
theorem own_rm_or0 (l : Launch) (Z : State) (a0 : Array Value) (hw : ∀ d ∈ tables_1, d.before a0 Z = true) (ws : List Jvm.Cond) (x0 : Int32) (x1 : Int32) (x2 : Int32) (x3 : Int32) (h0 : Heap) (n0 : Nat) (Z0 : n0 ≤ h0.size) :
    MetFree l (⟨"com/example/rowgate/rowgate/StoredValueArrayPinLaw", "orig", "(IIIII)B"⟩ : MethodName) (head1 (Jvm.Cond.code (⟨"com/example/rowgate/rowgate/StoredValueArrayPinLaw", "orig", "(IIIII)B"⟩ : MethodName) method_2_code 5 (some .byte) :: ws) ({ frames := 0, cells := 0, slots := 0, locals := 0 } : Room)) (fun a_ U_ => a_ = #[(.int (0 : Int32)), (.int x0), (.int x1), (.int x2), (.int x3)] ∧ Z.Warmed39 U_.vm ∧ U_.heap = h0) (fun _ _ _ _ _ => True) (fun _ U_ o_ U'_ => ∃ v_ L_, o_ = .returned v_ ∧ own_Q_or0 Z x0 x1 x2 x3 h0 n0 v_ U'_.heap L_ ∧ FrameEnd U_ o_ U'_ L_ ({ frames := 0, cells := 0, slots := 0, locals := 0 } : Room).cells ({ frames := 0, cells := 0, slots := 0, locals := 0 } : Room).slots) := by
  refine MetFree.of_bodySF (plainFor_of_name own_pn_com_example_rowgate_rowgate_StoredValueArrayPinLaw) hisR ?_
  intro p e s m args below meth c s₁ Bd hml0 hP hK
  obtain ⟨rfl, hZ, hh⟩ := hP
  have hx := Bd.exec
  have hby := Bd.bytes
  have hlk : meth.locks = false := BodyLoose.notSynchronized Bd
  have hml : c.maxLocals = 5 := hml0
  have hown : s.vm.findClass "com/example/rowgate/rowgate/StoredValueArrayPinLaw" = some m.cls := findClass_of_methodNamed Bd.named
  have hnm := (name_of_methodNamed Bd.named Bd.method).1
  have X0 : Stand p l e ({ frames := 0, cells := 0, slots := 0, locals := 0 } : Room) s m #[(.int (0 : Int32)), (.int x0), (.int x1), (.int x2), (.int x3)] below meth c s₁ [] 0 0 := Stand.of_body Bd
  have e0 : s₁.heap = h0 := by rw [← hh, Bd.state]; rfl
  have N0 := Fr.nil n0
  show own_Goes p e below (own_K (own_Q_or0 Z x0 x1 x2 x3 h0 n0) s ({ frames := 0, cells := 0, slots := 0, locals := 0 } : Room).cells ({ frames := 0, cells := 0, slots := 0, locals := 0 } : Room).slots) s₁ (entryFrame m #[(.int (0 : Int32)), (.int x0), (.int x1), (.int x2), (.int x3)] 5)
  rw [own_ef_or0]
  refine own_by (T' := s₁) (g' := (mkF m 1 #[.val (.int (0 : Int32)), .val (.int x0), .val (.int x1), .val (.int x2), .val (.int x3)] [(.int (0 : Int32))])) (fun t_ k_ => XS.iloadN X0.here hx rfl (hb hby own_d_or0_0) rfl k_) ?_
  refine own_by (T' := s₁) (g' := (mkF m 4 #[.val (.int (0 : Int32)), .val (.int x0), .val (.int x1), .val (.int x2), .val (.int x3)] [])) (fun t_ k_ => XS.ifNo X0.here hx rfl (hb hby own_d_or0_1) rfl ((if0 _ _).trans (teq ((by decide) : (0 : Int32) = (0 : Int32))).2) k_) ?_
  refine own_by (T' := s₁) (g' := (mkF m 5 #[.val (.int (0 : Int32)), .val (.int x0), .val (.int x1), .val (.int x2), .val (.int x3)] [(.int x0)])) (fun t_ k_ => XS.iloadN X0.here hx rfl (hb hby own_d_or0_4) rfl k_) ?_
  refine own_by (T' := s₁) (g' := (mkF m 6 #[.val (.int (0 : Int32)), .val (.int x0), .val (.int x1), .val (.int x2), .val (.int x3)] [(.int x0.toInt8.toInt32)])) (fun t_ k_ => XS.i2b X0.here hx rfl (hb hby own_d_or0_5) rfl k_) ?_
  refine own_retN X0 hx (t := .byte) Bd.returns hlk (by simp) (hb hby own_d_or0_6) (by decide) (by decide) (v := x0.toInt8.toInt32) (own_nb _) ?_
  rw [e0]
  exact ⟨rfl, N0, rfl⟩
theorem own_d_or1_0 : decode method_2_code 0 = .ok (.iload_n 0, 1) := by decide +kernel
theorem own_d_or1_1 : decode method_2_code 1 = .ok (.ifCond .ne 6, 3) := by decide +kernel
theorem own_d_or1_7 : decode method_2_code 7 = .ok (.iload_n 0, 1) := by decide +kernel
theorem own_d_or1_8 : decode method_2_code 8 = .ok (.iconst 1, 1) := by decide +kernel
theorem own_d_or1_9 : decode method_2_code 9 = .ok (.if_icmp .ne 6, 3) := by decide +kernel
theorem own_d_or1_12 : decode method_2_code 12 = .ok (.iload_n 2, 1) := by decide +kernel
theorem own_d_or1_13 : decode method_2_code 13 = .ok (.i2b, 1) := by decide +kernel
theorem own_d_or1_14 : decode method_2_code 14 = .ok (.ireturn, 1) := by decide +kernel
theorem own_ef_or1 (m : MethodId) (x0 : Int32) (x1 : Int32) (x2 : Int32) (x3 : Int32) : entryFrame m #[(.int (1 : Int32)), (.int x0), (.int x1), (.int x2), (.int x3)] 5 = mkF m 0 #[.val (.int (1 : Int32)), .val (.int x0), .val (.int x1), .val (.int x2), .val (.int x3)] [] := by first | (simp [entryFrame, mkF, argsToLocals, Value.category]; done) | rfl
def own_Q_or1 (Z : State) (x0 : Int32) (x1 : Int32) (x2 : Int32) (x3 : Int32) (h0 : Heap) (n0 : Nat) (v : Option Value) (h : Heap) (L : List Loc) : Prop := v = some (.int x1.toInt8.toInt32) ∧ Fr n0 L ∧ h = h0
set_option maxRecDepth 65536 in
set_option maxHeartbeats 40000000 in
theorem own_rm_or1 (l : Launch) (Z : State) (a0 : Array Value) (hw : ∀ d ∈ tables_1, d.before a0 Z = true) (ws : List Jvm.Cond) (x0 : Int32) (x1 : Int32) (x2 : Int32) (x3 : Int32) (h0 : Heap) (n0 : Nat) (Z0 : n0 ≤ h0.size) :
    MetFree l (⟨"com/example/rowgate/rowgate/StoredValueArrayPinLaw", "orig", "(IIIII)B"⟩ : MethodName) (head1 (Jvm.Cond.code (⟨"com/example/rowgate/rowgate/StoredValueArrayPinLaw", "orig", "(IIIII)B"⟩ : MethodName) method_2_code 5 (some .byte) :: ws) ({ frames := 0, cells := 0, slots := 0, locals := 0 } : Room)) (fun a_ U_ => a_ = #[(.int (1 : Int32)), (.int x0), (.int x1), (.int x2), (.int x3)] ∧ Z.Warmed39 U_.vm ∧ U_.heap = h0) (fun _ _ _ _ _ => True) (fun _ U_ o_ U'_ => ∃ v_ L_, o_ = .returned v_ ∧ own_Q_or1 Z x0 x1 x2 x3 h0 n0 v_ U'_.heap L_ ∧ FrameEnd U_ o_ U'_ L_ ({ frames := 0, cells := 0, slots := 0, locals := 0 } : Room).cells ({ frames := 0, cells := 0, slots := 0, locals := 0 } : Room).slots) := by
  refine MetFree.of_bodySF (plainFor_of_name own_pn_com_example_rowgate_rowgate_StoredValueArrayPinLaw) hisR ?_
  intro p e s m args below meth c s₁ Bd hml0 hP hK
  obtain ⟨rfl, hZ, hh⟩ := hP
  have hx := Bd.exec
  have hby := Bd.bytes
  have hlk : meth.locks = false := BodyLoose.notSynchronized Bd
  have hml : c.maxLocals = 5 := hml0
  have hown : s.vm.findClass "com/example/rowgate/rowgate/StoredValueArrayPinLaw" = some m.cls := findClass_of_methodNamed Bd.named
  have hnm := (name_of_methodNamed Bd.named Bd.method).1
  have X0 : Stand p l e ({ frames := 0, cells := 0, slots := 0, locals := 0 } : Room) s m #[(.int (1 : Int32)), (.int x0), (.int x1), (.int x2), (.int x3)] below meth c s₁ [] 0 0 := Stand.of_body Bd
  have e0 : s₁.heap = h0 := by rw [← hh, Bd.state]; rfl
  have N0 := Fr.nil n0
  show own_Goes p e below (own_K (own_Q_or1 Z x0 x1 x2 x3 h0 n0) s ({ frames := 0, cells := 0, slots := 0, locals := 0 } : Room).cells ({ frames := 0, cells := 0, slots := 0, locals := 0 } : Room).slots) s₁ (entryFrame m #[(.int (1 : Int32)), (.int x0), (.int x1), (.int x2), (.int x3)] 5)
  rw [own_ef_or1]
  refine own_by (T' := s₁) (g' := (mkF m 1 #[.val (.int (1 : Int32)), .val (.int x0), .val (.int x1), .val (.int x2), .val (.int x3)] [(.int (1 : Int32))])) (fun t_ k_ => XS.iloadN X0.here hx rfl (hb hby own_d_or1_0) rfl k_) ?_
  refine own_by (T' := s₁) (g' := (mkF m 7 #[.val (.int (1 : Int32)), .val (.int x0), .val (.int x1), .val (.int x2), .val (.int x3)] [])) (fun t_ k_ => XS.ifYes X0.here hx rfl (pc0 := 1) (pc' := 7) rfl (hb hby own_d_or1_1) rfl ((if0 _ _).trans (feq ((by decide) : ¬ ((1 : Int32) = (0 : Int32)))).2) (by decide) (by decide) k_) ?_
  refine own_by (T' := s₁) (g' := (mkF m 8 #[.val (.int (1 : Int32)), .val (.int x0), .val (.int x1), .val (.int x2), .val (.int x3)] [(.int (1 : Int32))])) (fun t_ k_ => XS.iloadN X0.here hx rfl (hb hby own_d_or1_7) rfl k_) ?_
  refine own_by (T' := s₁) (g' := (mkF m 9 #[.val (.int (1 : Int32)), .val (.int x0), .val (.int x1), .val (.int x2), .val (.int x3)] [(.int (1 : Int32)), (.int (1 : Int32))])) (fun t_ k_ => XS.iconst X0.here hx rfl (hb hby own_d_or1_8) k_) ?_
  refine own_by (T' := s₁) (g' := (mkF m 12 #[.val (.int (1 : Int32)), .val (.int x0), .val (.int x1), .val (.int x2), .val (.int x3)] [])) (fun t_ k_ => XS.icmpNo X0.here hx rfl (hb hby own_d_or1_9) rfl (teq ((by decide) : (1 : Int32) = (1 : Int32))).2 k_) ?_
  refine own_by (T' := s₁) (g' := (mkF m 13 #[.val (.int (1 : Int32)), .val (.int x0), .val (.int x1), .val (.int x2), .val (.int x3)] [(.int x1)])) (fun t_ k_ => XS.iloadN X0.here hx rfl (hb hby own_d_or1_12) rfl k_) ?_
  refine own_by (T' := s₁) (g' := (mkF m 14 #[.val (.int (1 : Int32)), .val (.int x0), .val (.int x1), .val (.int x2), .val (.int x3)] [(.int x1.toInt8.toInt32)])) (fun t_ k_ => XS.i2b X0.here hx rfl (hb hby own_d_or1_13) rfl k_) ?_
  refine own_retN X0 hx (t := .byte) Bd.returns hlk (by simp) (hb hby own_d_or1_14) (by decide) (by decide) (v := x1.toInt8.toInt32) (own_nb _) ?_
  rw [e0]
  exact ⟨rfl, N0, rfl⟩
theorem own_d_or2_0 : decode method_2_code 0 = .ok (.iload_n 0, 1) := by decide +kernel
theorem own_d_or2_1 : decode method_2_code 1 = .ok (.ifCond .ne 6, 3) := by decide +kernel
theorem own_d_or2_7 : decode method_2_code 7 = .ok (.iload_n 0, 1) := by decide +kernel
theorem own_d_or2_8 : decode method_2_code 8 = .ok (.iconst 1, 1) := by decide +kernel
theorem own_d_or2_9 : decode method_2_code 9 = .ok (.if_icmp .ne 6, 3) := by decide +kernel
theorem own_d_or2_15 : decode method_2_code 15 = .ok (.iload_n 0, 1) := by decide +kernel
theorem own_d_or2_16 : decode method_2_code 16 = .ok (.iconst 2, 1) := by decide +kernel
theorem own_d_or2_17 : decode method_2_code 17 = .ok (.if_icmp .ne 6, 3) := by decide +kernel
theorem own_d_or2_20 : decode method_2_code 20 = .ok (.iload_n 3, 1) := by decide +kernel
theorem own_d_or2_21 : decode method_2_code 21 = .ok (.i2b, 1) := by decide +kernel
theorem own_d_or2_22 : decode method_2_code 22 = .ok (.ireturn, 1) := by decide +kernel
theorem own_ef_or2 (m : MethodId) (x0 : Int32) (x1 : Int32) (x2 : Int32) (x3 : Int32) : entryFrame m #[(.int (2 : Int32)), (.int x0), (.int x1), (.int x2), (.int x3)] 5 = mkF m 0 #[.val (.int (2 : Int32)), .val (.int x0), .val (.int x1), .val (.int x2), .val (.int x3)] [] := by first | (simp [entryFrame, mkF, argsToLocals, Value.category]; done) | rfl
def own_Q_or2 (Z : State) (x0 : Int32) (x1 : Int32) (x2 : Int32) (x3 : Int32) (h0 : Heap) (n0 : Nat) (v : Option Value) (h : Heap) (L : List Loc) : Prop := v = some (.int x2.toInt8.toInt32) ∧ Fr n0 L ∧ h = h0
set_option maxRecDepth 65536 in
set_option maxHeartbeats 40000000 in
theorem own_rm_or2 (l : Launch) (Z : State) (a0 : Array Value) (hw : ∀ d ∈ tables_1, d.before a0 Z = true) (ws : List Jvm.Cond) (x0 : Int32) (x1 : Int32) (x2 : Int32) (x3 : Int32) (h0 : Heap) (n0 : Nat) (Z0 : n0 ≤ h0.size) :
    MetFree l (⟨"com/example/rowgate/rowgate/StoredValueArrayPinLaw", "orig", "(IIIII)B"⟩ : MethodName) (head1 (Jvm.Cond.code (⟨"com/example/rowgate/rowgate/StoredValueArrayPinLaw", "orig", "(IIIII)B"⟩ : MethodName) method_2_code 5 (some .byte) :: ws) ({ frames := 0, cells := 0, slots := 0, locals := 0 } : Room)) (fun a_ U_ => a_ = #[(.int (2 : Int32)), (.int x0), (.int x1), (.int x2), (.int x3)] ∧ Z.Warmed39 U_.vm ∧ U_.heap = h0) (fun _ _ _ _ _ => True) (fun _ U_ o_ U'_ => ∃ v_ L_, o_ = .returned v_ ∧ own_Q_or2 Z x0 x1 x2 x3 h0 n0 v_ U'_.heap L_ ∧ FrameEnd U_ o_ U'_ L_ ({ frames := 0, cells := 0, slots := 0, locals := 0 } : Room).cells ({ frames := 0, cells := 0, slots := 0, locals := 0 } : Room).slots) := by
  refine MetFree.of_bodySF (plainFor_of_name own_pn_com_example_rowgate_rowgate_StoredValueArrayPinLaw) hisR ?_
  intro p e s m args below meth c s₁ Bd hml0 hP hK
  obtain ⟨rfl, hZ, hh⟩ := hP
  have hx := Bd.exec
  have hby := Bd.bytes
  have hlk : meth.locks = false := BodyLoose.notSynchronized Bd
  have hml : c.maxLocals = 5 := hml0
  have hown : s.vm.findClass "com/example/rowgate/rowgate/StoredValueArrayPinLaw" = some m.cls := findClass_of_methodNamed Bd.named
  have hnm := (name_of_methodNamed Bd.named Bd.method).1
  have X0 : Stand p l e ({ frames := 0, cells := 0, slots := 0, locals := 0 } : Room) s m #[(.int (2 : Int32)), (.int x0), (.int x1), (.int x2), (.int x3)] below meth c s₁ [] 0 0 := Stand.of_body Bd
  have e0 : s₁.heap = h0 := by rw [← hh, Bd.state]; rfl
  have N0 := Fr.nil n0
  show own_Goes p e below (own_K (own_Q_or2 Z x0 x1 x2 x3 h0 n0) s ({ frames := 0, cells := 0, slots := 0, locals := 0 } : Room).cells ({ frames := 0, cells := 0, slots := 0, locals := 0 } : Room).slots) s₁ (entryFrame m #[(.int (2 : Int32)), (.int x0), (.int x1), (.int x2), (.int x3)] 5)
  rw [own_ef_or2]
  refine own_by (T' := s₁) (g' := (mkF m 1 #[.val (.int (2 : Int32)), .val (.int x0), .val (.int x1), .val (.int x2), .val (.int x3)] [(.int (2 : Int32))])) (fun t_ k_ => XS.iloadN X0.here hx rfl (hb hby own_d_or2_0) rfl k_) ?_
  refine own_by (T' := s₁) (g' := (mkF m 7 #[.val (.int (2 : Int32)), .val (.int x0), .val (.int x1), .val (.int x2), .val (.int x3)] [])) (fun t_ k_ => XS.ifYes X0.here hx rfl (pc0 := 1) (pc' := 7) rfl (hb hby own_d_or2_1) rfl ((if0 _ _).trans (feq ((by decide) : ¬ ((2 : Int32) = (0 : Int32)))).2) (by decide) (by decide) k_) ?_
  refine own_by (T' := s₁) (g' := (mkF m 8 #[.val (.int (2 : Int32)), .val (.int x0), .val (.int x1), .val (.int x2), .val (.int x3)] [(.int (2 : Int32))])) (fun t_ k_ => XS.iloadN X0.here hx rfl (hb hby own_d_or2_7) rfl k_) ?_
  refine own_by (T' := s₁) (g' := (mkF m 9 #[.val (.int (2 : Int32)), .val (.int x0), .val (.int x1), .val (.int x2), .val (.int x3)] [(.int (1 : Int32)), (.int (2 : Int32))])) (fun t_ k_ => XS.iconst X0.here hx rfl (hb hby own_d_or2_8) k_) ?_
  refine own_by (T' := s₁) (g' := (mkF m 15 #[.val (.int (2 : Int32)), .val (.int x0), .val (.int x1), .val (.int x2), .val (.int x3)] [])) (fun t_ k_ => XS.icmpYes X0.here hx rfl (pc0 := 9) (pc' := 15) rfl (hb hby own_d_or2_9) rfl (feq ((by decide) : ¬ ((2 : Int32) = (1 : Int32)))).2 (by decide) (by decide) k_) ?_
  refine own_by (T' := s₁) (g' := (mkF m 16 #[.val (.int (2 : Int32)), .val (.int x0), .val (.int x1), .val (.int x2), .val (.int x3)] [(.int (2 : Int32))])) (fun t_ k_ => XS.iloadN X0.here hx rfl (hb hby own_d_or2_15) rfl k_) ?_
  refine own_by (T' := s₁) (g' := (mkF m 17 #[.val (.int (2 : Int32)), .val (.int x0), .val (.int x1), .val (.int x2), .val (.int x3)] [(.int (2 : Int32)), (.int (2 : Int32))])) (fun t_ k_ => XS.iconst X0.here hx rfl (hb hby own_d_or2_16) k_) ?_
  refine own_by (T' := s₁) (g' := (mkF m 20 #[.val (.int (2 : Int32)), .val (.int x0), .val (.int x1), .val (.int x2), .val (.int x3)] [])) (fun t_ k_ => XS.icmpNo X0.here hx rfl (hb hby own_d_or2_17) rfl (teq ((by decide) : (2 : Int32) = (2 : Int32))).2 k_) ?_
  refine own_by (T' := s₁) (g' := (mkF m 21 #[.val (.int (2 : Int32)), .val (.int x0), .val (.int x1), .val (.int x2), .val (.int x3)] [(.int x2)])) (fun t_ k_ => XS.iloadN X0.here hx rfl (hb hby own_d_or2_20) rfl k_) ?_
  refine own_by (T' := s₁) (g' := (mkF m 22 #[.val (.int (2 : Int32)), .val (.int x0), .val (.int x1), .val (.int x2), .val (.int x3)] [(.int x2.toInt8.toInt32)])) (fun t_ k_ => XS.i2b X0.here hx rfl (hb hby own_d_or2_21) rfl k_) ?_
  refine own_retN X0 hx (t := .byte) Bd.returns hlk (by simp) (hb hby own_d_or2_22) (by decide) (by decide) (v := x2.toInt8.toInt32) (own_nb _) ?_
  rw [e0]
  exact ⟨rfl, N0, rfl⟩
theorem own_d_or3_0 : decode method_2_code 0 = .ok (.iload_n 0, 1) := by decide +kernel
theorem own_d_or3_1 : decode method_2_code 1 = .ok (.ifCond .ne 6, 3) := by decide +kernel
theorem own_d_or3_7 : decode method_2_code 7 = .ok (.iload_n 0, 1) := by decide +kernel
theorem own_d_or3_8 : decode method_2_code 8 = .ok (.iconst 1, 1) := by decide +kernel
theorem own_d_or3_9 : decode method_2_code 9 = .ok (.if_icmp .ne 6, 3) := by decide +kernel
theorem own_d_or3_15 : decode method_2_code 15 = .ok (.iload_n 0, 1) := by decide +kernel
theorem own_d_or3_16 : decode method_2_code 16 = .ok (.iconst 2, 1) := by decide +kernel
theorem own_d_or3_17 : decode method_2_code 17 = .ok (.if_icmp .ne 6, 3) := by decide +kernel
theorem own_d_or3_23 : decode method_2_code 23 = .ok (.iload 4, 2) := by decide +kernel
theorem own_d_or3_25 : decode method_2_code 25 = .ok (.i2b, 1) := by decide +kernel
theorem own_d_or3_26 : decode method_2_code 26 = .ok (.ireturn, 1) := by decide +kernel
theorem own_ef_or3 (m : MethodId) (x0 : Int32) (x1 : Int32) (x2 : Int32) (x3 : Int32) : entryFrame m #[(.int (3 : Int32)), (.int x0), (.int x1), (.int x2), (.int x3)] 5 = mkF m 0 #[.val (.int (3 : Int32)), .val (.int x0), .val (.int x1), .val (.int x2), .val (.int x3)] [] := by first | (simp [entryFrame, mkF, argsToLocals, Value.category]; done) | rfl
def own_Q_or3 (Z : State) (x0 : Int32) (x1 : Int32) (x2 : Int32) (x3 : Int32) (h0 : Heap) (n0 : Nat) (v : Option Value) (h : Heap) (L : List Loc) : Prop := v = some (.int x3.toInt8.toInt32) ∧ Fr n0 L ∧ h = h0
set_option maxRecDepth 65536 in
set_option maxHeartbeats 40000000 in
theorem own_rm_or3 (l : Launch) (Z : State) (a0 : Array Value) (hw : ∀ d ∈ tables_1, d.before a0 Z = true) (ws : List Jvm.Cond) (x0 : Int32) (x1 : Int32) (x2 : Int32) (x3 : Int32) (h0 : Heap) (n0 : Nat) (Z0 : n0 ≤ h0.size) :
    MetFree l (⟨"com/example/rowgate/rowgate/StoredValueArrayPinLaw", "orig", "(IIIII)B"⟩ : MethodName) (head1 (Jvm.Cond.code (⟨"com/example/rowgate/rowgate/StoredValueArrayPinLaw", "orig", "(IIIII)B"⟩ : MethodName) method_2_code 5 (some .byte) :: ws) ({ frames := 0, cells := 0, slots := 0, locals := 0 } : Room)) (fun a_ U_ => a_ = #[(.int (3 : Int32)), (.int x0), (.int x1), (.int x2), (.int x3)] ∧ Z.Warmed39 U_.vm ∧ U_.heap = h0) (fun _ _ _ _ _ => True) (fun _ U_ o_ U'_ => ∃ v_ L_, o_ = .returned v_ ∧ own_Q_or3 Z x0 x1 x2 x3 h0 n0 v_ U'_.heap L_ ∧ FrameEnd U_ o_ U'_ L_ ({ frames := 0, cells := 0, slots := 0, locals := 0 } : Room).cells ({ frames := 0, cells := 0, slots := 0, locals := 0 } : Room).slots) := by
  refine MetFree.of_bodySF (plainFor_of_name own_pn_com_example_rowgate_rowgate_StoredValueArrayPinLaw) hisR ?_
  intro p e s m args below meth c s₁ Bd hml0 hP hK
  obtain ⟨rfl, hZ, hh⟩ := hP
  have hx := Bd.exec
  have hby := Bd.bytes
  have hlk : meth.locks = false := BodyLoose.notSynchronized Bd
  have hml : c.maxLocals = 5 := hml0
  have hown : s.vm.findClass "com/example/rowgate/rowgate/StoredValueArrayPinLaw" = some m.cls := findClass_of_methodNamed Bd.named
  have hnm := (name_of_methodNamed Bd.named Bd.method).1
  have X0 : Stand p l e ({ frames := 0, cells := 0, slots := 0, locals := 0 } : Room) s m #[(.int (3 : Int32)), (.int x0), (.int x1), (.int x2), (.int x3)] below meth c s₁ [] 0 0 := Stand.of_body Bd
  have e0 : s₁.heap = h0 := by rw [← hh, Bd.state]; rfl
  have N0 := Fr.nil n0
  show own_Goes p e below (own_K (own_Q_or3 Z x0 x1 x2 x3 h0 n0) s ({ frames := 0, cells := 0, slots := 0, locals := 0 } : Room).cells ({ frames := 0, cells := 0, slots := 0, locals := 0 } : Room).slots) s₁ (entryFrame m #[(.int (3 : Int32)), (.int x0), (.int x1), (.int x2), (.int x3)] 5)
  rw [own_ef_or3]
  refine own_by (T' := s₁) (g' := (mkF m 1 #[.val (.int (3 : Int32)), .val (.int x0), .val (.int x1), .val (.int x2), .val (.int x3)] [(.int (3 : Int32))])) (fun t_ k_ => XS.iloadN X0.here hx rfl (hb hby own_d_or3_0) rfl k_) ?_
  refine own_by (T' := s₁) (g' := (mkF m 7 #[.val (.int (3 : Int32)), .val (.int x0), .val (.int x1), .val (.int x2), .val (.int x3)] [])) (fun t_ k_ => XS.ifYes X0.here hx rfl (pc0 := 1) (pc' := 7) rfl (hb hby own_d_or3_1) rfl ((if0 _ _).trans (feq ((by decide) : ¬ ((3 : Int32) = (0 : Int32)))).2) (by decide) (by decide) k_) ?_
  refine own_by (T' := s₁) (g' := (mkF m 8 #[.val (.int (3 : Int32)), .val (.int x0), .val (.int x1), .val (.int x2), .val (.int x3)] [(.int (3 : Int32))])) (fun t_ k_ => XS.iloadN X0.here hx rfl (hb hby own_d_or3_7) rfl k_) ?_
  refine own_by (T' := s₁) (g' := (mkF m 9 #[.val (.int (3 : Int32)), .val (.int x0), .val (.int x1), .val (.int x2), .val (.int x3)] [(.int (1 : Int32)), (.int (3 : Int32))])) (fun t_ k_ => XS.iconst X0.here hx rfl (hb hby own_d_or3_8) k_) ?_
  refine own_by (T' := s₁) (g' := (mkF m 15 #[.val (.int (3 : Int32)), .val (.int x0), .val (.int x1), .val (.int x2), .val (.int x3)] [])) (fun t_ k_ => XS.icmpYes X0.here hx rfl (pc0 := 9) (pc' := 15) rfl (hb hby own_d_or3_9) rfl (feq ((by decide) : ¬ ((3 : Int32) = (1 : Int32)))).2 (by decide) (by decide) k_) ?_
  refine own_by (T' := s₁) (g' := (mkF m 16 #[.val (.int (3 : Int32)), .val (.int x0), .val (.int x1), .val (.int x2), .val (.int x3)] [(.int (3 : Int32))])) (fun t_ k_ => XS.iloadN X0.here hx rfl (hb hby own_d_or3_15) rfl k_) ?_
  refine own_by (T' := s₁) (g' := (mkF m 17 #[.val (.int (3 : Int32)), .val (.int x0), .val (.int x1), .val (.int x2), .val (.int x3)] [(.int (2 : Int32)), (.int (3 : Int32))])) (fun t_ k_ => XS.iconst X0.here hx rfl (hb hby own_d_or3_16) k_) ?_
  refine own_by (T' := s₁) (g' := (mkF m 23 #[.val (.int (3 : Int32)), .val (.int x0), .val (.int x1), .val (.int x2), .val (.int x3)] [])) (fun t_ k_ => XS.icmpYes X0.here hx rfl (pc0 := 17) (pc' := 23) rfl (hb hby own_d_or3_17) rfl (feq ((by decide) : ¬ ((3 : Int32) = (2 : Int32)))).2 (by decide) (by decide) k_) ?_
  refine own_by (T' := s₁) (g' := (mkF m 25 #[.val (.int (3 : Int32)), .val (.int x0), .val (.int x1), .val (.int x2), .val (.int x3)] [(.int x3)])) (fun t_ k_ => XS.iload X0.here hx rfl (hb hby own_d_or3_23) rfl k_) ?_
  refine own_by (T' := s₁) (g' := (mkF m 26 #[.val (.int (3 : Int32)), .val (.int x0), .val (.int x1), .val (.int x2), .val (.int x3)] [(.int x3.toInt8.toInt32)])) (fun t_ k_ => XS.i2b X0.here hx rfl (hb hby own_d_or3_25) rfl k_) ?_
  refine own_retN X0 hx (t := .byte) Bd.returns hlk (by simp) (hb hby own_d_or3_26) (by decide) (by decide) (v := x3.toInt8.toInt32) (own_nb _) ?_
  rw [e0]
  exact ⟨rfl, N0, rfl⟩
theorem own_pd0 : parseMethodDescriptor "(IIIII)B" = some ⟨[.int, .int, .int, .int, .int], some .byte⟩ := by decide +kernel
theorem own_d_ap0_0 : decode method_4_code 0 = .ok (.aload_n 0, 1) := by decide +kernel
theorem own_d_ap0_1 : decode method_4_code 1 = .ok (.iconst 0, 1) := by decide +kernel
theorem own_d_ap0_2 : decode method_4_code 2 = .ok (.baload, 1) := by decide +kernel
theorem own_d_ap0_3 : decode method_4_code 3 = .ok (.iload_n 1, 1) := by decide +kernel
theorem own_d_ap0_4 : decode method_4_code 4 = .ok (.ifCond .ne 7, 3) := by decide +kernel
theorem own_d_ap0_7 : decode method_4_code 7 = .ok (.iload_n 2, 1) := by decide +kernel
theorem own_d_ap0_8 : decode method_4_code 8 = .ok (.goto 14, 3) := by decide +kernel
theorem own_d_ap0_22 : decode method_4_code 22 = .ok (.if_icmp .ne 7, 3) := by decide +kernel
theorem own_d_ap0_25 : decode method_4_code 25 = .ok (.iconst 1, 1) := by decide +kernel
theorem own_d_ap0_26 : decode method_4_code 26 = .ok (.goto 4, 3) := by decide +kernel
theorem own_d_ap0_30 : decode method_4_code 30 = .ok (.istore 7, 2) := by decide +kernel
theorem own_d_ap0_32 : decode method_4_code 32 = .ok (.iload 7, 2) := by decide +kernel
theorem own_d_ap0_34 : decode method_4_code 34 = .ok (.ifCond .eq 33, 3) := by decide +kernel
theorem own_d_ap0_37 : decode method_4_code 37 = .ok (.aload_n 0, 1) := by decide +kernel
theorem own_d_ap0_38 : decode method_4_code 38 = .ok (.iconst 1, 1) := by decide +kernel
theorem own_d_ap0_39 : decode method_4_code 39 = .ok (.baload, 1) := by decide +kernel
theorem own_d_ap0_40 : decode method_4_code 40 = .ok (.iload_n 1, 1) := by decide +kernel
theorem own_d_ap0_41 : decode method_4_code 41 = .ok (.iconst 1, 1) := by decide +kernel
theorem own_d_ap0_42 : decode method_4_code 42 = .ok (.if_icmp .ne 7, 3) := by decide +kernel
theorem own_d_ap0_49 : decode method_4_code 49 = .ok (.iconst 1, 1) := by decide +kernel
theorem own_d_ap0_50 : decode method_4_code 50 = .ok (.iload_n 3, 1) := by decide +kernel
theorem own_d_ap0_51 : decode method_4_code 51 = .ok (.iload 4, 2) := by decide +kernel
theorem own_d_ap0_53 : decode method_4_code 53 = .ok (.iload 5, 2) := by decide +kernel
theorem own_d_ap0_55 : decode method_4_code 55 = .ok (.iload 6, 2) := by decide +kernel
theorem own_d_ap0_57 : decode method_4_code 57 = .ok (.invokestatic 7, 3) := by decide +kernel
theorem own_d_ap0_60 : decode method_4_code 60 = .ok (.if_icmp .ne 7, 3) := by decide +kernel
theorem own_d_ap0_63 : decode method_4_code 63 = .ok (.iconst 1, 1) := by decide +kernel
theorem own_d_ap0_64 : decode method_4_code 64 = .ok (.goto 4, 3) := by decide +kernel
theorem own_d_ap0_68 : decode method_4_code 68 = .ok (.istore 7, 2) := by decide +kernel
theorem own_d_ap0_70 : decode method_4_code 70 = .ok (.iload 7, 2) := by decide +kernel
theorem own_d_ap0_72 : decode method_4_code 72 = .ok (.ifCond .eq 33, 3) := by decide +kernel
theorem own_d_ap0_75 : decode method_4_code 75 = .ok (.aload_n 0, 1) := by decide +kernel
theorem own_d_ap0_76 : decode method_4_code 76 = .ok (.iconst 2, 1) := by decide +kernel
theorem own_d_ap0_77 : decode method_4_code 77 = .ok (.baload, 1) := by decide +kernel
theorem own_d_ap0_78 : decode method_4_code 78 = .ok (.iload_n 1, 1) := by decide +kernel
theorem own_d_ap0_79 : decode method_4_code 79 = .ok (.iconst 2, 1) := by decide +kernel
theorem own_d_ap0_80 : decode method_4_code 80 = .ok (.if_icmp .ne 7, 3) := by decide +kernel
theorem own_d_ap0_87 : decode method_4_code 87 = .ok (.iconst 2, 1) := by decide +kernel
theorem own_d_ap0_88 : decode method_4_code 88 = .ok (.iload_n 3, 1) := by decide +kernel
theorem own_d_ap0_89 : decode method_4_code 89 = .ok (.iload 4, 2) := by decide +kernel
theorem own_d_ap0_91 : decode method_4_code 91 = .ok (.iload 5, 2) := by decide +kernel
theorem own_d_ap0_93 : decode method_4_code 93 = .ok (.iload 6, 2) := by decide +kernel
theorem own_d_ap0_95 : decode method_4_code 95 = .ok (.invokestatic 7, 3) := by decide +kernel
theorem own_d_ap0_98 : decode method_4_code 98 = .ok (.if_icmp .ne 7, 3) := by decide +kernel
theorem own_d_ap0_101 : decode method_4_code 101 = .ok (.iconst 1, 1) := by decide +kernel
theorem own_d_ap0_102 : decode method_4_code 102 = .ok (.goto 4, 3) := by decide +kernel
theorem own_d_ap0_106 : decode method_4_code 106 = .ok (.istore 7, 2) := by decide +kernel
theorem own_d_ap0_108 : decode method_4_code 108 = .ok (.iload 7, 2) := by decide +kernel
theorem own_d_ap0_110 : decode method_4_code 110 = .ok (.ifCond .eq 33, 3) := by decide +kernel
theorem own_d_ap0_113 : decode method_4_code 113 = .ok (.aload_n 0, 1) := by decide +kernel
theorem own_d_ap0_114 : decode method_4_code 114 = .ok (.iconst 3, 1) := by decide +kernel
theorem own_d_ap0_115 : decode method_4_code 115 = .ok (.baload, 1) := by decide +kernel
theorem own_d_ap0_116 : decode method_4_code 116 = .ok (.iload_n 1, 1) := by decide +kernel
theorem own_d_ap0_117 : decode method_4_code 117 = .ok (.iconst 3, 1) := by decide +kernel
theorem own_d_ap0_118 : decode method_4_code 118 = .ok (.if_icmp .ne 7, 3) := by decide +kernel
theorem own_d_ap0_125 : decode method_4_code 125 = .ok (.iconst 3, 1) := by decide +kernel
theorem own_d_ap0_126 : decode method_4_code 126 = .ok (.iload_n 3, 1) := by decide +kernel
theorem own_d_ap0_127 : decode method_4_code 127 = .ok (.iload 4, 2) := by decide +kernel
theorem own_d_ap0_129 : decode method_4_code 129 = .ok (.iload 5, 2) := by decide +kernel
theorem own_d_ap0_131 : decode method_4_code 131 = .ok (.iload 6, 2) := by decide +kernel
theorem own_d_ap0_133 : decode method_4_code 133 = .ok (.invokestatic 7, 3) := by decide +kernel
theorem own_d_ap0_136 : decode method_4_code 136 = .ok (.if_icmp .ne 7, 3) := by decide +kernel
theorem own_d_ap0_139 : decode method_4_code 139 = .ok (.iconst 1, 1) := by decide +kernel
theorem own_d_ap0_140 : decode method_4_code 140 = .ok (.goto 4, 3) := by decide +kernel
theorem own_d_ap0_144 : decode method_4_code 144 = .ok (.istore 7, 2) := by decide +kernel
theorem own_d_ap0_146 : decode method_4_code 146 = .ok (.iload 7, 2) := by decide +kernel
theorem own_d_ap0_148 : decode method_4_code 148 = .ok (.ireturn, 1) := by decide +kernel
theorem own_ef_ap0 (m : MethodId) (a : Addr) (ad : Int32) (x0 : Int32) (x1 : Int32) (x2 : Int32) (x3 : Int32) : entryFrame m #[(.ref a), (.int (0 : Int32)), (.int ad), (.int x0), (.int x1), (.int x2), (.int x3)] 8 = mkF m 0 #[.val (.ref a), .val (.int (0 : Int32)), .val (.int ad), .val (.int x0), .val (.int x1), .val (.int x2), .val (.int x3), .unset] [] := by first | (simp [entryFrame, mkF, argsToLocals, Value.category]; done) | rfl
def own_Q_ap0 (Z : State) (a : Addr) (ad : Int32) (x0 : Int32) (x1 : Int32) (x2 : Int32) (x3 : Int32) (f : Nat → Int32) (h0 : Heap) (n0 : Nat) (v : Option Value) (h : Heap) (L : List Loc) : Prop := v = some (.int 1) ∧ Fr n0 L ∧ h = h0
set_option maxRecDepth 65536 in
set_option maxHeartbeats 40000000 in
theorem own_rm_ap0 (l : Launch) (Z : State) (a0 : Array Value) (hw : ∀ d ∈ tables_1, d.before a0 Z = true) (ws : List Jvm.Cond) (a : Addr) (ad : Int32) (x0 : Int32) (x1 : Int32) (x2 : Int32) (x3 : Int32) (f : Nat → Int32) (h0 : Heap) (n0 : Nat) (Z0 : n0 ≤ h0.size) (V0 : own_Ia Z h0 a .byte 4 f) (e0_ : f 0 = ad) (e1_ : f 1 = x1.toInt8.toInt32) (e2_ : f 2 = x2.toInt8.toInt32) (e3_ : f 3 = x3.toInt8.toInt32) :
    MetFree l (⟨"com/example/rowgate/rowgate/StoredValueArrayPinLaw", "afterAppend", "([BIBIIII)Z"⟩ : MethodName) (head1 (Jvm.Cond.code (⟨"com/example/rowgate/rowgate/StoredValueArrayPinLaw", "afterAppend", "([BIBIIII)Z"⟩ : MethodName) method_4_code 8 (some .boolean) :: ws) ({ frames := 1, cells := 0, slots := 0, locals := 17 } : Room)) (fun a_ U_ => a_ = #[(.ref a), (.int (0 : Int32)), (.int ad), (.int x0), (.int x1), (.int x2), (.int x3)] ∧ Z.Warmed39 U_.vm ∧ U_.heap = h0) (fun _ _ _ _ _ => True) (fun _ U_ o_ U'_ => ∃ v_ L_, o_ = .returned v_ ∧ own_Q_ap0 Z a ad x0 x1 x2 x3 f h0 n0 v_ U'_.heap L_ ∧ FrameEnd U_ o_ U'_ L_ ({ frames := 1, cells := 0, slots := 0, locals := 17 } : Room).cells ({ frames := 1, cells := 0, slots := 0, locals := 17 } : Room).slots) := by
  refine MetFree.of_bodySF (plainFor_of_name own_pn_com_example_rowgate_rowgate_StoredValueArrayPinLaw) hisR ?_
  intro p e s m args below meth c s₁ Bd hml0 hP hK
  obtain ⟨rfl, hZ, hh⟩ := hP
  have hx := Bd.exec
  have hby := Bd.bytes
  have hlk : meth.locks = false := BodyLoose.notSynchronized Bd
  have hml : c.maxLocals = 8 := hml0
  have hown : s.vm.findClass "com/example/rowgate/rowgate/StoredValueArrayPinLaw" = some m.cls := findClass_of_methodNamed Bd.named
  have hnm := (name_of_methodNamed Bd.named Bd.method).1
  have X0 : Stand p l e ({ frames := 1, cells := 0, slots := 0, locals := 17 } : Room) s m #[(.ref a), (.int (0 : Int32)), (.int ad), (.int x0), (.int x1), (.int x2), (.int x3)] below meth c s₁ [] 0 0 := Stand.of_body Bd
  have e0 : s₁.heap = h0 := by rw [← hh, Bd.state]; rfl
  have N0 := Fr.nil n0
  show own_Goes p e below (own_K (own_Q_ap0 Z a ad x0 x1 x2 x3 f h0 n0) s ({ frames := 1, cells := 0, slots := 0, locals := 17 } : Room).cells ({ frames := 1, cells := 0, slots := 0, locals := 17 } : Room).slots) s₁ (entryFrame m #[(.ref a), (.int (0 : Int32)), (.int ad), (.int x0), (.int x1), (.int x2), (.int x3)] 8)
  rw [own_ef_ap0]
  refine own_by (T' := s₁) (g' := (mkF m 1 #[.val (.ref a), .val (.int (0 : Int32)), .val (.int ad), .val (.int x0), .val (.int x1), .val (.int x2), .val (.int x3), .unset] [(.ref a)])) (fun t_ k_ => XS.aloadN X0.here hx rfl (hb hby own_d_ap0_0) rfl rfl k_) ?_
  refine own_by (T' := s₁) (g' := (mkF m 2 #[.val (.ref a), .val (.int (0 : Int32)), .val (.int ad), .val (.int x0), .val (.int x1), .val (.int x2), .val (.int x3), .unset] [(.int (0 : Int32)), (.ref a)])) (fun t_ k_ => XS.iconst X0.here hx rfl (hb hby own_d_ap0_1) k_) ?_
  refine own_by (T' := s₁) (g' := (mkF m 3 #[.val (.ref a), .val (.int (0 : Int32)), .val (.int ad), .val (.int x0), .val (.int x1), .val (.int x2), .val (.int x3), .unset] [(.int (f 0))])) (fun t_ k_ => own_bal X0 hx hZ e0 V0 (j := (0 : Int32)) (by decide) (by decide) (g := (mkF m 2 #[.val (.ref a), .val (.int (0 : Int32)), .val (.int ad), .val (.int x0), .val (.int x1), .val (.int x2), .val (.int x3), .unset] [(.int (0 : Int32)), (.ref a)])) rfl rfl (hb hby own_d_ap0_2) _ k_) ?_
  refine own_by (T' := s₁) (g' := (mkF m 4 #[.val (.ref a), .val (.int (0 : Int32)), .val (.int ad), .val (.int x0), .val (.int x1), .val (.int x2), .val (.int x3), .unset] [(.int (0 : Int32)), (.int (f 0))])) (fun t_ k_ => XS.iloadN X0.here hx rfl (hb hby own_d_ap0_3) rfl k_) ?_
  refine own_by (T' := s₁) (g' := (mkF m 7 #[.val (.ref a), .val (.int (0 : Int32)), .val (.int ad), .val (.int x0), .val (.int x1), .val (.int x2), .val (.int x3), .unset] [(.int (f 0))])) (fun t_ k_ => XS.ifNo X0.here hx rfl (hb hby own_d_ap0_4) rfl ((if0 _ _).trans (teq ((by decide) : (0 : Int32) = (0 : Int32))).2) k_) ?_
  refine own_by (T' := s₁) (g' := (mkF m 8 #[.val (.ref a), .val (.int (0 : Int32)), .val (.int ad), .val (.int x0), .val (.int x1), .val (.int x2), .val (.int x3), .unset] [(.int ad), (.int (f 0))])) (fun t_ k_ => XS.iloadN X0.here hx rfl (hb hby own_d_ap0_7) rfl k_) ?_
  refine own_by (T' := s₁) (g' := (mkF m 22 #[.val (.ref a), .val (.int (0 : Int32)), .val (.int ad), .val (.int x0), .val (.int x1), .val (.int x2), .val (.int x3), .unset] [(.int ad), (.int (f 0))])) (fun t_ k_ => XS.goto X0.here hx rfl (pc0 := 8) (pc' := 22) rfl (hb hby own_d_ap0_8) (by decide) (by decide) k_) ?_
  refine own_by (T' := s₁) (g' := (mkF m 25 #[.val (.ref a), .val (.int (0 : Int32)), .val (.int ad), .val (.int x0), .val (.int x1), .val (.int x2), .val (.int x3), .unset] [])) (fun t_ k_ => XS.icmpNo X0.here hx rfl (hb hby own_d_ap0_22) rfl (teq (e0_ : (f 0) = ad)).2 k_) ?_
  refine own_by (T' := s₁) (g' := (mkF m 26 #[.val (.ref a), .val (.int (0 : Int32)), .val (.int ad), .val (.int x0), .val (.int x1), .val (.int x2), .val (.int x3), .unset] [(.int (1 : Int32))])) (fun t_ k_ => XS.iconst X0.here hx rfl (hb hby own_d_ap0_25) k_) ?_
  refine own_by (T' := s₁) (g' := (mkF m 30 #[.val (.ref a), .val (.int (0 : Int32)), .val (.int ad), .val (.int x0), .val (.int x1), .val (.int x2), .val (.int x3), .unset] [(.int (1 : Int32))])) (fun t_ k_ => XS.goto X0.here hx rfl (pc0 := 26) (pc' := 30) rfl (hb hby own_d_ap0_26) (by decide) (by decide) k_) ?_
  refine own_by (T' := s₁) (g' := (mkF m 32 #[.val (.ref a), .val (.int (0 : Int32)), .val (.int ad), .val (.int x0), .val (.int x1), .val (.int x2), .val (.int x3), .val (.int (1 : Int32))] [])) (fun t_ k_ => XS.istore X0.here hx rfl (hb hby own_d_ap0_30) rfl (l' := #[.val (.ref a), .val (.int (0 : Int32)), .val (.int ad), .val (.int x0), .val (.int x1), .val (.int x2), .val (.int x3), .val (.int (1 : Int32))]) rfl k_) ?_
  refine own_by (T' := s₁) (g' := (mkF m 34 #[.val (.ref a), .val (.int (0 : Int32)), .val (.int ad), .val (.int x0), .val (.int x1), .val (.int x2), .val (.int x3), .val (.int (1 : Int32))] [(.int (1 : Int32))])) (fun t_ k_ => XS.iload X0.here hx rfl (hb hby own_d_ap0_32) rfl k_) ?_
  refine own_by (T' := s₁) (g' := (mkF m 37 #[.val (.ref a), .val (.int (0 : Int32)), .val (.int ad), .val (.int x0), .val (.int x1), .val (.int x2), .val (.int x3), .val (.int (1 : Int32))] [])) (fun t_ k_ => XS.ifNo X0.here hx rfl (hb hby own_d_ap0_34) rfl ((if0 _ _).trans (feq ((by decide) : ¬ ((1 : Int32) = (0 : Int32)))).1) k_) ?_
  refine own_by (T' := s₁) (g' := (mkF m 38 #[.val (.ref a), .val (.int (0 : Int32)), .val (.int ad), .val (.int x0), .val (.int x1), .val (.int x2), .val (.int x3), .val (.int (1 : Int32))] [(.ref a)])) (fun t_ k_ => XS.aloadN X0.here hx rfl (hb hby own_d_ap0_37) rfl rfl k_) ?_
  refine own_by (T' := s₁) (g' := (mkF m 39 #[.val (.ref a), .val (.int (0 : Int32)), .val (.int ad), .val (.int x0), .val (.int x1), .val (.int x2), .val (.int x3), .val (.int (1 : Int32))] [(.int (1 : Int32)), (.ref a)])) (fun t_ k_ => XS.iconst X0.here hx rfl (hb hby own_d_ap0_38) k_) ?_
  refine own_by (T' := s₁) (g' := (mkF m 40 #[.val (.ref a), .val (.int (0 : Int32)), .val (.int ad), .val (.int x0), .val (.int x1), .val (.int x2), .val (.int x3), .val (.int (1 : Int32))] [(.int (f 1))])) (fun t_ k_ => own_bal X0 hx hZ e0 V0 (j := (1 : Int32)) (by decide) (by decide) (g := (mkF m 39 #[.val (.ref a), .val (.int (0 : Int32)), .val (.int ad), .val (.int x0), .val (.int x1), .val (.int x2), .val (.int x3), .val (.int (1 : Int32))] [(.int (1 : Int32)), (.ref a)])) rfl rfl (hb hby own_d_ap0_39) _ k_) ?_
  refine own_by (T' := s₁) (g' := (mkF m 41 #[.val (.ref a), .val (.int (0 : Int32)), .val (.int ad), .val (.int x0), .val (.int x1), .val (.int x2), .val (.int x3), .val (.int (1 : Int32))] [(.int (0 : Int32)), (.int (f 1))])) (fun t_ k_ => XS.iloadN X0.here hx rfl (hb hby own_d_ap0_40) rfl k_) ?_
  refine own_by (T' := s₁) (g' := (mkF m 42 #[.val (.ref a), .val (.int (0 : Int32)), .val (.int ad), .val (.int x0), .val (.int x1), .val (.int x2), .val (.int x3), .val (.int (1 : Int32))] [(.int (1 : Int32)), (.int (0 : Int32)), (.int (f 1))])) (fun t_ k_ => XS.iconst X0.here hx rfl (hb hby own_d_ap0_41) k_) ?_
  refine own_by (T' := s₁) (g' := (mkF m 49 #[.val (.ref a), .val (.int (0 : Int32)), .val (.int ad), .val (.int x0), .val (.int x1), .val (.int x2), .val (.int x3), .val (.int (1 : Int32))] [(.int (f 1))])) (fun t_ k_ => XS.icmpYes X0.here hx rfl (pc0 := 42) (pc' := 49) rfl (hb hby own_d_ap0_42) rfl (feq ((by decide) : ¬ ((0 : Int32) = (1 : Int32)))).2 (by decide) (by decide) k_) ?_
  refine own_by (T' := s₁) (g' := (mkF m 50 #[.val (.ref a), .val (.int (0 : Int32)), .val (.int ad), .val (.int x0), .val (.int x1), .val (.int x2), .val (.int x3), .val (.int (1 : Int32))] [(.int (1 : Int32)), (.int (f 1))])) (fun t_ k_ => XS.iconst X0.here hx rfl (hb hby own_d_ap0_49) k_) ?_
  refine own_by (T' := s₁) (g' := (mkF m 51 #[.val (.ref a), .val (.int (0 : Int32)), .val (.int ad), .val (.int x0), .val (.int x1), .val (.int x2), .val (.int x3), .val (.int (1 : Int32))] [(.int x0), (.int (1 : Int32)), (.int (f 1))])) (fun t_ k_ => XS.iloadN X0.here hx rfl (hb hby own_d_ap0_50) rfl k_) ?_
  refine own_by (T' := s₁) (g' := (mkF m 53 #[.val (.ref a), .val (.int (0 : Int32)), .val (.int ad), .val (.int x0), .val (.int x1), .val (.int x2), .val (.int x3), .val (.int (1 : Int32))] [(.int x1), (.int x0), (.int (1 : Int32)), (.int (f 1))])) (fun t_ k_ => XS.iload X0.here hx rfl (hb hby own_d_ap0_51) rfl k_) ?_
  refine own_by (T' := s₁) (g' := (mkF m 55 #[.val (.ref a), .val (.int (0 : Int32)), .val (.int ad), .val (.int x0), .val (.int x1), .val (.int x2), .val (.int x3), .val (.int (1 : Int32))] [(.int x2), (.int x1), (.int x0), (.int (1 : Int32)), (.int (f 1))])) (fun t_ k_ => XS.iload X0.here hx rfl (hb hby own_d_ap0_53) rfl k_) ?_
  refine own_by (T' := s₁) (g' := (mkF m 57 #[.val (.ref a), .val (.int (0 : Int32)), .val (.int ad), .val (.int x0), .val (.int x1), .val (.int x2), .val (.int x3), .val (.int (1 : Int32))] [(.int x3), (.int x2), (.int x1), (.int x0), (.int (1 : Int32)), (.int (f 1))])) (fun t_ k_ => XS.iload X0.here hx rfl (hb hby own_d_ap0_55) rfl k_) ?_
  obtain ⟨_, T1, L1, X1, hQ1, st1⟩ := own_callS X0 hx hZ (y := (⟨"com/example/rowgate/rowgate/StoredValueArrayPinLaw", "orig", "(IIIII)B"⟩ : MethodName)) hown (hw _ (List.mem_of_getElem? (i := 47) rfl)) (hw _ (List.mem_of_getElem? (i := 48) rfl)) (hw _ (List.mem_of_getElem? (i := 26) rfl)) (hw _ (List.mem_of_getElem? (i := 49) rfl)) (by decide) (argsL := [(.int (1 : Int32)), (.int x0), (.int x1), (.int x2), (.int x3)]) (rest := [(.int (f 1))]) (own_rm_or1 l Z a0 hw [] x0 x1 x2 x3 h0 n0 Z0) e0 (W := 1) (by decide) (by decide) (by decide) (by decide) (g := (mkF m 57 #[.val (.ref a), .val (.int (0 : Int32)), .val (.int ad), .val (.int x0), .val (.int x1), .val (.int x2), .val (.int x3), .val (.int (1 : Int32))] [(.int x3), (.int x2), (.int x1), (.int x0), (.int (1 : Int32)), (.int (f 1))])) rfl (by rw [hml]; rfl) (lenOf own_pd0 rfl) rfl (by show 2 * 0 + _ ≤ _; exact Nat.le_of_eq rfl) (hb hby own_d_ap0_57)
  obtain ⟨rfl, Nq1, e1⟩ := hQ1
  have N1 := Fr.app N0 Nq1
  refine st1 _ ?_
  show own_Goes p e below _ T1 (mkF m 60 #[.val (.ref a), .val (.int (0 : Int32)), .val (.int ad), .val (.int x0), .val (.int x1), .val (.int x2), .val (.int x3), .val (.int (1 : Int32))] [(.int x1.toInt8.toInt32), (.int (f 1))])
  refine own_by (T' := T1) (g' := (mkF m 63 #[.val (.ref a), .val (.int (0 : Int32)), .val (.int ad), .val (.int x0), .val (.int x1), .val (.int x2), .val (.int x3), .val (.int (1 : Int32))] [])) (fun t_ k_ => XS.icmpNo X1.here hx rfl (hb hby own_d_ap0_60) rfl (teq (e1_ : (f 1) = x1.toInt8.toInt32)).2 k_) ?_
  refine own_by (T' := T1) (g' := (mkF m 64 #[.val (.ref a), .val (.int (0 : Int32)), .val (.int ad), .val (.int x0), .val (.int x1), .val (.int x2), .val (.int x3), .val (.int (1 : Int32))] [(.int (1 : Int32))])) (fun t_ k_ => XS.iconst X1.here hx rfl (hb hby own_d_ap0_63) k_) ?_
  refine own_by (T' := T1) (g' := (mkF m 68 #[.val (.ref a), .val (.int (0 : Int32)), .val (.int ad), .val (.int x0), .val (.int x1), .val (.int x2), .val (.int x3), .val (.int (1 : Int32))] [(.int (1 : Int32))])) (fun t_ k_ => XS.goto X1.here hx rfl (pc0 := 64) (pc' := 68) rfl (hb hby own_d_ap0_64) (by decide) (by decide) k_) ?_
  refine own_by (T' := T1) (g' := (mkF m 70 #[.val (.ref a), .val (.int (0 : Int32)), .val (.int ad), .val (.int x0), .val (.int x1), .val (.int x2), .val (.int x3), .val (.int (1 : Int32))] [])) (fun t_ k_ => XS.istore X1.here hx rfl (hb hby own_d_ap0_68) rfl (l' := #[.val (.ref a), .val (.int (0 : Int32)), .val (.int ad), .val (.int x0), .val (.int x1), .val (.int x2), .val (.int x3), .val (.int (1 : Int32))]) rfl k_) ?_
  refine own_by (T' := T1) (g' := (mkF m 72 #[.val (.ref a), .val (.int (0 : Int32)), .val (.int ad), .val (.int x0), .val (.int x1), .val (.int x2), .val (.int x3), .val (.int (1 : Int32))] [(.int (1 : Int32))])) (fun t_ k_ => XS.iload X1.here hx rfl (hb hby own_d_ap0_70) rfl k_) ?_
  refine own_by (T' := T1) (g' := (mkF m 75 #[.val (.ref a), .val (.int (0 : Int32)), .val (.int ad), .val (.int x0), .val (.int x1), .val (.int x2), .val (.int x3), .val (.int (1 : Int32))] [])) (fun t_ k_ => XS.ifNo X1.here hx rfl (hb hby own_d_ap0_72) rfl ((if0 _ _).trans (feq ((by decide) : ¬ ((1 : Int32) = (0 : Int32)))).1) k_) ?_
  refine own_by (T' := T1) (g' := (mkF m 76 #[.val (.ref a), .val (.int (0 : Int32)), .val (.int ad), .val (.int x0), .val (.int x1), .val (.int x2), .val (.int x3), .val (.int (1 : Int32))] [(.ref a)])) (fun t_ k_ => XS.aloadN X1.here hx rfl (hb hby own_d_ap0_75) rfl rfl k_) ?_
  refine own_by (T' := T1) (g' := (mkF m 77 #[.val (.ref a), .val (.int (0 : Int32)), .val (.int ad), .val (.int x0), .val (.int x1), .val (.int x2), .val (.int x3), .val (.int (1 : Int32))] [(.int (2 : Int32)), (.ref a)])) (fun t_ k_ => XS.iconst X1.here hx rfl (hb hby own_d_ap0_76) k_) ?_
  refine own_by (T' := T1) (g' := (mkF m 78 #[.val (.ref a), .val (.int (0 : Int32)), .val (.int ad), .val (.int x0), .val (.int x1), .val (.int x2), .val (.int x3), .val (.int (1 : Int32))] [(.int (f 2))])) (fun t_ k_ => own_bal X1 hx hZ e1 V0 (j := (2 : Int32)) (by decide) (by decide) (g := (mkF m 77 #[.val (.ref a), .val (.int (0 : Int32)), .val (.int ad), .val (.int x0), .val (.int x1), .val (.int x2), .val (.int x3), .val (.int (1 : Int32))] [(.int (2 : Int32)), (.ref a)])) rfl rfl (hb hby own_d_ap0_77) _ k_) ?_
  refine own_by (T' := T1) (g' := (mkF m 79 #[.val (.ref a), .val (.int (0 : Int32)), .val (.int ad), .val (.int x0), .val (.int x1), .val (.int x2), .val (.int x3), .val (.int (1 : Int32))] [(.int (0 : Int32)), (.int (f 2))])) (fun t_ k_ => XS.iloadN X1.here hx rfl (hb hby own_d_ap0_78) rfl k_) ?_
  refine own_by (T' := T1) (g' := (mkF m 80 #[.val (.ref a), .val (.int (0 : Int32)), .val (.int ad), .val (.int x0), .val (.int x1), .val (.int x2), .val (.int x3), .val (.int (1 : Int32))] [(.int (2 : Int32)), (.int (0 : Int32)), (.int (f 2))])) (fun t_ k_ => XS.iconst X1.here hx rfl (hb hby own_d_ap0_79) k_) ?_
  refine own_by (T' := T1) (g' := (mkF m 87 #[.val (.ref a), .val (.int (0 : Int32)), .val (.int ad), .val (.int x0), .val (.int x1), .val (.int x2), .val (.int x3), .val (.int (1 : Int32))] [(.int (f 2))])) (fun t_ k_ => XS.icmpYes X1.here hx rfl (pc0 := 80) (pc' := 87) rfl (hb hby own_d_ap0_80) rfl (feq ((by decide) : ¬ ((0 : Int32) = (2 : Int32)))).2 (by decide) (by decide) k_) ?_
  refine own_by (T' := T1) (g' := (mkF m 88 #[.val (.ref a), .val (.int (0 : Int32)), .val (.int ad), .val (.int x0), .val (.int x1), .val (.int x2), .val (.int x3), .val (.int (1 : Int32))] [(.int (2 : Int32)), (.int (f 2))])) (fun t_ k_ => XS.iconst X1.here hx rfl (hb hby own_d_ap0_87) k_) ?_
  refine own_by (T' := T1) (g' := (mkF m 89 #[.val (.ref a), .val (.int (0 : Int32)), .val (.int ad), .val (.int x0), .val (.int x1), .val (.int x2), .val (.int x3), .val (.int (1 : Int32))] [(.int x0), (.int (2 : Int32)), (.int (f 2))])) (fun t_ k_ => XS.iloadN X1.here hx rfl (hb hby own_d_ap0_88) rfl k_) ?_
  refine own_by (T' := T1) (g' := (mkF m 91 #[.val (.ref a), .val (.int (0 : Int32)), .val (.int ad), .val (.int x0), .val (.int x1), .val (.int x2), .val (.int x3), .val (.int (1 : Int32))] [(.int x1), (.int x0), (.int (2 : Int32)), (.int (f 2))])) (fun t_ k_ => XS.iload X1.here hx rfl (hb hby own_d_ap0_89) rfl k_) ?_
  refine own_by (T' := T1) (g' := (mkF m 93 #[.val (.ref a), .val (.int (0 : Int32)), .val (.int ad), .val (.int x0), .val (.int x1), .val (.int x2), .val (.int x3), .val (.int (1 : Int32))] [(.int x2), (.int x1), (.int x0), (.int (2 : Int32)), (.int (f 2))])) (fun t_ k_ => XS.iload X1.here hx rfl (hb hby own_d_ap0_91) rfl k_) ?_
  refine own_by (T' := T1) (g' := (mkF m 95 #[.val (.ref a), .val (.int (0 : Int32)), .val (.int ad), .val (.int x0), .val (.int x1), .val (.int x2), .val (.int x3), .val (.int (1 : Int32))] [(.int x3), (.int x2), (.int x1), (.int x0), (.int (2 : Int32)), (.int (f 2))])) (fun t_ k_ => XS.iload X1.here hx rfl (hb hby own_d_ap0_93) rfl k_) ?_
  obtain ⟨_, T2, L2, X2, hQ2, st2⟩ := own_callS X1 hx hZ (y := (⟨"com/example/rowgate/rowgate/StoredValueArrayPinLaw", "orig", "(IIIII)B"⟩ : MethodName)) hown (hw _ (List.mem_of_getElem? (i := 47) rfl)) (hw _ (List.mem_of_getElem? (i := 48) rfl)) (hw _ (List.mem_of_getElem? (i := 26) rfl)) (hw _ (List.mem_of_getElem? (i := 49) rfl)) (by decide) (argsL := [(.int (2 : Int32)), (.int x0), (.int x1), (.int x2), (.int x3)]) (rest := [(.int (f 2))]) (own_rm_or2 l Z a0 hw [] x0 x1 x2 x3 h0 n0 Z0) e1 (W := 1) (by decide) (by decide) (by decide) (by decide) (g := (mkF m 95 #[.val (.ref a), .val (.int (0 : Int32)), .val (.int ad), .val (.int x0), .val (.int x1), .val (.int x2), .val (.int x3), .val (.int (1 : Int32))] [(.int x3), (.int x2), (.int x1), (.int x0), (.int (2 : Int32)), (.int (f 2))])) rfl (by rw [hml]; rfl) (lenOf own_pd0 rfl) rfl (by show 2 * 0 + _ ≤ _; exact Nat.le_of_eq rfl) (hb hby own_d_ap0_95)
  obtain ⟨rfl, Nq2, e2⟩ := hQ2
  have N2 := Fr.app N1 Nq2
  refine st2 _ ?_
  show own_Goes p e below _ T2 (mkF m 98 #[.val (.ref a), .val (.int (0 : Int32)), .val (.int ad), .val (.int x0), .val (.int x1), .val (.int x2), .val (.int x3), .val (.int (1 : Int32))] [(.int x2.toInt8.toInt32), (.int (f 2))])
  refine own_by (T' := T2) (g' := (mkF m 101 #[.val (.ref a), .val (.int (0 : Int32)), .val (.int ad), .val (.int x0), .val (.int x1), .val (.int x2), .val (.int x3), .val (.int (1 : Int32))] [])) (fun t_ k_ => XS.icmpNo X2.here hx rfl (hb hby own_d_ap0_98) rfl (teq (e2_ : (f 2) = x2.toInt8.toInt32)).2 k_) ?_
  refine own_by (T' := T2) (g' := (mkF m 102 #[.val (.ref a), .val (.int (0 : Int32)), .val (.int ad), .val (.int x0), .val (.int x1), .val (.int x2), .val (.int x3), .val (.int (1 : Int32))] [(.int (1 : Int32))])) (fun t_ k_ => XS.iconst X2.here hx rfl (hb hby own_d_ap0_101) k_) ?_
  refine own_by (T' := T2) (g' := (mkF m 106 #[.val (.ref a), .val (.int (0 : Int32)), .val (.int ad), .val (.int x0), .val (.int x1), .val (.int x2), .val (.int x3), .val (.int (1 : Int32))] [(.int (1 : Int32))])) (fun t_ k_ => XS.goto X2.here hx rfl (pc0 := 102) (pc' := 106) rfl (hb hby own_d_ap0_102) (by decide) (by decide) k_) ?_
  refine own_by (T' := T2) (g' := (mkF m 108 #[.val (.ref a), .val (.int (0 : Int32)), .val (.int ad), .val (.int x0), .val (.int x1), .val (.int x2), .val (.int x3), .val (.int (1 : Int32))] [])) (fun t_ k_ => XS.istore X2.here hx rfl (hb hby own_d_ap0_106) rfl (l' := #[.val (.ref a), .val (.int (0 : Int32)), .val (.int ad), .val (.int x0), .val (.int x1), .val (.int x2), .val (.int x3), .val (.int (1 : Int32))]) rfl k_) ?_
  refine own_by (T' := T2) (g' := (mkF m 110 #[.val (.ref a), .val (.int (0 : Int32)), .val (.int ad), .val (.int x0), .val (.int x1), .val (.int x2), .val (.int x3), .val (.int (1 : Int32))] [(.int (1 : Int32))])) (fun t_ k_ => XS.iload X2.here hx rfl (hb hby own_d_ap0_108) rfl k_) ?_
  refine own_by (T' := T2) (g' := (mkF m 113 #[.val (.ref a), .val (.int (0 : Int32)), .val (.int ad), .val (.int x0), .val (.int x1), .val (.int x2), .val (.int x3), .val (.int (1 : Int32))] [])) (fun t_ k_ => XS.ifNo X2.here hx rfl (hb hby own_d_ap0_110) rfl ((if0 _ _).trans (feq ((by decide) : ¬ ((1 : Int32) = (0 : Int32)))).1) k_) ?_
  refine own_by (T' := T2) (g' := (mkF m 114 #[.val (.ref a), .val (.int (0 : Int32)), .val (.int ad), .val (.int x0), .val (.int x1), .val (.int x2), .val (.int x3), .val (.int (1 : Int32))] [(.ref a)])) (fun t_ k_ => XS.aloadN X2.here hx rfl (hb hby own_d_ap0_113) rfl rfl k_) ?_
  refine own_by (T' := T2) (g' := (mkF m 115 #[.val (.ref a), .val (.int (0 : Int32)), .val (.int ad), .val (.int x0), .val (.int x1), .val (.int x2), .val (.int x3), .val (.int (1 : Int32))] [(.int (3 : Int32)), (.ref a)])) (fun t_ k_ => XS.iconst X2.here hx rfl (hb hby own_d_ap0_114) k_) ?_
  refine own_by (T' := T2) (g' := (mkF m 116 #[.val (.ref a), .val (.int (0 : Int32)), .val (.int ad), .val (.int x0), .val (.int x1), .val (.int x2), .val (.int x3), .val (.int (1 : Int32))] [(.int (f 3))])) (fun t_ k_ => own_bal X2 hx hZ e2 V0 (j := (3 : Int32)) (by decide) (by decide) (g := (mkF m 115 #[.val (.ref a), .val (.int (0 : Int32)), .val (.int ad), .val (.int x0), .val (.int x1), .val (.int x2), .val (.int x3), .val (.int (1 : Int32))] [(.int (3 : Int32)), (.ref a)])) rfl rfl (hb hby own_d_ap0_115) _ k_) ?_
  refine own_by (T' := T2) (g' := (mkF m 117 #[.val (.ref a), .val (.int (0 : Int32)), .val (.int ad), .val (.int x0), .val (.int x1), .val (.int x2), .val (.int x3), .val (.int (1 : Int32))] [(.int (0 : Int32)), (.int (f 3))])) (fun t_ k_ => XS.iloadN X2.here hx rfl (hb hby own_d_ap0_116) rfl k_) ?_
  refine own_by (T' := T2) (g' := (mkF m 118 #[.val (.ref a), .val (.int (0 : Int32)), .val (.int ad), .val (.int x0), .val (.int x1), .val (.int x2), .val (.int x3), .val (.int (1 : Int32))] [(.int (3 : Int32)), (.int (0 : Int32)), (.int (f 3))])) (fun t_ k_ => XS.iconst X2.here hx rfl (hb hby own_d_ap0_117) k_) ?_
  refine own_by (T' := T2) (g' := (mkF m 125 #[.val (.ref a), .val (.int (0 : Int32)), .val (.int ad), .val (.int x0), .val (.int x1), .val (.int x2), .val (.int x3), .val (.int (1 : Int32))] [(.int (f 3))])) (fun t_ k_ => XS.icmpYes X2.here hx rfl (pc0 := 118) (pc' := 125) rfl (hb hby own_d_ap0_118) rfl (feq ((by decide) : ¬ ((0 : Int32) = (3 : Int32)))).2 (by decide) (by decide) k_) ?_
  refine own_by (T' := T2) (g' := (mkF m 126 #[.val (.ref a), .val (.int (0 : Int32)), .val (.int ad), .val (.int x0), .val (.int x1), .val (.int x2), .val (.int x3), .val (.int (1 : Int32))] [(.int (3 : Int32)), (.int (f 3))])) (fun t_ k_ => XS.iconst X2.here hx rfl (hb hby own_d_ap0_125) k_) ?_
  refine own_by (T' := T2) (g' := (mkF m 127 #[.val (.ref a), .val (.int (0 : Int32)), .val (.int ad), .val (.int x0), .val (.int x1), .val (.int x2), .val (.int x3), .val (.int (1 : Int32))] [(.int x0), (.int (3 : Int32)), (.int (f 3))])) (fun t_ k_ => XS.iloadN X2.here hx rfl (hb hby own_d_ap0_126) rfl k_) ?_
  refine own_by (T' := T2) (g' := (mkF m 129 #[.val (.ref a), .val (.int (0 : Int32)), .val (.int ad), .val (.int x0), .val (.int x1), .val (.int x2), .val (.int x3), .val (.int (1 : Int32))] [(.int x1), (.int x0), (.int (3 : Int32)), (.int (f 3))])) (fun t_ k_ => XS.iload X2.here hx rfl (hb hby own_d_ap0_127) rfl k_) ?_
  refine own_by (T' := T2) (g' := (mkF m 131 #[.val (.ref a), .val (.int (0 : Int32)), .val (.int ad), .val (.int x0), .val (.int x1), .val (.int x2), .val (.int x3), .val (.int (1 : Int32))] [(.int x2), (.int x1), (.int x0), (.int (3 : Int32)), (.int (f 3))])) (fun t_ k_ => XS.iload X2.here hx rfl (hb hby own_d_ap0_129) rfl k_) ?_
  refine own_by (T' := T2) (g' := (mkF m 133 #[.val (.ref a), .val (.int (0 : Int32)), .val (.int ad), .val (.int x0), .val (.int x1), .val (.int x2), .val (.int x3), .val (.int (1 : Int32))] [(.int x3), (.int x2), (.int x1), (.int x0), (.int (3 : Int32)), (.int (f 3))])) (fun t_ k_ => XS.iload X2.here hx rfl (hb hby own_d_ap0_131) rfl k_) ?_
  obtain ⟨_, T3, L3, X3, hQ3, st3⟩ := own_callS X2 hx hZ (y := (⟨"com/example/rowgate/rowgate/StoredValueArrayPinLaw", "orig", "(IIIII)B"⟩ : MethodName)) hown (hw _ (List.mem_of_getElem? (i := 47) rfl)) (hw _ (List.mem_of_getElem? (i := 48) rfl)) (hw _ (List.mem_of_getElem? (i := 26) rfl)) (hw _ (List.mem_of_getElem? (i := 49) rfl)) (by decide) (argsL := [(.int (3 : Int32)), (.int x0), (.int x1), (.int x2), (.int x3)]) (rest := [(.int (f 3))]) (own_rm_or3 l Z a0 hw [] x0 x1 x2 x3 h0 n0 Z0) e2 (W := 1) (by decide) (by decide) (by decide) (by decide) (g := (mkF m 133 #[.val (.ref a), .val (.int (0 : Int32)), .val (.int ad), .val (.int x0), .val (.int x1), .val (.int x2), .val (.int x3), .val (.int (1 : Int32))] [(.int x3), (.int x2), (.int x1), (.int x0), (.int (3 : Int32)), (.int (f 3))])) rfl (by rw [hml]; rfl) (lenOf own_pd0 rfl) rfl (by show 2 * 0 + _ ≤ _; exact Nat.le_of_eq rfl) (hb hby own_d_ap0_133)
  obtain ⟨rfl, Nq3, e3⟩ := hQ3
  have N3 := Fr.app N2 Nq3
  refine st3 _ ?_
  show own_Goes p e below _ T3 (mkF m 136 #[.val (.ref a), .val (.int (0 : Int32)), .val (.int ad), .val (.int x0), .val (.int x1), .val (.int x2), .val (.int x3), .val (.int (1 : Int32))] [(.int x3.toInt8.toInt32), (.int (f 3))])
  refine own_by (T' := T3) (g' := (mkF m 139 #[.val (.ref a), .val (.int (0 : Int32)), .val (.int ad), .val (.int x0), .val (.int x1), .val (.int x2), .val (.int x3), .val (.int (1 : Int32))] [])) (fun t_ k_ => XS.icmpNo X3.here hx rfl (hb hby own_d_ap0_136) rfl (teq (e3_ : (f 3) = x3.toInt8.toInt32)).2 k_) ?_
  refine own_by (T' := T3) (g' := (mkF m 140 #[.val (.ref a), .val (.int (0 : Int32)), .val (.int ad), .val (.int x0), .val (.int x1), .val (.int x2), .val (.int x3), .val (.int (1 : Int32))] [(.int (1 : Int32))])) (fun t_ k_ => XS.iconst X3.here hx rfl (hb hby own_d_ap0_139) k_) ?_
  refine own_by (T' := T3) (g' := (mkF m 144 #[.val (.ref a), .val (.int (0 : Int32)), .val (.int ad), .val (.int x0), .val (.int x1), .val (.int x2), .val (.int x3), .val (.int (1 : Int32))] [(.int (1 : Int32))])) (fun t_ k_ => XS.goto X3.here hx rfl (pc0 := 140) (pc' := 144) rfl (hb hby own_d_ap0_140) (by decide) (by decide) k_) ?_
  refine own_by (T' := T3) (g' := (mkF m 146 #[.val (.ref a), .val (.int (0 : Int32)), .val (.int ad), .val (.int x0), .val (.int x1), .val (.int x2), .val (.int x3), .val (.int (1 : Int32))] [])) (fun t_ k_ => XS.istore X3.here hx rfl (hb hby own_d_ap0_144) rfl (l' := #[.val (.ref a), .val (.int (0 : Int32)), .val (.int ad), .val (.int x0), .val (.int x1), .val (.int x2), .val (.int x3), .val (.int (1 : Int32))]) rfl k_) ?_
  refine own_by (T' := T3) (g' := (mkF m 148 #[.val (.ref a), .val (.int (0 : Int32)), .val (.int ad), .val (.int x0), .val (.int x1), .val (.int x2), .val (.int x3), .val (.int (1 : Int32))] [(.int (1 : Int32))])) (fun t_ k_ => XS.iload X3.here hx rfl (hb hby own_d_ap0_146) rfl k_) ?_
  refine own_retN X3 hx (t := .boolean) Bd.returns hlk (by simp) (hb hby own_d_ap0_148) (by decide) (by decide) (v := (1 : Int32)) rfl ?_
  rw [e3]
  exact ⟨rfl, N3, rfl⟩
theorem own_d_ap1_0 : decode method_4_code 0 = .ok (.aload_n 0, 1) := by decide +kernel
theorem own_d_ap1_1 : decode method_4_code 1 = .ok (.iconst 0, 1) := by decide +kernel
theorem own_d_ap1_2 : decode method_4_code 2 = .ok (.baload, 1) := by decide +kernel
theorem own_d_ap1_3 : decode method_4_code 3 = .ok (.iload_n 1, 1) := by decide +kernel
theorem own_d_ap1_4 : decode method_4_code 4 = .ok (.ifCond .ne 7, 3) := by decide +kernel
theorem own_d_ap1_11 : decode method_4_code 11 = .ok (.iconst 0, 1) := by decide +kernel
theorem own_d_ap1_12 : decode method_4_code 12 = .ok (.iload_n 3, 1) := by decide +kernel
theorem own_d_ap1_13 : decode method_4_code 13 = .ok (.iload 4, 2) := by decide +kernel
theorem own_d_ap1_15 : decode method_4_code 15 = .ok (.iload 5, 2) := by decide +kernel
theorem own_d_ap1_17 : decode method_4_code 17 = .ok (.iload 6, 2) := by decide +kernel
theorem own_d_ap1_19 : decode method_4_code 19 = .ok (.invokestatic 7, 3) := by decide +kernel
theorem own_d_ap1_22 : decode method_4_code 22 = .ok (.if_icmp .ne 7, 3) := by decide +kernel
theorem own_d_ap1_25 : decode method_4_code 25 = .ok (.iconst 1, 1) := by decide +kernel
theorem own_d_ap1_26 : decode method_4_code 26 = .ok (.goto 4, 3) := by decide +kernel
theorem own_d_ap1_30 : decode method_4_code 30 = .ok (.istore 7, 2) := by decide +kernel
theorem own_d_ap1_32 : decode method_4_code 32 = .ok (.iload 7, 2) := by decide +kernel
theorem own_d_ap1_34 : decode method_4_code 34 = .ok (.ifCond .eq 33, 3) := by decide +kernel
theorem own_d_ap1_37 : decode method_4_code 37 = .ok (.aload_n 0, 1) := by decide +kernel
theorem own_d_ap1_38 : decode method_4_code 38 = .ok (.iconst 1, 1) := by decide +kernel
theorem own_d_ap1_39 : decode method_4_code 39 = .ok (.baload, 1) := by decide +kernel
theorem own_d_ap1_40 : decode method_4_code 40 = .ok (.iload_n 1, 1) := by decide +kernel
theorem own_d_ap1_41 : decode method_4_code 41 = .ok (.iconst 1, 1) := by decide +kernel
theorem own_d_ap1_42 : decode method_4_code 42 = .ok (.if_icmp .ne 7, 3) := by decide +kernel
theorem own_d_ap1_45 : decode method_4_code 45 = .ok (.iload_n 2, 1) := by decide +kernel
theorem own_d_ap1_46 : decode method_4_code 46 = .ok (.goto 14, 3) := by decide +kernel
theorem own_d_ap1_60 : decode method_4_code 60 = .ok (.if_icmp .ne 7, 3) := by decide +kernel
theorem own_d_ap1_63 : decode method_4_code 63 = .ok (.iconst 1, 1) := by decide +kernel
theorem own_d_ap1_64 : decode method_4_code 64 = .ok (.goto 4, 3) := by decide +kernel
theorem own_d_ap1_68 : decode method_4_code 68 = .ok (.istore 7, 2) := by decide +kernel
theorem own_d_ap1_70 : decode method_4_code 70 = .ok (.iload 7, 2) := by decide +kernel
theorem own_d_ap1_72 : decode method_4_code 72 = .ok (.ifCond .eq 33, 3) := by decide +kernel
theorem own_d_ap1_75 : decode method_4_code 75 = .ok (.aload_n 0, 1) := by decide +kernel
theorem own_d_ap1_76 : decode method_4_code 76 = .ok (.iconst 2, 1) := by decide +kernel
theorem own_d_ap1_77 : decode method_4_code 77 = .ok (.baload, 1) := by decide +kernel
theorem own_d_ap1_78 : decode method_4_code 78 = .ok (.iload_n 1, 1) := by decide +kernel
theorem own_d_ap1_79 : decode method_4_code 79 = .ok (.iconst 2, 1) := by decide +kernel
theorem own_d_ap1_80 : decode method_4_code 80 = .ok (.if_icmp .ne 7, 3) := by decide +kernel
theorem own_d_ap1_87 : decode method_4_code 87 = .ok (.iconst 2, 1) := by decide +kernel
theorem own_d_ap1_88 : decode method_4_code 88 = .ok (.iload_n 3, 1) := by decide +kernel
theorem own_d_ap1_89 : decode method_4_code 89 = .ok (.iload 4, 2) := by decide +kernel
theorem own_d_ap1_91 : decode method_4_code 91 = .ok (.iload 5, 2) := by decide +kernel
theorem own_d_ap1_93 : decode method_4_code 93 = .ok (.iload 6, 2) := by decide +kernel
theorem own_d_ap1_95 : decode method_4_code 95 = .ok (.invokestatic 7, 3) := by decide +kernel
theorem own_d_ap1_98 : decode method_4_code 98 = .ok (.if_icmp .ne 7, 3) := by decide +kernel
theorem own_d_ap1_101 : decode method_4_code 101 = .ok (.iconst 1, 1) := by decide +kernel
theorem own_d_ap1_102 : decode method_4_code 102 = .ok (.goto 4, 3) := by decide +kernel
theorem own_d_ap1_106 : decode method_4_code 106 = .ok (.istore 7, 2) := by decide +kernel
theorem own_d_ap1_108 : decode method_4_code 108 = .ok (.iload 7, 2) := by decide +kernel
theorem own_d_ap1_110 : decode method_4_code 110 = .ok (.ifCond .eq 33, 3) := by decide +kernel
theorem own_d_ap1_113 : decode method_4_code 113 = .ok (.aload_n 0, 1) := by decide +kernel
theorem own_d_ap1_114 : decode method_4_code 114 = .ok (.iconst 3, 1) := by decide +kernel
theorem own_d_ap1_115 : decode method_4_code 115 = .ok (.baload, 1) := by decide +kernel
theorem own_d_ap1_116 : decode method_4_code 116 = .ok (.iload_n 1, 1) := by decide +kernel
theorem own_d_ap1_117 : decode method_4_code 117 = .ok (.iconst 3, 1) := by decide +kernel
theorem own_d_ap1_118 : decode method_4_code 118 = .ok (.if_icmp .ne 7, 3) := by decide +kernel
theorem own_d_ap1_125 : decode method_4_code 125 = .ok (.iconst 3, 1) := by decide +kernel
theorem own_d_ap1_126 : decode method_4_code 126 = .ok (.iload_n 3, 1) := by decide +kernel
theorem own_d_ap1_127 : decode method_4_code 127 = .ok (.iload 4, 2) := by decide +kernel
theorem own_d_ap1_129 : decode method_4_code 129 = .ok (.iload 5, 2) := by decide +kernel
theorem own_d_ap1_131 : decode method_4_code 131 = .ok (.iload 6, 2) := by decide +kernel
theorem own_d_ap1_133 : decode method_4_code 133 = .ok (.invokestatic 7, 3) := by decide +kernel
theorem own_d_ap1_136 : decode method_4_code 136 = .ok (.if_icmp .ne 7, 3) := by decide +kernel
theorem own_d_ap1_139 : decode method_4_code 139 = .ok (.iconst 1, 1) := by decide +kernel
theorem own_d_ap1_140 : decode method_4_code 140 = .ok (.goto 4, 3) := by decide +kernel
theorem own_d_ap1_144 : decode method_4_code 144 = .ok (.istore 7, 2) := by decide +kernel
theorem own_d_ap1_146 : decode method_4_code 146 = .ok (.iload 7, 2) := by decide +kernel
theorem own_d_ap1_148 : decode method_4_code 148 = .ok (.ireturn, 1) := by decide +kernel
theorem own_ef_ap1 (m : MethodId) (a : Addr) (ad : Int32) (x0 : Int32) (x1 : Int32) (x2 : Int32) (x3 : Int32) : entryFrame m #[(.ref a), (.int (1 : Int32)), (.int ad), (.int x0), (.int x1), (.int x2), (.int x3)] 8 = mkF m 0 #[.val (.ref a), .val (.int (1 : Int32)), .val (.int ad), .val (.int x0), .val (.int x1), .val (.int x2), .val (.int x3), .unset] [] := by first | (simp [entryFrame, mkF, argsToLocals, Value.category]; done) | rfl
def own_Q_ap1 (Z : State) (a : Addr) (ad : Int32) (x0 : Int32) (x1 : Int32) (x2 : Int32) (x3 : Int32) (f : Nat → Int32) (h0 : Heap) (n0 : Nat) (v : Option Value) (h : Heap) (L : List Loc) : Prop := v = some (.int 1) ∧ Fr n0 L ∧ h = h0
set_option maxRecDepth 65536 in
set_option maxHeartbeats 40000000 in
theorem own_rm_ap1 (l : Launch) (Z : State) (a0 : Array Value) (hw : ∀ d ∈ tables_1, d.before a0 Z = true) (ws : List Jvm.Cond) (a : Addr) (ad : Int32) (x0 : Int32) (x1 : Int32) (x2 : Int32) (x3 : Int32) (f : Nat → Int32) (h0 : Heap) (n0 : Nat) (Z0 : n0 ≤ h0.size) (V0 : own_Ia Z h0 a .byte 4 f) (e0_ : f 0 = x0.toInt8.toInt32) (e1_ : f 1 = ad) (e2_ : f 2 = x2.toInt8.toInt32) (e3_ : f 3 = x3.toInt8.toInt32) :
    MetFree l (⟨"com/example/rowgate/rowgate/StoredValueArrayPinLaw", "afterAppend", "([BIBIIII)Z"⟩ : MethodName) (head1 (Jvm.Cond.code (⟨"com/example/rowgate/rowgate/StoredValueArrayPinLaw", "afterAppend", "([BIBIIII)Z"⟩ : MethodName) method_4_code 8 (some .boolean) :: ws) ({ frames := 1, cells := 0, slots := 0, locals := 17 } : Room)) (fun a_ U_ => a_ = #[(.ref a), (.int (1 : Int32)), (.int ad), (.int x0), (.int x1), (.int x2), (.int x3)] ∧ Z.Warmed39 U_.vm ∧ U_.heap = h0) (fun _ _ _ _ _ => True) (fun _ U_ o_ U'_ => ∃ v_ L_, o_ = .returned v_ ∧ own_Q_ap1 Z a ad x0 x1 x2 x3 f h0 n0 v_ U'_.heap L_ ∧ FrameEnd U_ o_ U'_ L_ ({ frames := 1, cells := 0, slots := 0, locals := 17 } : Room).cells ({ frames := 1, cells := 0, slots := 0, locals := 17 } : Room).slots) := by
  refine MetFree.of_bodySF (plainFor_of_name own_pn_com_example_rowgate_rowgate_StoredValueArrayPinLaw) hisR ?_
  intro p e s m args below meth c s₁ Bd hml0 hP hK
  obtain ⟨rfl, hZ, hh⟩ := hP
  have hx := Bd.exec
  have hby := Bd.bytes
  have hlk : meth.locks = false := BodyLoose.notSynchronized Bd
  have hml : c.maxLocals = 8 := hml0
  have hown : s.vm.findClass "com/example/rowgate/rowgate/StoredValueArrayPinLaw" = some m.cls := findClass_of_methodNamed Bd.named
  have hnm := (name_of_methodNamed Bd.named Bd.method).1
  have X0 : Stand p l e ({ frames := 1, cells := 0, slots := 0, locals := 17 } : Room) s m #[(.ref a), (.int (1 : Int32)), (.int ad), (.int x0), (.int x1), (.int x2), (.int x3)] below meth c s₁ [] 0 0 := Stand.of_body Bd
  have e0 : s₁.heap = h0 := by rw [← hh, Bd.state]; rfl
  have N0 := Fr.nil n0
  show own_Goes p e below (own_K (own_Q_ap1 Z a ad x0 x1 x2 x3 f h0 n0) s ({ frames := 1, cells := 0, slots := 0, locals := 17 } : Room).cells ({ frames := 1, cells := 0, slots := 0, locals := 17 } : Room).slots) s₁ (entryFrame m #[(.ref a), (.int (1 : Int32)), (.int ad), (.int x0), (.int x1), (.int x2), (.int x3)] 8)
  rw [own_ef_ap1]
  refine own_by (T' := s₁) (g' := (mkF m 1 #[.val (.ref a), .val (.int (1 : Int32)), .val (.int ad), .val (.int x0), .val (.int x1), .val (.int x2), .val (.int x3), .unset] [(.ref a)])) (fun t_ k_ => XS.aloadN X0.here hx rfl (hb hby own_d_ap1_0) rfl rfl k_) ?_
  refine own_by (T' := s₁) (g' := (mkF m 2 #[.val (.ref a), .val (.int (1 : Int32)), .val (.int ad), .val (.int x0), .val (.int x1), .val (.int x2), .val (.int x3), .unset] [(.int (0 : Int32)), (.ref a)])) (fun t_ k_ => XS.iconst X0.here hx rfl (hb hby own_d_ap1_1) k_) ?_
  refine own_by (T' := s₁) (g' := (mkF m 3 #[.val (.ref a), .val (.int (1 : Int32)), .val (.int ad), .val (.int x0), .val (.int x1), .val (.int x2), .val (.int x3), .unset] [(.int (f 0))])) (fun t_ k_ => own_bal X0 hx hZ e0 V0 (j := (0 : Int32)) (by decide) (by decide) (g := (mkF m 2 #[.val (.ref a), .val (.int (1 : Int32)), .val (.int ad), .val (.int x0), .val (.int x1), .val (.int x2), .val (.int x3), .unset] [(.int (0 : Int32)), (.ref a)])) rfl rfl (hb hby own_d_ap1_2) _ k_) ?_
  refine own_by (T' := s₁) (g' := (mkF m 4 #[.val (.ref a), .val (.int (1 : Int32)), .val (.int ad), .val (.int x0), .val (.int x1), .val (.int x2), .val (.int x3), .unset] [(.int (1 : Int32)), (.int (f 0))])) (fun t_ k_ => XS.iloadN X0.here hx rfl (hb hby own_d_ap1_3) rfl k_) ?_
  refine own_by (T' := s₁) (g' := (mkF m 11 #[.val (.ref a), .val (.int (1 : Int32)), .val (.int ad), .val (.int x0), .val (.int x1), .val (.int x2), .val (.int x3), .unset] [(.int (f 0))])) (fun t_ k_ => XS.ifYes X0.here hx rfl (pc0 := 4) (pc' := 11) rfl (hb hby own_d_ap1_4) rfl ((if0 _ _).trans (feq ((by decide) : ¬ ((1 : Int32) = (0 : Int32)))).2) (by decide) (by decide) k_) ?_
  refine own_by (T' := s₁) (g' := (mkF m 12 #[.val (.ref a), .val (.int (1 : Int32)), .val (.int ad), .val (.int x0), .val (.int x1), .val (.int x2), .val (.int x3), .unset] [(.int (0 : Int32)), (.int (f 0))])) (fun t_ k_ => XS.iconst X0.here hx rfl (hb hby own_d_ap1_11) k_) ?_
  refine own_by (T' := s₁) (g' := (mkF m 13 #[.val (.ref a), .val (.int (1 : Int32)), .val (.int ad), .val (.int x0), .val (.int x1), .val (.int x2), .val (.int x3), .unset] [(.int x0), (.int (0 : Int32)), (.int (f 0))])) (fun t_ k_ => XS.iloadN X0.here hx rfl (hb hby own_d_ap1_12) rfl k_) ?_
  refine own_by (T' := s₁) (g' := (mkF m 15 #[.val (.ref a), .val (.int (1 : Int32)), .val (.int ad), .val (.int x0), .val (.int x1), .val (.int x2), .val (.int x3), .unset] [(.int x1), (.int x0), (.int (0 : Int32)), (.int (f 0))])) (fun t_ k_ => XS.iload X0.here hx rfl (hb hby own_d_ap1_13) rfl k_) ?_
  refine own_by (T' := s₁) (g' := (mkF m 17 #[.val (.ref a), .val (.int (1 : Int32)), .val (.int ad), .val (.int x0), .val (.int x1), .val (.int x2), .val (.int x3), .unset] [(.int x2), (.int x1), (.int x0), (.int (0 : Int32)), (.int (f 0))])) (fun t_ k_ => XS.iload X0.here hx rfl (hb hby own_d_ap1_15) rfl k_) ?_
  refine own_by (T' := s₁) (g' := (mkF m 19 #[.val (.ref a), .val (.int (1 : Int32)), .val (.int ad), .val (.int x0), .val (.int x1), .val (.int x2), .val (.int x3), .unset] [(.int x3), (.int x2), (.int x1), (.int x0), (.int (0 : Int32)), (.int (f 0))])) (fun t_ k_ => XS.iload X0.here hx rfl (hb hby own_d_ap1_17) rfl k_) ?_
  obtain ⟨_, T1, L1, X1, hQ1, st1⟩ := own_callS X0 hx hZ (y := (⟨"com/example/rowgate/rowgate/StoredValueArrayPinLaw", "orig", "(IIIII)B"⟩ : MethodName)) hown (hw _ (List.mem_of_getElem? (i := 47) rfl)) (hw _ (List.mem_of_getElem? (i := 48) rfl)) (hw _ (List.mem_of_getElem? (i := 26) rfl)) (hw _ (List.mem_of_getElem? (i := 49) rfl)) (by decide) (argsL := [(.int (0 : Int32)), (.int x0), (.int x1), (.int x2), (.int x3)]) (rest := [(.int (f 0))]) (own_rm_or0 l Z a0 hw [] x0 x1 x2 x3 h0 n0 Z0) e0 (W := 1) (by decide) (by decide) (by decide) (by decide) (g := (mkF m 19 #[.val (.ref a), .val (.int (1 : Int32)), .val (.int ad), .val (.int x0), .val (.int x1), .val (.int x2), .val (.int x3), .unset] [(.int x3), (.int x2), (.int x1), (.int x0), (.int (0 : Int32)), (.int (f 0))])) rfl (by rw [hml]; rfl) (lenOf own_pd0 rfl) rfl (by show 2 * 0 + _ ≤ _; exact Nat.le_of_eq rfl) (hb hby own_d_ap1_19)
  obtain ⟨rfl, Nq1, e1⟩ := hQ1
  have N1 := Fr.app N0 Nq1
  refine st1 _ ?_
  show own_Goes p e below _ T1 (mkF m 22 #[.val (.ref a), .val (.int (1 : Int32)), .val (.int ad), .val (.int x0), .val (.int x1), .val (.int x2), .val (.int x3), .unset] [(.int x0.toInt8.toInt32), (.int (f 0))])
  refine own_by (T' := T1) (g' := (mkF m 25 #[.val (.ref a), .val (.int (1 : Int32)), .val (.int ad), .val (.int x0), .val (.int x1), .val (.int x2), .val (.int x3), .unset] [])) (fun t_ k_ => XS.icmpNo X1.here hx rfl (hb hby own_d_ap1_22) rfl (teq (e0_ : (f 0) = x0.toInt8.toInt32)).2 k_) ?_
  refine own_by (T' := T1) (g' := (mkF m 26 #[.val (.ref a), .val (.int (1 : Int32)), .val (.int ad), .val (.int x0), .val (.int x1), .val (.int x2), .val (.int x3), .unset] [(.int (1 : Int32))])) (fun t_ k_ => XS.iconst X1.here hx rfl (hb hby own_d_ap1_25) k_) ?_
  refine own_by (T' := T1) (g' := (mkF m 30 #[.val (.ref a), .val (.int (1 : Int32)), .val (.int ad), .val (.int x0), .val (.int x1), .val (.int x2), .val (.int x3), .unset] [(.int (1 : Int32))])) (fun t_ k_ => XS.goto X1.here hx rfl (pc0 := 26) (pc' := 30) rfl (hb hby own_d_ap1_26) (by decide) (by decide) k_) ?_
  refine own_by (T' := T1) (g' := (mkF m 32 #[.val (.ref a), .val (.int (1 : Int32)), .val (.int ad), .val (.int x0), .val (.int x1), .val (.int x2), .val (.int x3), .val (.int (1 : Int32))] [])) (fun t_ k_ => XS.istore X1.here hx rfl (hb hby own_d_ap1_30) rfl (l' := #[.val (.ref a), .val (.int (1 : Int32)), .val (.int ad), .val (.int x0), .val (.int x1), .val (.int x2), .val (.int x3), .val (.int (1 : Int32))]) rfl k_) ?_
  refine own_by (T' := T1) (g' := (mkF m 34 #[.val (.ref a), .val (.int (1 : Int32)), .val (.int ad), .val (.int x0), .val (.int x1), .val (.int x2), .val (.int x3), .val (.int (1 : Int32))] [(.int (1 : Int32))])) (fun t_ k_ => XS.iload X1.here hx rfl (hb hby own_d_ap1_32) rfl k_) ?_
  refine own_by (T' := T1) (g' := (mkF m 37 #[.val (.ref a), .val (.int (1 : Int32)), .val (.int ad), .val (.int x0), .val (.int x1), .val (.int x2), .val (.int x3), .val (.int (1 : Int32))] [])) (fun t_ k_ => XS.ifNo X1.here hx rfl (hb hby own_d_ap1_34) rfl ((if0 _ _).trans (feq ((by decide) : ¬ ((1 : Int32) = (0 : Int32)))).1) k_) ?_
  refine own_by (T' := T1) (g' := (mkF m 38 #[.val (.ref a), .val (.int (1 : Int32)), .val (.int ad), .val (.int x0), .val (.int x1), .val (.int x2), .val (.int x3), .val (.int (1 : Int32))] [(.ref a)])) (fun t_ k_ => XS.aloadN X1.here hx rfl (hb hby own_d_ap1_37) rfl rfl k_) ?_
  refine own_by (T' := T1) (g' := (mkF m 39 #[.val (.ref a), .val (.int (1 : Int32)), .val (.int ad), .val (.int x0), .val (.int x1), .val (.int x2), .val (.int x3), .val (.int (1 : Int32))] [(.int (1 : Int32)), (.ref a)])) (fun t_ k_ => XS.iconst X1.here hx rfl (hb hby own_d_ap1_38) k_) ?_
  refine own_by (T' := T1) (g' := (mkF m 40 #[.val (.ref a), .val (.int (1 : Int32)), .val (.int ad), .val (.int x0), .val (.int x1), .val (.int x2), .val (.int x3), .val (.int (1 : Int32))] [(.int (f 1))])) (fun t_ k_ => own_bal X1 hx hZ e1 V0 (j := (1 : Int32)) (by decide) (by decide) (g := (mkF m 39 #[.val (.ref a), .val (.int (1 : Int32)), .val (.int ad), .val (.int x0), .val (.int x1), .val (.int x2), .val (.int x3), .val (.int (1 : Int32))] [(.int (1 : Int32)), (.ref a)])) rfl rfl (hb hby own_d_ap1_39) _ k_) ?_
  refine own_by (T' := T1) (g' := (mkF m 41 #[.val (.ref a), .val (.int (1 : Int32)), .val (.int ad), .val (.int x0), .val (.int x1), .val (.int x2), .val (.int x3), .val (.int (1 : Int32))] [(.int (1 : Int32)), (.int (f 1))])) (fun t_ k_ => XS.iloadN X1.here hx rfl (hb hby own_d_ap1_40) rfl k_) ?_
  refine own_by (T' := T1) (g' := (mkF m 42 #[.val (.ref a), .val (.int (1 : Int32)), .val (.int ad), .val (.int x0), .val (.int x1), .val (.int x2), .val (.int x3), .val (.int (1 : Int32))] [(.int (1 : Int32)), (.int (1 : Int32)), (.int (f 1))])) (fun t_ k_ => XS.iconst X1.here hx rfl (hb hby own_d_ap1_41) k_) ?_
  refine own_by (T' := T1) (g' := (mkF m 45 #[.val (.ref a), .val (.int (1 : Int32)), .val (.int ad), .val (.int x0), .val (.int x1), .val (.int x2), .val (.int x3), .val (.int (1 : Int32))] [(.int (f 1))])) (fun t_ k_ => XS.icmpNo X1.here hx rfl (hb hby own_d_ap1_42) rfl (teq ((by decide) : (1 : Int32) = (1 : Int32))).2 k_) ?_
  refine own_by (T' := T1) (g' := (mkF m 46 #[.val (.ref a), .val (.int (1 : Int32)), .val (.int ad), .val (.int x0), .val (.int x1), .val (.int x2), .val (.int x3), .val (.int (1 : Int32))] [(.int ad), (.int (f 1))])) (fun t_ k_ => XS.iloadN X1.here hx rfl (hb hby own_d_ap1_45) rfl k_) ?_
  refine own_by (T' := T1) (g' := (mkF m 60 #[.val (.ref a), .val (.int (1 : Int32)), .val (.int ad), .val (.int x0), .val (.int x1), .val (.int x2), .val (.int x3), .val (.int (1 : Int32))] [(.int ad), (.int (f 1))])) (fun t_ k_ => XS.goto X1.here hx rfl (pc0 := 46) (pc' := 60) rfl (hb hby own_d_ap1_46) (by decide) (by decide) k_) ?_
  refine own_by (T' := T1) (g' := (mkF m 63 #[.val (.ref a), .val (.int (1 : Int32)), .val (.int ad), .val (.int x0), .val (.int x1), .val (.int x2), .val (.int x3), .val (.int (1 : Int32))] [])) (fun t_ k_ => XS.icmpNo X1.here hx rfl (hb hby own_d_ap1_60) rfl (teq (e1_ : (f 1) = ad)).2 k_) ?_
  refine own_by (T' := T1) (g' := (mkF m 64 #[.val (.ref a), .val (.int (1 : Int32)), .val (.int ad), .val (.int x0), .val (.int x1), .val (.int x2), .val (.int x3), .val (.int (1 : Int32))] [(.int (1 : Int32))])) (fun t_ k_ => XS.iconst X1.here hx rfl (hb hby own_d_ap1_63) k_) ?_
  refine own_by (T' := T1) (g' := (mkF m 68 #[.val (.ref a), .val (.int (1 : Int32)), .val (.int ad), .val (.int x0), .val (.int x1), .val (.int x2), .val (.int x3), .val (.int (1 : Int32))] [(.int (1 : Int32))])) (fun t_ k_ => XS.goto X1.here hx rfl (pc0 := 64) (pc' := 68) rfl (hb hby own_d_ap1_64) (by decide) (by decide) k_) ?_
  refine own_by (T' := T1) (g' := (mkF m 70 #[.val (.ref a), .val (.int (1 : Int32)), .val (.int ad), .val (.int x0), .val (.int x1), .val (.int x2), .val (.int x3), .val (.int (1 : Int32))] [])) (fun t_ k_ => XS.istore X1.here hx rfl (hb hby own_d_ap1_68) rfl (l' := #[.val (.ref a), .val (.int (1 : Int32)), .val (.int ad), .val (.int x0), .val (.int x1), .val (.int x2), .val (.int x3), .val (.int (1 : Int32))]) rfl k_) ?_
  refine own_by (T' := T1) (g' := (mkF m 72 #[.val (.ref a), .val (.int (1 : Int32)), .val (.int ad), .val (.int x0), .val (.int x1), .val (.int x2), .val (.int x3), .val (.int (1 : Int32))] [(.int (1 : Int32))])) (fun t_ k_ => XS.iload X1.here hx rfl (hb hby own_d_ap1_70) rfl k_) ?_
  refine own_by (T' := T1) (g' := (mkF m 75 #[.val (.ref a), .val (.int (1 : Int32)), .val (.int ad), .val (.int x0), .val (.int x1), .val (.int x2), .val (.int x3), .val (.int (1 : Int32))] [])) (fun t_ k_ => XS.ifNo X1.here hx rfl (hb hby own_d_ap1_72) rfl ((if0 _ _).trans (feq ((by decide) : ¬ ((1 : Int32) = (0 : Int32)))).1) k_) ?_
  refine own_by (T' := T1) (g' := (mkF m 76 #[.val (.ref a), .val (.int (1 : Int32)), .val (.int ad), .val (.int x0), .val (.int x1), .val (.int x2), .val (.int x3), .val (.int (1 : Int32))] [(.ref a)])) (fun t_ k_ => XS.aloadN X1.here hx rfl (hb hby own_d_ap1_75) rfl rfl k_) ?_
  refine own_by (T' := T1) (g' := (mkF m 77 #[.val (.ref a), .val (.int (1 : Int32)), .val (.int ad), .val (.int x0), .val (.int x1), .val (.int x2), .val (.int x3), .val (.int (1 : Int32))] [(.int (2 : Int32)), (.ref a)])) (fun t_ k_ => XS.iconst X1.here hx rfl (hb hby own_d_ap1_76) k_) ?_
  refine own_by (T' := T1) (g' := (mkF m 78 #[.val (.ref a), .val (.int (1 : Int32)), .val (.int ad), .val (.int x0), .val (.int x1), .val (.int x2), .val (.int x3), .val (.int (1 : Int32))] [(.int (f 2))])) (fun t_ k_ => own_bal X1 hx hZ e1 V0 (j := (2 : Int32)) (by decide) (by decide) (g := (mkF m 77 #[.val (.ref a), .val (.int (1 : Int32)), .val (.int ad), .val (.int x0), .val (.int x1), .val (.int x2), .val (.int x3), .val (.int (1 : Int32))] [(.int (2 : Int32)), (.ref a)])) rfl rfl (hb hby own_d_ap1_77) _ k_) ?_
  refine own_by (T' := T1) (g' := (mkF m 79 #[.val (.ref a), .val (.int (1 : Int32)), .val (.int ad), .val (.int x0), .val (.int x1), .val (.int x2), .val (.int x3), .val (.int (1 : Int32))] [(.int (1 : Int32)), (.int (f 2))])) (fun t_ k_ => XS.iloadN X1.here hx rfl (hb hby own_d_ap1_78) rfl k_) ?_
  refine own_by (T' := T1) (g' := (mkF m 80 #[.val (.ref a), .val (.int (1 : Int32)), .val (.int ad), .val (.int x0), .val (.int x1), .val (.int x2), .val (.int x3), .val (.int (1 : Int32))] [(.int (2 : Int32)), (.int (1 : Int32)), (.int (f 2))])) (fun t_ k_ => XS.iconst X1.here hx rfl (hb hby own_d_ap1_79) k_) ?_
  refine own_by (T' := T1) (g' := (mkF m 87 #[.val (.ref a), .val (.int (1 : Int32)), .val (.int ad), .val (.int x0), .val (.int x1), .val (.int x2), .val (.int x3), .val (.int (1 : Int32))] [(.int (f 2))])) (fun t_ k_ => XS.icmpYes X1.here hx rfl (pc0 := 80) (pc' := 87) rfl (hb hby own_d_ap1_80) rfl (feq ((by decide) : ¬ ((1 : Int32) = (2 : Int32)))).2 (by decide) (by decide) k_) ?_
  refine own_by (T' := T1) (g' := (mkF m 88 #[.val (.ref a), .val (.int (1 : Int32)), .val (.int ad), .val (.int x0), .val (.int x1), .val (.int x2), .val (.int x3), .val (.int (1 : Int32))] [(.int (2 : Int32)), (.int (f 2))])) (fun t_ k_ => XS.iconst X1.here hx rfl (hb hby own_d_ap1_87) k_) ?_
  refine own_by (T' := T1) (g' := (mkF m 89 #[.val (.ref a), .val (.int (1 : Int32)), .val (.int ad), .val (.int x0), .val (.int x1), .val (.int x2), .val (.int x3), .val (.int (1 : Int32))] [(.int x0), (.int (2 : Int32)), (.int (f 2))])) (fun t_ k_ => XS.iloadN X1.here hx rfl (hb hby own_d_ap1_88) rfl k_) ?_
  refine own_by (T' := T1) (g' := (mkF m 91 #[.val (.ref a), .val (.int (1 : Int32)), .val (.int ad), .val (.int x0), .val (.int x1), .val (.int x2), .val (.int x3), .val (.int (1 : Int32))] [(.int x1), (.int x0), (.int (2 : Int32)), (.int (f 2))])) (fun t_ k_ => XS.iload X1.here hx rfl (hb hby own_d_ap1_89) rfl k_) ?_
  refine own_by (T' := T1) (g' := (mkF m 93 #[.val (.ref a), .val (.int (1 : Int32)), .val (.int ad), .val (.int x0), .val (.int x1), .val (.int x2), .val (.int x3), .val (.int (1 : Int32))] [(.int x2), (.int x1), (.int x0), (.int (2 : Int32)), (.int (f 2))])) (fun t_ k_ => XS.iload X1.here hx rfl (hb hby own_d_ap1_91) rfl k_) ?_
  refine own_by (T' := T1) (g' := (mkF m 95 #[.val (.ref a), .val (.int (1 : Int32)), .val (.int ad), .val (.int x0), .val (.int x1), .val (.int x2), .val (.int x3), .val (.int (1 : Int32))] [(.int x3), (.int x2), (.int x1), (.int x0), (.int (2 : Int32)), (.int (f 2))])) (fun t_ k_ => XS.iload X1.here hx rfl (hb hby own_d_ap1_93) rfl k_) ?_
  obtain ⟨_, T2, L2, X2, hQ2, st2⟩ := own_callS X1 hx hZ (y := (⟨"com/example/rowgate/rowgate/StoredValueArrayPinLaw", "orig", "(IIIII)B"⟩ : MethodName)) hown (hw _ (List.mem_of_getElem? (i := 47) rfl)) (hw _ (List.mem_of_getElem? (i := 48) rfl)) (hw _ (List.mem_of_getElem? (i := 26) rfl)) (hw _ (List.mem_of_getElem? (i := 49) rfl)) (by decide) (argsL := [(.int (2 : Int32)), (.int x0), (.int x1), (.int x2), (.int x3)]) (rest := [(.int (f 2))]) (own_rm_or2 l Z a0 hw [] x0 x1 x2 x3 h0 n0 Z0) e1 (W := 1) (by decide) (by decide) (by decide) (by decide) (g := (mkF m 95 #[.val (.ref a), .val (.int (1 : Int32)), .val (.int ad), .val (.int x0), .val (.int x1), .val (.int x2), .val (.int x3), .val (.int (1 : Int32))] [(.int x3), (.int x2), (.int x1), (.int x0), (.int (2 : Int32)), (.int (f 2))])) rfl (by rw [hml]; rfl) (lenOf own_pd0 rfl) rfl (by show 2 * 0 + _ ≤ _; exact Nat.le_of_eq rfl) (hb hby own_d_ap1_95)
  obtain ⟨rfl, Nq2, e2⟩ := hQ2
  have N2 := Fr.app N1 Nq2
  refine st2 _ ?_
  show own_Goes p e below _ T2 (mkF m 98 #[.val (.ref a), .val (.int (1 : Int32)), .val (.int ad), .val (.int x0), .val (.int x1), .val (.int x2), .val (.int x3), .val (.int (1 : Int32))] [(.int x2.toInt8.toInt32), (.int (f 2))])
  refine own_by (T' := T2) (g' := (mkF m 101 #[.val (.ref a), .val (.int (1 : Int32)), .val (.int ad), .val (.int x0), .val (.int x1), .val (.int x2), .val (.int x3), .val (.int (1 : Int32))] [])) (fun t_ k_ => XS.icmpNo X2.here hx rfl (hb hby own_d_ap1_98) rfl (teq (e2_ : (f 2) = x2.toInt8.toInt32)).2 k_) ?_
  refine own_by (T' := T2) (g' := (mkF m 102 #[.val (.ref a), .val (.int (1 : Int32)), .val (.int ad), .val (.int x0), .val (.int x1), .val (.int x2), .val (.int x3), .val (.int (1 : Int32))] [(.int (1 : Int32))])) (fun t_ k_ => XS.iconst X2.here hx rfl (hb hby own_d_ap1_101) k_) ?_
  refine own_by (T' := T2) (g' := (mkF m 106 #[.val (.ref a), .val (.int (1 : Int32)), .val (.int ad), .val (.int x0), .val (.int x1), .val (.int x2), .val (.int x3), .val (.int (1 : Int32))] [(.int (1 : Int32))])) (fun t_ k_ => XS.goto X2.here hx rfl (pc0 := 102) (pc' := 106) rfl (hb hby own_d_ap1_102) (by decide) (by decide) k_) ?_
  refine own_by (T' := T2) (g' := (mkF m 108 #[.val (.ref a), .val (.int (1 : Int32)), .val (.int ad), .val (.int x0), .val (.int x1), .val (.int x2), .val (.int x3), .val (.int (1 : Int32))] [])) (fun t_ k_ => XS.istore X2.here hx rfl (hb hby own_d_ap1_106) rfl (l' := #[.val (.ref a), .val (.int (1 : Int32)), .val (.int ad), .val (.int x0), .val (.int x1), .val (.int x2), .val (.int x3), .val (.int (1 : Int32))]) rfl k_) ?_
  refine own_by (T' := T2) (g' := (mkF m 110 #[.val (.ref a), .val (.int (1 : Int32)), .val (.int ad), .val (.int x0), .val (.int x1), .val (.int x2), .val (.int x3), .val (.int (1 : Int32))] [(.int (1 : Int32))])) (fun t_ k_ => XS.iload X2.here hx rfl (hb hby own_d_ap1_108) rfl k_) ?_
  refine own_by (T' := T2) (g' := (mkF m 113 #[.val (.ref a), .val (.int (1 : Int32)), .val (.int ad), .val (.int x0), .val (.int x1), .val (.int x2), .val (.int x3), .val (.int (1 : Int32))] [])) (fun t_ k_ => XS.ifNo X2.here hx rfl (hb hby own_d_ap1_110) rfl ((if0 _ _).trans (feq ((by decide) : ¬ ((1 : Int32) = (0 : Int32)))).1) k_) ?_
  refine own_by (T' := T2) (g' := (mkF m 114 #[.val (.ref a), .val (.int (1 : Int32)), .val (.int ad), .val (.int x0), .val (.int x1), .val (.int x2), .val (.int x3), .val (.int (1 : Int32))] [(.ref a)])) (fun t_ k_ => XS.aloadN X2.here hx rfl (hb hby own_d_ap1_113) rfl rfl k_) ?_
  refine own_by (T' := T2) (g' := (mkF m 115 #[.val (.ref a), .val (.int (1 : Int32)), .val (.int ad), .val (.int x0), .val (.int x1), .val (.int x2), .val (.int x3), .val (.int (1 : Int32))] [(.int (3 : Int32)), (.ref a)])) (fun t_ k_ => XS.iconst X2.here hx rfl (hb hby own_d_ap1_114) k_) ?_
  refine own_by (T' := T2) (g' := (mkF m 116 #[.val (.ref a), .val (.int (1 : Int32)), .val (.int ad), .val (.int x0), .val (.int x1), .val (.int x2), .val (.int x3), .val (.int (1 : Int32))] [(.int (f 3))])) (fun t_ k_ => own_bal X2 hx hZ e2 V0 (j := (3 : Int32)) (by decide) (by decide) (g := (mkF m 115 #[.val (.ref a), .val (.int (1 : Int32)), .val (.int ad), .val (.int x0), .val (.int x1), .val (.int x2), .val (.int x3), .val (.int (1 : Int32))] [(.int (3 : Int32)), (.ref a)])) rfl rfl (hb hby own_d_ap1_115) _ k_) ?_
  refine own_by (T' := T2) (g' := (mkF m 117 #[.val (.ref a), .val (.int (1 : Int32)), .val (.int ad), .val (.int x0), .val (.int x1), .val (.int x2), .val (.int x3), .val (.int (1 : Int32))] [(.int (1 : Int32)), (.int (f 3))])) (fun t_ k_ => XS.iloadN X2.here hx rfl (hb hby own_d_ap1_116) rfl k_) ?_
  refine own_by (T' := T2) (g' := (mkF m 118 #[.val (.ref a), .val (.int (1 : Int32)), .val (.int ad), .val (.int x0), .val (.int x1), .val (.int x2), .val (.int x3), .val (.int (1 : Int32))] [(.int (3 : Int32)), (.int (1 : Int32)), (.int (f 3))])) (fun t_ k_ => XS.iconst X2.here hx rfl (hb hby own_d_ap1_117) k_) ?_
  refine own_by (T' := T2) (g' := (mkF m 125 #[.val (.ref a), .val (.int (1 : Int32)), .val (.int ad), .val (.int x0), .val (.int x1), .val (.int x2), .val (.int x3), .val (.int (1 : Int32))] [(.int (f 3))])) (fun t_ k_ => XS.icmpYes X2.here hx rfl (pc0 := 118) (pc' := 125) rfl (hb hby own_d_ap1_118) rfl (feq ((by decide) : ¬ ((1 : Int32) = (3 : Int32)))).2 (by decide) (by decide) k_) ?_
  refine own_by (T' := T2) (g' := (mkF m 126 #[.val (.ref a), .val (.int (1 : Int32)), .val (.int ad), .val (.int x0), .val (.int x1), .val (.int x2), .val (.int x3), .val (.int (1 : Int32))] [(.int (3 : Int32)), (.int (f 3))])) (fun t_ k_ => XS.iconst X2.here hx rfl (hb hby own_d_ap1_125) k_) ?_
  refine own_by (T' := T2) (g' := (mkF m 127 #[.val (.ref a), .val (.int (1 : Int32)), .val (.int ad), .val (.int x0), .val (.int x1), .val (.int x2), .val (.int x3), .val (.int (1 : Int32))] [(.int x0), (.int (3 : Int32)), (.int (f 3))])) (fun t_ k_ => XS.iloadN X2.here hx rfl (hb hby own_d_ap1_126) rfl k_) ?_
  refine own_by (T' := T2) (g' := (mkF m 129 #[.val (.ref a), .val (.int (1 : Int32)), .val (.int ad), .val (.int x0), .val (.int x1), .val (.int x2), .val (.int x3), .val (.int (1 : Int32))] [(.int x1), (.int x0), (.int (3 : Int32)), (.int (f 3))])) (fun t_ k_ => XS.iload X2.here hx rfl (hb hby own_d_ap1_127) rfl k_) ?_
  refine own_by (T' := T2) (g' := (mkF m 131 #[.val (.ref a), .val (.int (1 : Int32)), .val (.int ad), .val (.int x0), .val (.int x1), .val (.int x2), .val (.int x3), .val (.int (1 : Int32))] [(.int x2), (.int x1), (.int x0), (.int (3 : Int32)), (.int (f 3))])) (fun t_ k_ => XS.iload X2.here hx rfl (hb hby own_d_ap1_129) rfl k_) ?_
  refine own_by (T' := T2) (g' := (mkF m 133 #[.val (.ref a), .val (.int (1 : Int32)), .val (.int ad), .val (.int x0), .val (.int x1), .val (.int x2), .val (.int x3), .val (.int (1 : Int32))] [(.int x3), (.int x2), (.int x1), (.int x0), (.int (3 : Int32)), (.int (f 3))])) (fun t_ k_ => XS.iload X2.here hx rfl (hb hby own_d_ap1_131) rfl k_) ?_
  obtain ⟨_, T3, L3, X3, hQ3, st3⟩ := own_callS X2 hx hZ (y := (⟨"com/example/rowgate/rowgate/StoredValueArrayPinLaw", "orig", "(IIIII)B"⟩ : MethodName)) hown (hw _ (List.mem_of_getElem? (i := 47) rfl)) (hw _ (List.mem_of_getElem? (i := 48) rfl)) (hw _ (List.mem_of_getElem? (i := 26) rfl)) (hw _ (List.mem_of_getElem? (i := 49) rfl)) (by decide) (argsL := [(.int (3 : Int32)), (.int x0), (.int x1), (.int x2), (.int x3)]) (rest := [(.int (f 3))]) (own_rm_or3 l Z a0 hw [] x0 x1 x2 x3 h0 n0 Z0) e2 (W := 1) (by decide) (by decide) (by decide) (by decide) (g := (mkF m 133 #[.val (.ref a), .val (.int (1 : Int32)), .val (.int ad), .val (.int x0), .val (.int x1), .val (.int x2), .val (.int x3), .val (.int (1 : Int32))] [(.int x3), (.int x2), (.int x1), (.int x0), (.int (3 : Int32)), (.int (f 3))])) rfl (by rw [hml]; rfl) (lenOf own_pd0 rfl) rfl (by show 2 * 0 + _ ≤ _; exact Nat.le_of_eq rfl) (hb hby own_d_ap1_133)
  obtain ⟨rfl, Nq3, e3⟩ := hQ3
  have N3 := Fr.app N2 Nq3
  refine st3 _ ?_
  show own_Goes p e below _ T3 (mkF m 136 #[.val (.ref a), .val (.int (1 : Int32)), .val (.int ad), .val (.int x0), .val (.int x1), .val (.int x2), .val (.int x3), .val (.int (1 : Int32))] [(.int x3.toInt8.toInt32), (.int (f 3))])
  refine own_by (T' := T3) (g' := (mkF m 139 #[.val (.ref a), .val (.int (1 : Int32)), .val (.int ad), .val (.int x0), .val (.int x1), .val (.int x2), .val (.int x3), .val (.int (1 : Int32))] [])) (fun t_ k_ => XS.icmpNo X3.here hx rfl (hb hby own_d_ap1_136) rfl (teq (e3_ : (f 3) = x3.toInt8.toInt32)).2 k_) ?_
  refine own_by (T' := T3) (g' := (mkF m 140 #[.val (.ref a), .val (.int (1 : Int32)), .val (.int ad), .val (.int x0), .val (.int x1), .val (.int x2), .val (.int x3), .val (.int (1 : Int32))] [(.int (1 : Int32))])) (fun t_ k_ => XS.iconst X3.here hx rfl (hb hby own_d_ap1_139) k_) ?_
  refine own_by (T' := T3) (g' := (mkF m 144 #[.val (.ref a), .val (.int (1 : Int32)), .val (.int ad), .val (.int x0), .val (.int x1), .val (.int x2), .val (.int x3), .val (.int (1 : Int32))] [(.int (1 : Int32))])) (fun t_ k_ => XS.goto X3.here hx rfl (pc0 := 140) (pc' := 144) rfl (hb hby own_d_ap1_140) (by decide) (by decide) k_) ?_
  refine own_by (T' := T3) (g' := (mkF m 146 #[.val (.ref a), .val (.int (1 : Int32)), .val (.int ad), .val (.int x0), .val (.int x1), .val (.int x2), .val (.int x3), .val (.int (1 : Int32))] [])) (fun t_ k_ => XS.istore X3.here hx rfl (hb hby own_d_ap1_144) rfl (l' := #[.val (.ref a), .val (.int (1 : Int32)), .val (.int ad), .val (.int x0), .val (.int x1), .val (.int x2), .val (.int x3), .val (.int (1 : Int32))]) rfl k_) ?_
  refine own_by (T' := T3) (g' := (mkF m 148 #[.val (.ref a), .val (.int (1 : Int32)), .val (.int ad), .val (.int x0), .val (.int x1), .val (.int x2), .val (.int x3), .val (.int (1 : Int32))] [(.int (1 : Int32))])) (fun t_ k_ => XS.iload X3.here hx rfl (hb hby own_d_ap1_146) rfl k_) ?_
  refine own_retN X3 hx (t := .boolean) Bd.returns hlk (by simp) (hb hby own_d_ap1_148) (by decide) (by decide) (v := (1 : Int32)) rfl ?_
  rw [e3]
  exact ⟨rfl, N3, rfl⟩
theorem own_d_ap2_0 : decode method_4_code 0 = .ok (.aload_n 0, 1) := by decide +kernel
theorem own_d_ap2_1 : decode method_4_code 1 = .ok (.iconst 0, 1) := by decide +kernel
theorem own_d_ap2_2 : decode method_4_code 2 = .ok (.baload, 1) := by decide +kernel
theorem own_d_ap2_3 : decode method_4_code 3 = .ok (.iload_n 1, 1) := by decide +kernel
theorem own_d_ap2_4 : decode method_4_code 4 = .ok (.ifCond .ne 7, 3) := by decide +kernel
theorem own_d_ap2_11 : decode method_4_code 11 = .ok (.iconst 0, 1) := by decide +kernel
theorem own_d_ap2_12 : decode method_4_code 12 = .ok (.iload_n 3, 1) := by decide +kernel
theorem own_d_ap2_13 : decode method_4_code 13 = .ok (.iload 4, 2) := by decide +kernel
theorem own_d_ap2_15 : decode method_4_code 15 = .ok (.iload 5, 2) := by decide +kernel
theorem own_d_ap2_17 : decode method_4_code 17 = .ok (.iload 6, 2) := by decide +kernel
theorem own_d_ap2_19 : decode method_4_code 19 = .ok (.invokestatic 7, 3) := by decide +kernel
theorem own_d_ap2_22 : decode method_4_code 22 = .ok (.if_icmp .ne 7, 3) := by decide +kernel
theorem own_d_ap2_25 : decode method_4_code 25 = .ok (.iconst 1, 1) := by decide +kernel
theorem own_d_ap2_26 : decode method_4_code 26 = .ok (.goto 4, 3) := by decide +kernel
theorem own_d_ap2_30 : decode method_4_code 30 = .ok (.istore 7, 2) := by decide +kernel
theorem own_d_ap2_32 : decode method_4_code 32 = .ok (.iload 7, 2) := by decide +kernel
theorem own_d_ap2_34 : decode method_4_code 34 = .ok (.ifCond .eq 33, 3) := by decide +kernel
theorem own_d_ap2_37 : decode method_4_code 37 = .ok (.aload_n 0, 1) := by decide +kernel
theorem own_d_ap2_38 : decode method_4_code 38 = .ok (.iconst 1, 1) := by decide +kernel
theorem own_d_ap2_39 : decode method_4_code 39 = .ok (.baload, 1) := by decide +kernel
theorem own_d_ap2_40 : decode method_4_code 40 = .ok (.iload_n 1, 1) := by decide +kernel
theorem own_d_ap2_41 : decode method_4_code 41 = .ok (.iconst 1, 1) := by decide +kernel
theorem own_d_ap2_42 : decode method_4_code 42 = .ok (.if_icmp .ne 7, 3) := by decide +kernel
theorem own_d_ap2_49 : decode method_4_code 49 = .ok (.iconst 1, 1) := by decide +kernel
theorem own_d_ap2_50 : decode method_4_code 50 = .ok (.iload_n 3, 1) := by decide +kernel
theorem own_d_ap2_51 : decode method_4_code 51 = .ok (.iload 4, 2) := by decide +kernel
theorem own_d_ap2_53 : decode method_4_code 53 = .ok (.iload 5, 2) := by decide +kernel
theorem own_d_ap2_55 : decode method_4_code 55 = .ok (.iload 6, 2) := by decide +kernel
theorem own_d_ap2_57 : decode method_4_code 57 = .ok (.invokestatic 7, 3) := by decide +kernel
theorem own_d_ap2_60 : decode method_4_code 60 = .ok (.if_icmp .ne 7, 3) := by decide +kernel
theorem own_d_ap2_63 : decode method_4_code 63 = .ok (.iconst 1, 1) := by decide +kernel
theorem own_d_ap2_64 : decode method_4_code 64 = .ok (.goto 4, 3) := by decide +kernel
theorem own_d_ap2_68 : decode method_4_code 68 = .ok (.istore 7, 2) := by decide +kernel
theorem own_d_ap2_70 : decode method_4_code 70 = .ok (.iload 7, 2) := by decide +kernel
theorem own_d_ap2_72 : decode method_4_code 72 = .ok (.ifCond .eq 33, 3) := by decide +kernel
theorem own_d_ap2_75 : decode method_4_code 75 = .ok (.aload_n 0, 1) := by decide +kernel
theorem own_d_ap2_76 : decode method_4_code 76 = .ok (.iconst 2, 1) := by decide +kernel
theorem own_d_ap2_77 : decode method_4_code 77 = .ok (.baload, 1) := by decide +kernel
theorem own_d_ap2_78 : decode method_4_code 78 = .ok (.iload_n 1, 1) := by decide +kernel
theorem own_d_ap2_79 : decode method_4_code 79 = .ok (.iconst 2, 1) := by decide +kernel
theorem own_d_ap2_80 : decode method_4_code 80 = .ok (.if_icmp .ne 7, 3) := by decide +kernel
theorem own_d_ap2_83 : decode method_4_code 83 = .ok (.iload_n 2, 1) := by decide +kernel
theorem own_d_ap2_84 : decode method_4_code 84 = .ok (.goto 14, 3) := by decide +kernel
theorem own_d_ap2_98 : decode method_4_code 98 = .ok (.if_icmp .ne 7, 3) := by decide +kernel
theorem own_d_ap2_101 : decode method_4_code 101 = .ok (.iconst 1, 1) := by decide +kernel
theorem own_d_ap2_102 : decode method_4_code 102 = .ok (.goto 4, 3) := by decide +kernel
theorem own_d_ap2_106 : decode method_4_code 106 = .ok (.istore 7, 2) := by decide +kernel
theorem own_d_ap2_108 : decode method_4_code 108 = .ok (.iload 7, 2) := by decide +kernel
theorem own_d_ap2_110 : decode method_4_code 110 = .ok (.ifCond .eq 33, 3) := by decide +kernel
theorem own_d_ap2_113 : decode method_4_code 113 = .ok (.aload_n 0, 1) := by decide +kernel
theorem own_d_ap2_114 : decode method_4_code 114 = .ok (.iconst 3, 1) := by decide +kernel
theorem own_d_ap2_115 : decode method_4_code 115 = .ok (.baload, 1) := by decide +kernel
theorem own_d_ap2_116 : decode method_4_code 116 = .ok (.iload_n 1, 1) := by decide +kernel
theorem own_d_ap2_117 : decode method_4_code 117 = .ok (.iconst 3, 1) := by decide +kernel
theorem own_d_ap2_118 : decode method_4_code 118 = .ok (.if_icmp .ne 7, 3) := by decide +kernel
theorem own_d_ap2_125 : decode method_4_code 125 = .ok (.iconst 3, 1) := by decide +kernel
theorem own_d_ap2_126 : decode method_4_code 126 = .ok (.iload_n 3, 1) := by decide +kernel
theorem own_d_ap2_127 : decode method_4_code 127 = .ok (.iload 4, 2) := by decide +kernel
theorem own_d_ap2_129 : decode method_4_code 129 = .ok (.iload 5, 2) := by decide +kernel
theorem own_d_ap2_131 : decode method_4_code 131 = .ok (.iload 6, 2) := by decide +kernel
theorem own_d_ap2_133 : decode method_4_code 133 = .ok (.invokestatic 7, 3) := by decide +kernel
theorem own_d_ap2_136 : decode method_4_code 136 = .ok (.if_icmp .ne 7, 3) := by decide +kernel
theorem own_d_ap2_139 : decode method_4_code 139 = .ok (.iconst 1, 1) := by decide +kernel
theorem own_d_ap2_140 : decode method_4_code 140 = .ok (.goto 4, 3) := by decide +kernel
theorem own_d_ap2_144 : decode method_4_code 144 = .ok (.istore 7, 2) := by decide +kernel
theorem own_d_ap2_146 : decode method_4_code 146 = .ok (.iload 7, 2) := by decide +kernel
theorem own_d_ap2_148 : decode method_4_code 148 = .ok (.ireturn, 1) := by decide +kernel
theorem own_ef_ap2 (m : MethodId) (a : Addr) (ad : Int32) (x0 : Int32) (x1 : Int32) (x2 : Int32) (x3 : Int32) : entryFrame m #[(.ref a), (.int (2 : Int32)), (.int ad), (.int x0), (.int x1), (.int x2), (.int x3)] 8 = mkF m 0 #[.val (.ref a), .val (.int (2 : Int32)), .val (.int ad), .val (.int x0), .val (.int x1), .val (.int x2), .val (.int x3), .unset] [] := by first | (simp [entryFrame, mkF, argsToLocals, Value.category]; done) | rfl
def own_Q_ap2 (Z : State) (a : Addr) (ad : Int32) (x0 : Int32) (x1 : Int32) (x2 : Int32) (x3 : Int32) (f : Nat → Int32) (h0 : Heap) (n0 : Nat) (v : Option Value) (h : Heap) (L : List Loc) : Prop := v = some (.int 1) ∧ Fr n0 L ∧ h = h0
set_option maxRecDepth 65536 in
set_option maxHeartbeats 40000000 in
theorem own_rm_ap2 (l : Launch) (Z : State) (a0 : Array Value) (hw : ∀ d ∈ tables_1, d.before a0 Z = true) (ws : List Jvm.Cond) (a : Addr) (ad : Int32) (x0 : Int32) (x1 : Int32) (x2 : Int32) (x3 : Int32) (f : Nat → Int32) (h0 : Heap) (n0 : Nat) (Z0 : n0 ≤ h0.size) (V0 : own_Ia Z h0 a .byte 4 f) (e0_ : f 0 = x0.toInt8.toInt32) (e1_ : f 1 = x1.toInt8.toInt32) (e2_ : f 2 = ad) (e3_ : f 3 = x3.toInt8.toInt32) :
    MetFree l (⟨"com/example/rowgate/rowgate/StoredValueArrayPinLaw", "afterAppend", "([BIBIIII)Z"⟩ : MethodName) (head1 (Jvm.Cond.code (⟨"com/example/rowgate/rowgate/StoredValueArrayPinLaw", "afterAppend", "([BIBIIII)Z"⟩ : MethodName) method_4_code 8 (some .boolean) :: ws) ({ frames := 1, cells := 0, slots := 0, locals := 17 } : Room)) (fun a_ U_ => a_ = #[(.ref a), (.int (2 : Int32)), (.int ad), (.int x0), (.int x1), (.int x2), (.int x3)] ∧ Z.Warmed39 U_.vm ∧ U_.heap = h0) (fun _ _ _ _ _ => True) (fun _ U_ o_ U'_ => ∃ v_ L_, o_ = .returned v_ ∧ own_Q_ap2 Z a ad x0 x1 x2 x3 f h0 n0 v_ U'_.heap L_ ∧ FrameEnd U_ o_ U'_ L_ ({ frames := 1, cells := 0, slots := 0, locals := 17 } : Room).cells ({ frames := 1, cells := 0, slots := 0, locals := 17 } : Room).slots) := by
  refine MetFree.of_bodySF (plainFor_of_name own_pn_com_example_rowgate_rowgate_StoredValueArrayPinLaw) hisR ?_
  intro p e s m args below meth c s₁ Bd hml0 hP hK
  obtain ⟨rfl, hZ, hh⟩ := hP
  have hx := Bd.exec
  have hby := Bd.bytes
  have hlk : meth.locks = false := BodyLoose.notSynchronized Bd
  have hml : c.maxLocals = 8 := hml0
  have hown : s.vm.findClass "com/example/rowgate/rowgate/StoredValueArrayPinLaw" = some m.cls := findClass_of_methodNamed Bd.named
  have hnm := (name_of_methodNamed Bd.named Bd.method).1
  have X0 : Stand p l e ({ frames := 1, cells := 0, slots := 0, locals := 17 } : Room) s m #[(.ref a), (.int (2 : Int32)), (.int ad), (.int x0), (.int x1), (.int x2), (.int x3)] below meth c s₁ [] 0 0 := Stand.of_body Bd
  have e0 : s₁.heap = h0 := by rw [← hh, Bd.state]; rfl
  have N0 := Fr.nil n0
  show own_Goes p e below (own_K (own_Q_ap2 Z a ad x0 x1 x2 x3 f h0 n0) s ({ frames := 1, cells := 0, slots := 0, locals := 17 } : Room).cells ({ frames := 1, cells := 0, slots := 0, locals := 17 } : Room).slots) s₁ (entryFrame m #[(.ref a), (.int (2 : Int32)), (.int ad), (.int x0), (.int x1), (.int x2), (.int x3)] 8)
  rw [own_ef_ap2]
  refine own_by (T' := s₁) (g' := (mkF m 1 #[.val (.ref a), .val (.int (2 : Int32)), .val (.int ad), .val (.int x0), .val (.int x1), .val (.int x2), .val (.int x3), .unset] [(.ref a)])) (fun t_ k_ => XS.aloadN X0.here hx rfl (hb hby own_d_ap2_0) rfl rfl k_) ?_
  refine own_by (T' := s₁) (g' := (mkF m 2 #[.val (.ref a), .val (.int (2 : Int32)), .val (.int ad), .val (.int x0), .val (.int x1), .val (.int x2), .val (.int x3), .unset] [(.int (0 : Int32)), (.ref a)])) (fun t_ k_ => XS.iconst X0.here hx rfl (hb hby own_d_ap2_1) k_) ?_
  refine own_by (T' := s₁) (g' := (mkF m 3 #[.val (.ref a), .val (.int (2 : Int32)), .val (.int ad), .val (.int x0), .val (.int x1), .val (.int x2), .val (.int x3), .unset] [(.int (f 0))])) (fun t_ k_ => own_bal X0 hx hZ e0 V0 (j := (0 : Int32)) (by decide) (by decide) (g := (mkF m 2 #[.val (.ref a), .val (.int (2 : Int32)), .val (.int ad), .val (.int x0), .val (.int x1), .val (.int x2), .val (.int x3), .unset] [(.int (0 : Int32)), (.ref a)])) rfl rfl (hb hby own_d_ap2_2) _ k_) ?_
  refine own_by (T' := s₁) (g' := (mkF m 4 #[.val (.ref a), .val (.int (2 : Int32)), .val (.int ad), .val (.int x0), .val (.int x1), .val (.int x2), .val (.int x3), .unset] [(.int (2 : Int32)), (.int (f 0))])) (fun t_ k_ => XS.iloadN X0.here hx rfl (hb hby own_d_ap2_3) rfl k_) ?_
  refine own_by (T' := s₁) (g' := (mkF m 11 #[.val (.ref a), .val (.int (2 : Int32)), .val (.int ad), .val (.int x0), .val (.int x1), .val (.int x2), .val (.int x3), .unset] [(.int (f 0))])) (fun t_ k_ => XS.ifYes X0.here hx rfl (pc0 := 4) (pc' := 11) rfl (hb hby own_d_ap2_4) rfl ((if0 _ _).trans (feq ((by decide) : ¬ ((2 : Int32) = (0 : Int32)))).2) (by decide) (by decide) k_) ?_
  refine own_by (T' := s₁) (g' := (mkF m 12 #[.val (.ref a), .val (.int (2 : Int32)), .val (.int ad), .val (.int x0), .val (.int x1), .val (.int x2), .val (.int x3), .unset] [(.int (0 : Int32)), (.int (f 0))])) (fun t_ k_ => XS.iconst X0.here hx rfl (hb hby own_d_ap2_11) k_) ?_
  refine own_by (T' := s₁) (g' := (mkF m 13 #[.val (.ref a), .val (.int (2 : Int32)), .val (.int ad), .val (.int x0), .val (.int x1), .val (.int x2), .val (.int x3), .unset] [(.int x0), (.int (0 : Int32)), (.int (f 0))])) (fun t_ k_ => XS.iloadN X0.here hx rfl (hb hby own_d_ap2_12) rfl k_) ?_
  refine own_by (T' := s₁) (g' := (mkF m 15 #[.val (.ref a), .val (.int (2 : Int32)), .val (.int ad), .val (.int x0), .val (.int x1), .val (.int x2), .val (.int x3), .unset] [(.int x1), (.int x0), (.int (0 : Int32)), (.int (f 0))])) (fun t_ k_ => XS.iload X0.here hx rfl (hb hby own_d_ap2_13) rfl k_) ?_
  refine own_by (T' := s₁) (g' := (mkF m 17 #[.val (.ref a), .val (.int (2 : Int32)), .val (.int ad), .val (.int x0), .val (.int x1), .val (.int x2), .val (.int x3), .unset] [(.int x2), (.int x1), (.int x0), (.int (0 : Int32)), (.int (f 0))])) (fun t_ k_ => XS.iload X0.here hx rfl (hb hby own_d_ap2_15) rfl k_) ?_
  refine own_by (T' := s₁) (g' := (mkF m 19 #[.val (.ref a), .val (.int (2 : Int32)), .val (.int ad), .val (.int x0), .val (.int x1), .val (.int x2), .val (.int x3), .unset] [(.int x3), (.int x2), (.int x1), (.int x0), (.int (0 : Int32)), (.int (f 0))])) (fun t_ k_ => XS.iload X0.here hx rfl (hb hby own_d_ap2_17) rfl k_) ?_
  obtain ⟨_, T1, L1, X1, hQ1, st1⟩ := own_callS X0 hx hZ (y := (⟨"com/example/rowgate/rowgate/StoredValueArrayPinLaw", "orig", "(IIIII)B"⟩ : MethodName)) hown (hw _ (List.mem_of_getElem? (i := 47) rfl)) (hw _ (List.mem_of_getElem? (i := 48) rfl)) (hw _ (List.mem_of_getElem? (i := 26) rfl)) (hw _ (List.mem_of_getElem? (i := 49) rfl)) (by decide) (argsL := [(.int (0 : Int32)), (.int x0), (.int x1), (.int x2), (.int x3)]) (rest := [(.int (f 0))]) (own_rm_or0 l Z a0 hw [] x0 x1 x2 x3 h0 n0 Z0) e0 (W := 1) (by decide) (by decide) (by decide) (by decide) (g := (mkF m 19 #[.val (.ref a), .val (.int (2 : Int32)), .val (.int ad), .val (.int x0), .val (.int x1), .val (.int x2), .val (.int x3), .unset] [(.int x3), (.int x2), (.int x1), (.int x0), (.int (0 : Int32)), (.int (f 0))])) rfl (by rw [hml]; rfl) (lenOf own_pd0 rfl) rfl (by show 2 * 0 + _ ≤ _; exact Nat.le_of_eq rfl) (hb hby own_d_ap2_19)
  obtain ⟨rfl, Nq1, e1⟩ := hQ1
  have N1 := Fr.app N0 Nq1
  refine st1 _ ?_
  show own_Goes p e below _ T1 (mkF m 22 #[.val (.ref a), .val (.int (2 : Int32)), .val (.int ad), .val (.int x0), .val (.int x1), .val (.int x2), .val (.int x3), .unset] [(.int x0.toInt8.toInt32), (.int (f 0))])
  refine own_by (T' := T1) (g' := (mkF m 25 #[.val (.ref a), .val (.int (2 : Int32)), .val (.int ad), .val (.int x0), .val (.int x1), .val (.int x2), .val (.int x3), .unset] [])) (fun t_ k_ => XS.icmpNo X1.here hx rfl (hb hby own_d_ap2_22) rfl (teq (e0_ : (f 0) = x0.toInt8.toInt32)).2 k_) ?_
  refine own_by (T' := T1) (g' := (mkF m 26 #[.val (.ref a), .val (.int (2 : Int32)), .val (.int ad), .val (.int x0), .val (.int x1), .val (.int x2), .val (.int x3), .unset] [(.int (1 : Int32))])) (fun t_ k_ => XS.iconst X1.here hx rfl (hb hby own_d_ap2_25) k_) ?_
  refine own_by (T' := T1) (g' := (mkF m 30 #[.val (.ref a), .val (.int (2 : Int32)), .val (.int ad), .val (.int x0), .val (.int x1), .val (.int x2), .val (.int x3), .unset] [(.int (1 : Int32))])) (fun t_ k_ => XS.goto X1.here hx rfl (pc0 := 26) (pc' := 30) rfl (hb hby own_d_ap2_26) (by decide) (by decide) k_) ?_
  refine own_by (T' := T1) (g' := (mkF m 32 #[.val (.ref a), .val (.int (2 : Int32)), .val (.int ad), .val (.int x0), .val (.int x1), .val (.int x2), .val (.int x3), .val (.int (1 : Int32))] [])) (fun t_ k_ => XS.istore X1.here hx rfl (hb hby own_d_ap2_30) rfl (l' := #[.val (.ref a), .val (.int (2 : Int32)), .val (.int ad), .val (.int x0), .val (.int x1), .val (.int x2), .val (.int x3), .val (.int (1 : Int32))]) rfl k_) ?_
  refine own_by (T' := T1) (g' := (mkF m 34 #[.val (.ref a), .val (.int (2 : Int32)), .val (.int ad), .val (.int x0), .val (.int x1), .val (.int x2), .val (.int x3), .val (.int (1 : Int32))] [(.int (1 : Int32))])) (fun t_ k_ => XS.iload X1.here hx rfl (hb hby own_d_ap2_32) rfl k_) ?_
  refine own_by (T' := T1) (g' := (mkF m 37 #[.val (.ref a), .val (.int (2 : Int32)), .val (.int ad), .val (.int x0), .val (.int x1), .val (.int x2), .val (.int x3), .val (.int (1 : Int32))] [])) (fun t_ k_ => XS.ifNo X1.here hx rfl (hb hby own_d_ap2_34) rfl ((if0 _ _).trans (feq ((by decide) : ¬ ((1 : Int32) = (0 : Int32)))).1) k_) ?_
  refine own_by (T' := T1) (g' := (mkF m 38 #[.val (.ref a), .val (.int (2 : Int32)), .val (.int ad), .val (.int x0), .val (.int x1), .val (.int x2), .val (.int x3), .val (.int (1 : Int32))] [(.ref a)])) (fun t_ k_ => XS.aloadN X1.here hx rfl (hb hby own_d_ap2_37) rfl rfl k_) ?_
  refine own_by (T' := T1) (g' := (mkF m 39 #[.val (.ref a), .val (.int (2 : Int32)), .val (.int ad), .val (.int x0), .val (.int x1), .val (.int x2), .val (.int x3), .val (.int (1 : Int32))] [(.int (1 : Int32)), (.ref a)])) (fun t_ k_ => XS.iconst X1.here hx rfl (hb hby own_d_ap2_38) k_) ?_
  refine own_by (T' := T1) (g' := (mkF m 40 #[.val (.ref a), .val (.int (2 : Int32)), .val (.int ad), .val (.int x0), .val (.int x1), .val (.int x2), .val (.int x3), .val (.int (1 : Int32))] [(.int (f 1))])) (fun t_ k_ => own_bal X1 hx hZ e1 V0 (j := (1 : Int32)) (by decide) (by decide) (g := (mkF m 39 #[.val (.ref a), .val (.int (2 : Int32)), .val (.int ad), .val (.int x0), .val (.int x1), .val (.int x2), .val (.int x3), .val (.int (1 : Int32))] [(.int (1 : Int32)), (.ref a)])) rfl rfl (hb hby own_d_ap2_39) _ k_) ?_
  refine own_by (T' := T1) (g' := (mkF m 41 #[.val (.ref a), .val (.int (2 : Int32)), .val (.int ad), .val (.int x0), .val (.int x1), .val (.int x2), .val (.int x3), .val (.int (1 : Int32))] [(.int (2 : Int32)), (.int (f 1))])) (fun t_ k_ => XS.iloadN X1.here hx rfl (hb hby own_d_ap2_40) rfl k_) ?_
  refine own_by (T' := T1) (g' := (mkF m 42 #[.val (.ref a), .val (.int (2 : Int32)), .val (.int ad), .val (.int x0), .val (.int x1), .val (.int x2), .val (.int x3), .val (.int (1 : Int32))] [(.int (1 : Int32)), (.int (2 : Int32)), (.int (f 1))])) (fun t_ k_ => XS.iconst X1.here hx rfl (hb hby own_d_ap2_41) k_) ?_
  refine own_by (T' := T1) (g' := (mkF m 49 #[.val (.ref a), .val (.int (2 : Int32)), .val (.int ad), .val (.int x0), .val (.int x1), .val (.int x2), .val (.int x3), .val (.int (1 : Int32))] [(.int (f 1))])) (fun t_ k_ => XS.icmpYes X1.here hx rfl (pc0 := 42) (pc' := 49) rfl (hb hby own_d_ap2_42) rfl (feq ((by decide) : ¬ ((2 : Int32) = (1 : Int32)))).2 (by decide) (by decide) k_) ?_
  refine own_by (T' := T1) (g' := (mkF m 50 #[.val (.ref a), .val (.int (2 : Int32)), .val (.int ad), .val (.int x0), .val (.int x1), .val (.int x2), .val (.int x3), .val (.int (1 : Int32))] [(.int (1 : Int32)), (.int (f 1))])) (fun t_ k_ => XS.iconst X1.here hx rfl (hb hby own_d_ap2_49) k_) ?_
  refine own_by (T' := T1) (g' := (mkF m 51 #[.val (.ref a), .val (.int (2 : Int32)), .val (.int ad), .val (.int x0), .val (.int x1), .val (.int x2), .val (.int x3), .val (.int (1 : Int32))] [(.int x0), (.int (1 : Int32)), (.int (f 1))])) (fun t_ k_ => XS.iloadN X1.here hx rfl (hb hby own_d_ap2_50) rfl k_) ?_
  refine own_by (T' := T1) (g' := (mkF m 53 #[.val (.ref a), .val (.int (2 : Int32)), .val (.int ad), .val (.int x0), .val (.int x1), .val (.int x2), .val (.int x3), .val (.int (1 : Int32))] [(.int x1), (.int x0), (.int (1 : Int32)), (.int (f 1))])) (fun t_ k_ => XS.iload X1.here hx rfl (hb hby own_d_ap2_51) rfl k_) ?_
  refine own_by (T' := T1) (g' := (mkF m 55 #[.val (.ref a), .val (.int (2 : Int32)), .val (.int ad), .val (.int x0), .val (.int x1), .val (.int x2), .val (.int x3), .val (.int (1 : Int32))] [(.int x2), (.int x1), (.int x0), (.int (1 : Int32)), (.int (f 1))])) (fun t_ k_ => XS.iload X1.here hx rfl (hb hby own_d_ap2_53) rfl k_) ?_
  refine own_by (T' := T1) (g' := (mkF m 57 #[.val (.ref a), .val (.int (2 : Int32)), .val (.int ad), .val (.int x0), .val (.int x1), .val (.int x2), .val (.int x3), .val (.int (1 : Int32))] [(.int x3), (.int x2), (.int x1), (.int x0), (.int (1 : Int32)), (.int (f 1))])) (fun t_ k_ => XS.iload X1.here hx rfl (hb hby own_d_ap2_55) rfl k_) ?_
  obtain ⟨_, T2, L2, X2, hQ2, st2⟩ := own_callS X1 hx hZ (y := (⟨"com/example/rowgate/rowgate/StoredValueArrayPinLaw", "orig", "(IIIII)B"⟩ : MethodName)) hown (hw _ (List.mem_of_getElem? (i := 47) rfl)) (hw _ (List.mem_of_getElem? (i := 48) rfl)) (hw _ (List.mem_of_getElem? (i := 26) rfl)) (hw _ (List.mem_of_getElem? (i := 49) rfl)) (by decide) (argsL := [(.int (1 : Int32)), (.int x0), (.int x1), (.int x2), (.int x3)]) (rest := [(.int (f 1))]) (own_rm_or1 l Z a0 hw [] x0 x1 x2 x3 h0 n0 Z0) e1 (W := 1) (by decide) (by decide) (by decide) (by decide) (g := (mkF m 57 #[.val (.ref a), .val (.int (2 : Int32)), .val (.int ad), .val (.int x0), .val (.int x1), .val (.int x2), .val (.int x3), .val (.int (1 : Int32))] [(.int x3), (.int x2), (.int x1), (.int x0), (.int (1 : Int32)), (.int (f 1))])) rfl (by rw [hml]; rfl) (lenOf own_pd0 rfl) rfl (by show 2 * 0 + _ ≤ _; exact Nat.le_of_eq rfl) (hb hby own_d_ap2_57)
  obtain ⟨rfl, Nq2, e2⟩ := hQ2
  have N2 := Fr.app N1 Nq2
  refine st2 _ ?_
  show own_Goes p e below _ T2 (mkF m 60 #[.val (.ref a), .val (.int (2 : Int32)), .val (.int ad), .val (.int x0), .val (.int x1), .val (.int x2), .val (.int x3), .val (.int (1 : Int32))] [(.int x1.toInt8.toInt32), (.int (f 1))])
  refine own_by (T' := T2) (g' := (mkF m 63 #[.val (.ref a), .val (.int (2 : Int32)), .val (.int ad), .val (.int x0), .val (.int x1), .val (.int x2), .val (.int x3), .val (.int (1 : Int32))] [])) (fun t_ k_ => XS.icmpNo X2.here hx rfl (hb hby own_d_ap2_60) rfl (teq (e1_ : (f 1) = x1.toInt8.toInt32)).2 k_) ?_
  refine own_by (T' := T2) (g' := (mkF m 64 #[.val (.ref a), .val (.int (2 : Int32)), .val (.int ad), .val (.int x0), .val (.int x1), .val (.int x2), .val (.int x3), .val (.int (1 : Int32))] [(.int (1 : Int32))])) (fun t_ k_ => XS.iconst X2.here hx rfl (hb hby own_d_ap2_63) k_) ?_
  refine own_by (T' := T2) (g' := (mkF m 68 #[.val (.ref a), .val (.int (2 : Int32)), .val (.int ad), .val (.int x0), .val (.int x1), .val (.int x2), .val (.int x3), .val (.int (1 : Int32))] [(.int (1 : Int32))])) (fun t_ k_ => XS.goto X2.here hx rfl (pc0 := 64) (pc' := 68) rfl (hb hby own_d_ap2_64) (by decide) (by decide) k_) ?_
  refine own_by (T' := T2) (g' := (mkF m 70 #[.val (.ref a), .val (.int (2 : Int32)), .val (.int ad), .val (.int x0), .val (.int x1), .val (.int x2), .val (.int x3), .val (.int (1 : Int32))] [])) (fun t_ k_ => XS.istore X2.here hx rfl (hb hby own_d_ap2_68) rfl (l' := #[.val (.ref a), .val (.int (2 : Int32)), .val (.int ad), .val (.int x0), .val (.int x1), .val (.int x2), .val (.int x3), .val (.int (1 : Int32))]) rfl k_) ?_
  refine own_by (T' := T2) (g' := (mkF m 72 #[.val (.ref a), .val (.int (2 : Int32)), .val (.int ad), .val (.int x0), .val (.int x1), .val (.int x2), .val (.int x3), .val (.int (1 : Int32))] [(.int (1 : Int32))])) (fun t_ k_ => XS.iload X2.here hx rfl (hb hby own_d_ap2_70) rfl k_) ?_
  refine own_by (T' := T2) (g' := (mkF m 75 #[.val (.ref a), .val (.int (2 : Int32)), .val (.int ad), .val (.int x0), .val (.int x1), .val (.int x2), .val (.int x3), .val (.int (1 : Int32))] [])) (fun t_ k_ => XS.ifNo X2.here hx rfl (hb hby own_d_ap2_72) rfl ((if0 _ _).trans (feq ((by decide) : ¬ ((1 : Int32) = (0 : Int32)))).1) k_) ?_
  refine own_by (T' := T2) (g' := (mkF m 76 #[.val (.ref a), .val (.int (2 : Int32)), .val (.int ad), .val (.int x0), .val (.int x1), .val (.int x2), .val (.int x3), .val (.int (1 : Int32))] [(.ref a)])) (fun t_ k_ => XS.aloadN X2.here hx rfl (hb hby own_d_ap2_75) rfl rfl k_) ?_
  refine own_by (T' := T2) (g' := (mkF m 77 #[.val (.ref a), .val (.int (2 : Int32)), .val (.int ad), .val (.int x0), .val (.int x1), .val (.int x2), .val (.int x3), .val (.int (1 : Int32))] [(.int (2 : Int32)), (.ref a)])) (fun t_ k_ => XS.iconst X2.here hx rfl (hb hby own_d_ap2_76) k_) ?_
  refine own_by (T' := T2) (g' := (mkF m 78 #[.val (.ref a), .val (.int (2 : Int32)), .val (.int ad), .val (.int x0), .val (.int x1), .val (.int x2), .val (.int x3), .val (.int (1 : Int32))] [(.int (f 2))])) (fun t_ k_ => own_bal X2 hx hZ e2 V0 (j := (2 : Int32)) (by decide) (by decide) (g := (mkF m 77 #[.val (.ref a), .val (.int (2 : Int32)), .val (.int ad), .val (.int x0), .val (.int x1), .val (.int x2), .val (.int x3), .val (.int (1 : Int32))] [(.int (2 : Int32)), (.ref a)])) rfl rfl (hb hby own_d_ap2_77) _ k_) ?_
  refine own_by (T' := T2) (g' := (mkF m 79 #[.val (.ref a), .val (.int (2 : Int32)), .val (.int ad), .val (.int x0), .val (.int x1), .val (.int x2), .val (.int x3), .val (.int (1 : Int32))] [(.int (2 : Int32)), (.int (f 2))])) (fun t_ k_ => XS.iloadN X2.here hx rfl (hb hby own_d_ap2_78) rfl k_) ?_
  refine own_by (T' := T2) (g' := (mkF m 80 #[.val (.ref a), .val (.int (2 : Int32)), .val (.int ad), .val (.int x0), .val (.int x1), .val (.int x2), .val (.int x3), .val (.int (1 : Int32))] [(.int (2 : Int32)), (.int (2 : Int32)), (.int (f 2))])) (fun t_ k_ => XS.iconst X2.here hx rfl (hb hby own_d_ap2_79) k_) ?_
  refine own_by (T' := T2) (g' := (mkF m 83 #[.val (.ref a), .val (.int (2 : Int32)), .val (.int ad), .val (.int x0), .val (.int x1), .val (.int x2), .val (.int x3), .val (.int (1 : Int32))] [(.int (f 2))])) (fun t_ k_ => XS.icmpNo X2.here hx rfl (hb hby own_d_ap2_80) rfl (teq ((by decide) : (2 : Int32) = (2 : Int32))).2 k_) ?_
  refine own_by (T' := T2) (g' := (mkF m 84 #[.val (.ref a), .val (.int (2 : Int32)), .val (.int ad), .val (.int x0), .val (.int x1), .val (.int x2), .val (.int x3), .val (.int (1 : Int32))] [(.int ad), (.int (f 2))])) (fun t_ k_ => XS.iloadN X2.here hx rfl (hb hby own_d_ap2_83) rfl k_) ?_
  refine own_by (T' := T2) (g' := (mkF m 98 #[.val (.ref a), .val (.int (2 : Int32)), .val (.int ad), .val (.int x0), .val (.int x1), .val (.int x2), .val (.int x3), .val (.int (1 : Int32))] [(.int ad), (.int (f 2))])) (fun t_ k_ => XS.goto X2.here hx rfl (pc0 := 84) (pc' := 98) rfl (hb hby own_d_ap2_84) (by decide) (by decide) k_) ?_
  refine own_by (T' := T2) (g' := (mkF m 101 #[.val (.ref a), .val (.int (2 : Int32)), .val (.int ad), .val (.int x0), .val (.int x1), .val (.int x2), .val (.int x3), .val (.int (1 : Int32))] [])) (fun t_ k_ => XS.icmpNo X2.here hx rfl (hb hby own_d_ap2_98) rfl (teq (e2_ : (f 2) = ad)).2 k_) ?_
  refine own_by (T' := T2) (g' := (mkF m 102 #[.val (.ref a), .val (.int (2 : Int32)), .val (.int ad), .val (.int x0), .val (.int x1), .val (.int x2), .val (.int x3), .val (.int (1 : Int32))] [(.int (1 : Int32))])) (fun t_ k_ => XS.iconst X2.here hx rfl (hb hby own_d_ap2_101) k_) ?_
  refine own_by (T' := T2) (g' := (mkF m 106 #[.val (.ref a), .val (.int (2 : Int32)), .val (.int ad), .val (.int x0), .val (.int x1), .val (.int x2), .val (.int x3), .val (.int (1 : Int32))] [(.int (1 : Int32))])) (fun t_ k_ => XS.goto X2.here hx rfl (pc0 := 102) (pc' := 106) rfl (hb hby own_d_ap2_102) (by decide) (by decide) k_) ?_
  refine own_by (T' := T2) (g' := (mkF m 108 #[.val (.ref a), .val (.int (2 : Int32)), .val (.int ad), .val (.int x0), .val (.int x1), .val (.int x2), .val (.int x3), .val (.int (1 : Int32))] [])) (fun t_ k_ => XS.istore X2.here hx rfl (hb hby own_d_ap2_106) rfl (l' := #[.val (.ref a), .val (.int (2 : Int32)), .val (.int ad), .val (.int x0), .val (.int x1), .val (.int x2), .val (.int x3), .val (.int (1 : Int32))]) rfl k_) ?_
  refine own_by (T' := T2) (g' := (mkF m 110 #[.val (.ref a), .val (.int (2 : Int32)), .val (.int ad), .val (.int x0), .val (.int x1), .val (.int x2), .val (.int x3), .val (.int (1 : Int32))] [(.int (1 : Int32))])) (fun t_ k_ => XS.iload X2.here hx rfl (hb hby own_d_ap2_108) rfl k_) ?_
  refine own_by (T' := T2) (g' := (mkF m 113 #[.val (.ref a), .val (.int (2 : Int32)), .val (.int ad), .val (.int x0), .val (.int x1), .val (.int x2), .val (.int x3), .val (.int (1 : Int32))] [])) (fun t_ k_ => XS.ifNo X2.here hx rfl (hb hby own_d_ap2_110) rfl ((if0 _ _).trans (feq ((by decide) : ¬ ((1 : Int32) = (0 : Int32)))).1) k_) ?_
  refine own_by (T' := T2) (g' := (mkF m 114 #[.val (.ref a), .val (.int (2 : Int32)), .val (.int ad), .val (.int x0), .val (.int x1), .val (.int x2), .val (.int x3), .val (.int (1 : Int32))] [(.ref a)])) (fun t_ k_ => XS.aloadN X2.here hx rfl (hb hby own_d_ap2_113) rfl rfl k_) ?_
  refine own_by (T' := T2) (g' := (mkF m 115 #[.val (.ref a), .val (.int (2 : Int32)), .val (.int ad), .val (.int x0), .val (.int x1), .val (.int x2), .val (.int x3), .val (.int (1 : Int32))] [(.int (3 : Int32)), (.ref a)])) (fun t_ k_ => XS.iconst X2.here hx rfl (hb hby own_d_ap2_114) k_) ?_
  refine own_by (T' := T2) (g' := (mkF m 116 #[.val (.ref a), .val (.int (2 : Int32)), .val (.int ad), .val (.int x0), .val (.int x1), .val (.int x2), .val (.int x3), .val (.int (1 : Int32))] [(.int (f 3))])) (fun t_ k_ => own_bal X2 hx hZ e2 V0 (j := (3 : Int32)) (by decide) (by decide) (g := (mkF m 115 #[.val (.ref a), .val (.int (2 : Int32)), .val (.int ad), .val (.int x0), .val (.int x1), .val (.int x2), .val (.int x3), .val (.int (1 : Int32))] [(.int (3 : Int32)), (.ref a)])) rfl rfl (hb hby own_d_ap2_115) _ k_) ?_
  refine own_by (T' := T2) (g' := (mkF m 117 #[.val (.ref a), .val (.int (2 : Int32)), .val (.int ad), .val (.int x0), .val (.int x1), .val (.int x2), .val (.int x3), .val (.int (1 : Int32))] [(.int (2 : Int32)), (.int (f 3))])) (fun t_ k_ => XS.iloadN X2.here hx rfl (hb hby own_d_ap2_116) rfl k_) ?_
  refine own_by (T' := T2) (g' := (mkF m 118 #[.val (.ref a), .val (.int (2 : Int32)), .val (.int ad), .val (.int x0), .val (.int x1), .val (.int x2), .val (.int x3), .val (.int (1 : Int32))] [(.int (3 : Int32)), (.int (2 : Int32)), (.int (f 3))])) (fun t_ k_ => XS.iconst X2.here hx rfl (hb hby own_d_ap2_117) k_) ?_
  refine own_by (T' := T2) (g' := (mkF m 125 #[.val (.ref a), .val (.int (2 : Int32)), .val (.int ad), .val (.int x0), .val (.int x1), .val (.int x2), .val (.int x3), .val (.int (1 : Int32))] [(.int (f 3))])) (fun t_ k_ => XS.icmpYes X2.here hx rfl (pc0 := 118) (pc' := 125) rfl (hb hby own_d_ap2_118) rfl (feq ((by decide) : ¬ ((2 : Int32) = (3 : Int32)))).2 (by decide) (by decide) k_) ?_
  refine own_by (T' := T2) (g' := (mkF m 126 #[.val (.ref a), .val (.int (2 : Int32)), .val (.int ad), .val (.int x0), .val (.int x1), .val (.int x2), .val (.int x3), .val (.int (1 : Int32))] [(.int (3 : Int32)), (.int (f 3))])) (fun t_ k_ => XS.iconst X2.here hx rfl (hb hby own_d_ap2_125) k_) ?_
  refine own_by (T' := T2) (g' := (mkF m 127 #[.val (.ref a), .val (.int (2 : Int32)), .val (.int ad), .val (.int x0), .val (.int x1), .val (.int x2), .val (.int x3), .val (.int (1 : Int32))] [(.int x0), (.int (3 : Int32)), (.int (f 3))])) (fun t_ k_ => XS.iloadN X2.here hx rfl (hb hby own_d_ap2_126) rfl k_) ?_
  refine own_by (T' := T2) (g' := (mkF m 129 #[.val (.ref a), .val (.int (2 : Int32)), .val (.int ad), .val (.int x0), .val (.int x1), .val (.int x2), .val (.int x3), .val (.int (1 : Int32))] [(.int x1), (.int x0), (.int (3 : Int32)), (.int (f 3))])) (fun t_ k_ => XS.iload X2.here hx rfl (hb hby own_d_ap2_127) rfl k_) ?_
  refine own_by (T' := T2) (g' := (mkF m 131 #[.val (.ref a), .val (.int (2 : Int32)), .val (.int ad), .val (.int x0), .val (.int x1), .val (.int x2), .val (.int x3), .val (.int (1 : Int32))] [(.int x2), (.int x1), (.int x0), (.int (3 : Int32)), (.int (f 3))])) (fun t_ k_ => XS.iload X2.here hx rfl (hb hby own_d_ap2_129) rfl k_) ?_
  refine own_by (T' := T2) (g' := (mkF m 133 #[.val (.ref a), .val (.int (2 : Int32)), .val (.int ad), .val (.int x0), .val (.int x1), .val (.int x2), .val (.int x3), .val (.int (1 : Int32))] [(.int x3), (.int x2), (.int x1), (.int x0), (.int (3 : Int32)), (.int (f 3))])) (fun t_ k_ => XS.iload X2.here hx rfl (hb hby own_d_ap2_131) rfl k_) ?_
  obtain ⟨_, T3, L3, X3, hQ3, st3⟩ := own_callS X2 hx hZ (y := (⟨"com/example/rowgate/rowgate/StoredValueArrayPinLaw", "orig", "(IIIII)B"⟩ : MethodName)) hown (hw _ (List.mem_of_getElem? (i := 47) rfl)) (hw _ (List.mem_of_getElem? (i := 48) rfl)) (hw _ (List.mem_of_getElem? (i := 26) rfl)) (hw _ (List.mem_of_getElem? (i := 49) rfl)) (by decide) (argsL := [(.int (3 : Int32)), (.int x0), (.int x1), (.int x2), (.int x3)]) (rest := [(.int (f 3))]) (own_rm_or3 l Z a0 hw [] x0 x1 x2 x3 h0 n0 Z0) e2 (W := 1) (by decide) (by decide) (by decide) (by decide) (g := (mkF m 133 #[.val (.ref a), .val (.int (2 : Int32)), .val (.int ad), .val (.int x0), .val (.int x1), .val (.int x2), .val (.int x3), .val (.int (1 : Int32))] [(.int x3), (.int x2), (.int x1), (.int x0), (.int (3 : Int32)), (.int (f 3))])) rfl (by rw [hml]; rfl) (lenOf own_pd0 rfl) rfl (by show 2 * 0 + _ ≤ _; exact Nat.le_of_eq rfl) (hb hby own_d_ap2_133)
  obtain ⟨rfl, Nq3, e3⟩ := hQ3
  have N3 := Fr.app N2 Nq3
  refine st3 _ ?_
  show own_Goes p e below _ T3 (mkF m 136 #[.val (.ref a), .val (.int (2 : Int32)), .val (.int ad), .val (.int x0), .val (.int x1), .val (.int x2), .val (.int x3), .val (.int (1 : Int32))] [(.int x3.toInt8.toInt32), (.int (f 3))])
  refine own_by (T' := T3) (g' := (mkF m 139 #[.val (.ref a), .val (.int (2 : Int32)), .val (.int ad), .val (.int x0), .val (.int x1), .val (.int x2), .val (.int x3), .val (.int (1 : Int32))] [])) (fun t_ k_ => XS.icmpNo X3.here hx rfl (hb hby own_d_ap2_136) rfl (teq (e3_ : (f 3) = x3.toInt8.toInt32)).2 k_) ?_
  refine own_by (T' := T3) (g' := (mkF m 140 #[.val (.ref a), .val (.int (2 : Int32)), .val (.int ad), .val (.int x0), .val (.int x1), .val (.int x2), .val (.int x3), .val (.int (1 : Int32))] [(.int (1 : Int32))])) (fun t_ k_ => XS.iconst X3.here hx rfl (hb hby own_d_ap2_139) k_) ?_
  refine own_by (T' := T3) (g' := (mkF m 144 #[.val (.ref a), .val (.int (2 : Int32)), .val (.int ad), .val (.int x0), .val (.int x1), .val (.int x2), .val (.int x3), .val (.int (1 : Int32))] [(.int (1 : Int32))])) (fun t_ k_ => XS.goto X3.here hx rfl (pc0 := 140) (pc' := 144) rfl (hb hby own_d_ap2_140) (by decide) (by decide) k_) ?_
  refine own_by (T' := T3) (g' := (mkF m 146 #[.val (.ref a), .val (.int (2 : Int32)), .val (.int ad), .val (.int x0), .val (.int x1), .val (.int x2), .val (.int x3), .val (.int (1 : Int32))] [])) (fun t_ k_ => XS.istore X3.here hx rfl (hb hby own_d_ap2_144) rfl (l' := #[.val (.ref a), .val (.int (2 : Int32)), .val (.int ad), .val (.int x0), .val (.int x1), .val (.int x2), .val (.int x3), .val (.int (1 : Int32))]) rfl k_) ?_
  refine own_by (T' := T3) (g' := (mkF m 148 #[.val (.ref a), .val (.int (2 : Int32)), .val (.int ad), .val (.int x0), .val (.int x1), .val (.int x2), .val (.int x3), .val (.int (1 : Int32))] [(.int (1 : Int32))])) (fun t_ k_ => XS.iload X3.here hx rfl (hb hby own_d_ap2_146) rfl k_) ?_
  refine own_retN X3 hx (t := .boolean) Bd.returns hlk (by simp) (hb hby own_d_ap2_148) (by decide) (by decide) (v := (1 : Int32)) rfl ?_
  rw [e3]
  exact ⟨rfl, N3, rfl⟩
theorem own_d_ap3_0 : decode method_4_code 0 = .ok (.aload_n 0, 1) := by decide +kernel
theorem own_d_ap3_1 : decode method_4_code 1 = .ok (.iconst 0, 1) := by decide +kernel
theorem own_d_ap3_2 : decode method_4_code 2 = .ok (.baload, 1) := by decide +kernel
theorem own_d_ap3_3 : decode method_4_code 3 = .ok (.iload_n 1, 1) := by decide +kernel
theorem own_d_ap3_4 : decode method_4_code 4 = .ok (.ifCond .ne 7, 3) := by decide +kernel
theorem own_d_ap3_11 : decode method_4_code 11 = .ok (.iconst 0, 1) := by decide +kernel
theorem own_d_ap3_12 : decode method_4_code 12 = .ok (.iload_n 3, 1) := by decide +kernel
theorem own_d_ap3_13 : decode method_4_code 13 = .ok (.iload 4, 2) := by decide +kernel
theorem own_d_ap3_15 : decode method_4_code 15 = .ok (.iload 5, 2) := by decide +kernel
theorem own_d_ap3_17 : decode method_4_code 17 = .ok (.iload 6, 2) := by decide +kernel
theorem own_d_ap3_19 : decode method_4_code 19 = .ok (.invokestatic 7, 3) := by decide +kernel
theorem own_d_ap3_22 : decode method_4_code 22 = .ok (.if_icmp .ne 7, 3) := by decide +kernel
theorem own_d_ap3_25 : decode method_4_code 25 = .ok (.iconst 1, 1) := by decide +kernel
theorem own_d_ap3_26 : decode method_4_code 26 = .ok (.goto 4, 3) := by decide +kernel
theorem own_d_ap3_30 : decode method_4_code 30 = .ok (.istore 7, 2) := by decide +kernel
theorem own_d_ap3_32 : decode method_4_code 32 = .ok (.iload 7, 2) := by decide +kernel
theorem own_d_ap3_34 : decode method_4_code 34 = .ok (.ifCond .eq 33, 3) := by decide +kernel
theorem own_d_ap3_37 : decode method_4_code 37 = .ok (.aload_n 0, 1) := by decide +kernel
theorem own_d_ap3_38 : decode method_4_code 38 = .ok (.iconst 1, 1) := by decide +kernel
theorem own_d_ap3_39 : decode method_4_code 39 = .ok (.baload, 1) := by decide +kernel
theorem own_d_ap3_40 : decode method_4_code 40 = .ok (.iload_n 1, 1) := by decide +kernel
theorem own_d_ap3_41 : decode method_4_code 41 = .ok (.iconst 1, 1) := by decide +kernel
theorem own_d_ap3_42 : decode method_4_code 42 = .ok (.if_icmp .ne 7, 3) := by decide +kernel
theorem own_d_ap3_49 : decode method_4_code 49 = .ok (.iconst 1, 1) := by decide +kernel
theorem own_d_ap3_50 : decode method_4_code 50 = .ok (.iload_n 3, 1) := by decide +kernel
theorem own_d_ap3_51 : decode method_4_code 51 = .ok (.iload 4, 2) := by decide +kernel
theorem own_d_ap3_53 : decode method_4_code 53 = .ok (.iload 5, 2) := by decide +kernel
theorem own_d_ap3_55 : decode method_4_code 55 = .ok (.iload 6, 2) := by decide +kernel
theorem own_d_ap3_57 : decode method_4_code 57 = .ok (.invokestatic 7, 3) := by decide +kernel
theorem own_d_ap3_60 : decode method_4_code 60 = .ok (.if_icmp .ne 7, 3) := by decide +kernel
theorem own_d_ap3_63 : decode method_4_code 63 = .ok (.iconst 1, 1) := by decide +kernel
theorem own_d_ap3_64 : decode method_4_code 64 = .ok (.goto 4, 3) := by decide +kernel
theorem own_d_ap3_68 : decode method_4_code 68 = .ok (.istore 7, 2) := by decide +kernel
theorem own_d_ap3_70 : decode method_4_code 70 = .ok (.iload 7, 2) := by decide +kernel
theorem own_d_ap3_72 : decode method_4_code 72 = .ok (.ifCond .eq 33, 3) := by decide +kernel
theorem own_d_ap3_75 : decode method_4_code 75 = .ok (.aload_n 0, 1) := by decide +kernel
theorem own_d_ap3_76 : decode method_4_code 76 = .ok (.iconst 2, 1) := by decide +kernel
theorem own_d_ap3_77 : decode method_4_code 77 = .ok (.baload, 1) := by decide +kernel
theorem own_d_ap3_78 : decode method_4_code 78 = .ok (.iload_n 1, 1) := by decide +kernel
theorem own_d_ap3_79 : decode method_4_code 79 = .ok (.iconst 2, 1) := by decide +kernel
theorem own_d_ap3_80 : decode method_4_code 80 = .ok (.if_icmp .ne 7, 3) := by decide +kernel
theorem own_d_ap3_87 : decode method_4_code 87 = .ok (.iconst 2, 1) := by decide +kernel
theorem own_d_ap3_88 : decode method_4_code 88 = .ok (.iload_n 3, 1) := by decide +kernel
theorem own_d_ap3_89 : decode method_4_code 89 = .ok (.iload 4, 2) := by decide +kernel
theorem own_d_ap3_91 : decode method_4_code 91 = .ok (.iload 5, 2) := by decide +kernel
theorem own_d_ap3_93 : decode method_4_code 93 = .ok (.iload 6, 2) := by decide +kernel
theorem own_d_ap3_95 : decode method_4_code 95 = .ok (.invokestatic 7, 3) := by decide +kernel
theorem own_d_ap3_98 : decode method_4_code 98 = .ok (.if_icmp .ne 7, 3) := by decide +kernel
theorem own_d_ap3_101 : decode method_4_code 101 = .ok (.iconst 1, 1) := by decide +kernel
theorem own_d_ap3_102 : decode method_4_code 102 = .ok (.goto 4, 3) := by decide +kernel
theorem own_d_ap3_106 : decode method_4_code 106 = .ok (.istore 7, 2) := by decide +kernel
theorem own_d_ap3_108 : decode method_4_code 108 = .ok (.iload 7, 2) := by decide +kernel
theorem own_d_ap3_110 : decode method_4_code 110 = .ok (.ifCond .eq 33, 3) := by decide +kernel
theorem own_d_ap3_113 : decode method_4_code 113 = .ok (.aload_n 0, 1) := by decide +kernel
theorem own_d_ap3_114 : decode method_4_code 114 = .ok (.iconst 3, 1) := by decide +kernel
theorem own_d_ap3_115 : decode method_4_code 115 = .ok (.baload, 1) := by decide +kernel
theorem own_d_ap3_116 : decode method_4_code 116 = .ok (.iload_n 1, 1) := by decide +kernel
theorem own_d_ap3_117 : decode method_4_code 117 = .ok (.iconst 3, 1) := by decide +kernel
theorem own_d_ap3_118 : decode method_4_code 118 = .ok (.if_icmp .ne 7, 3) := by decide +kernel
theorem own_d_ap3_121 : decode method_4_code 121 = .ok (.iload_n 2, 1) := by decide +kernel
theorem own_d_ap3_122 : decode method_4_code 122 = .ok (.goto 14, 3) := by decide +kernel
theorem own_d_ap3_136 : decode method_4_code 136 = .ok (.if_icmp .ne 7, 3) := by decide +kernel
theorem own_d_ap3_139 : decode method_4_code 139 = .ok (.iconst 1, 1) := by decide +kernel
theorem own_d_ap3_140 : decode method_4_code 140 = .ok (.goto 4, 3) := by decide +kernel
theorem own_d_ap3_144 : decode method_4_code 144 = .ok (.istore 7, 2) := by decide +kernel
theorem own_d_ap3_146 : decode method_4_code 146 = .ok (.iload 7, 2) := by decide +kernel
theorem own_d_ap3_148 : decode method_4_code 148 = .ok (.ireturn, 1) := by decide +kernel
theorem own_ef_ap3 (m : MethodId) (a : Addr) (ad : Int32) (x0 : Int32) (x1 : Int32) (x2 : Int32) (x3 : Int32) : entryFrame m #[(.ref a), (.int (3 : Int32)), (.int ad), (.int x0), (.int x1), (.int x2), (.int x3)] 8 = mkF m 0 #[.val (.ref a), .val (.int (3 : Int32)), .val (.int ad), .val (.int x0), .val (.int x1), .val (.int x2), .val (.int x3), .unset] [] := by first | (simp [entryFrame, mkF, argsToLocals, Value.category]; done) | rfl
def own_Q_ap3 (Z : State) (a : Addr) (ad : Int32) (x0 : Int32) (x1 : Int32) (x2 : Int32) (x3 : Int32) (f : Nat → Int32) (h0 : Heap) (n0 : Nat) (v : Option Value) (h : Heap) (L : List Loc) : Prop := v = some (.int 1) ∧ Fr n0 L ∧ h = h0
set_option maxRecDepth 65536 in
set_option maxHeartbeats 40000000 in
theorem own_rm_ap3 (l : Launch) (Z : State) (a0 : Array Value) (hw : ∀ d ∈ tables_1, d.before a0 Z = true) (ws : List Jvm.Cond) (a : Addr) (ad : Int32) (x0 : Int32) (x1 : Int32) (x2 : Int32) (x3 : Int32) (f : Nat → Int32) (h0 : Heap) (n0 : Nat) (Z0 : n0 ≤ h0.size) (V0 : own_Ia Z h0 a .byte 4 f) (e0_ : f 0 = x0.toInt8.toInt32) (e1_ : f 1 = x1.toInt8.toInt32) (e2_ : f 2 = x2.toInt8.toInt32) (e3_ : f 3 = ad) :
    MetFree l (⟨"com/example/rowgate/rowgate/StoredValueArrayPinLaw", "afterAppend", "([BIBIIII)Z"⟩ : MethodName) (head1 (Jvm.Cond.code (⟨"com/example/rowgate/rowgate/StoredValueArrayPinLaw", "afterAppend", "([BIBIIII)Z"⟩ : MethodName) method_4_code 8 (some .boolean) :: ws) ({ frames := 1, cells := 0, slots := 0, locals := 17 } : Room)) (fun a_ U_ => a_ = #[(.ref a), (.int (3 : Int32)), (.int ad), (.int x0), (.int x1), (.int x2), (.int x3)] ∧ Z.Warmed39 U_.vm ∧ U_.heap = h0) (fun _ _ _ _ _ => True) (fun _ U_ o_ U'_ => ∃ v_ L_, o_ = .returned v_ ∧ own_Q_ap3 Z a ad x0 x1 x2 x3 f h0 n0 v_ U'_.heap L_ ∧ FrameEnd U_ o_ U'_ L_ ({ frames := 1, cells := 0, slots := 0, locals := 17 } : Room).cells ({ frames := 1, cells := 0, slots := 0, locals := 17 } : Room).slots) := by
  refine MetFree.of_bodySF (plainFor_of_name own_pn_com_example_rowgate_rowgate_StoredValueArrayPinLaw) hisR ?_
  intro p e s m args below meth c s₁ Bd hml0 hP hK
  obtain ⟨rfl, hZ, hh⟩ := hP
  have hx := Bd.exec
  have hby := Bd.bytes
  have hlk : meth.locks = false := BodyLoose.notSynchronized Bd
  have hml : c.maxLocals = 8 := hml0
  have hown : s.vm.findClass "com/example/rowgate/rowgate/StoredValueArrayPinLaw" = some m.cls := findClass_of_methodNamed Bd.named
  have hnm := (name_of_methodNamed Bd.named Bd.method).1
  have X0 : Stand p l e ({ frames := 1, cells := 0, slots := 0, locals := 17 } : Room) s m #[(.ref a), (.int (3 : Int32)), (.int ad), (.int x0), (.int x1), (.int x2), (.int x3)] below meth c s₁ [] 0 0 := Stand.of_body Bd
  have e0 : s₁.heap = h0 := by rw [← hh, Bd.state]; rfl
  have N0 := Fr.nil n0
  show own_Goes p e below (own_K (own_Q_ap3 Z a ad x0 x1 x2 x3 f h0 n0) s ({ frames := 1, cells := 0, slots := 0, locals := 17 } : Room).cells ({ frames := 1, cells := 0, slots := 0, locals := 17 } : Room).slots) s₁ (entryFrame m #[(.ref a), (.int (3 : Int32)), (.int ad), (.int x0), (.int x1), (.int x2), (.int x3)] 8)
  rw [own_ef_ap3]
  refine own_by (T' := s₁) (g' := (mkF m 1 #[.val (.ref a), .val (.int (3 : Int32)), .val (.int ad), .val (.int x0), .val (.int x1), .val (.int x2), .val (.int x3), .unset] [(.ref a)])) (fun t_ k_ => XS.aloadN X0.here hx rfl (hb hby own_d_ap3_0) rfl rfl k_) ?_
  refine own_by (T' := s₁) (g' := (mkF m 2 #[.val (.ref a), .val (.int (3 : Int32)), .val (.int ad), .val (.int x0), .val (.int x1), .val (.int x2), .val (.int x3), .unset] [(.int (0 : Int32)), (.ref a)])) (fun t_ k_ => XS.iconst X0.here hx rfl (hb hby own_d_ap3_1) k_) ?_
  refine own_by (T' := s₁) (g' := (mkF m 3 #[.val (.ref a), .val (.int (3 : Int32)), .val (.int ad), .val (.int x0), .val (.int x1), .val (.int x2), .val (.int x3), .unset] [(.int (f 0))])) (fun t_ k_ => own_bal X0 hx hZ e0 V0 (j := (0 : Int32)) (by decide) (by decide) (g := (mkF m 2 #[.val (.ref a), .val (.int (3 : Int32)), .val (.int ad), .val (.int x0), .val (.int x1), .val (.int x2), .val (.int x3), .unset] [(.int (0 : Int32)), (.ref a)])) rfl rfl (hb hby own_d_ap3_2) _ k_) ?_
  refine own_by (T' := s₁) (g' := (mkF m 4 #[.val (.ref a), .val (.int (3 : Int32)), .val (.int ad), .val (.int x0), .val (.int x1), .val (.int x2), .val (.int x3), .unset] [(.int (3 : Int32)), (.int (f 0))])) (fun t_ k_ => XS.iloadN X0.here hx rfl (hb hby own_d_ap3_3) rfl k_) ?_
  refine own_by (T' := s₁) (g' := (mkF m 11 #[.val (.ref a), .val (.int (3 : Int32)), .val (.int ad), .val (.int x0), .val (.int x1), .val (.int x2), .val (.int x3), .unset] [(.int (f 0))])) (fun t_ k_ => XS.ifYes X0.here hx rfl (pc0 := 4) (pc' := 11) rfl (hb hby own_d_ap3_4) rfl ((if0 _ _).trans (feq ((by decide) : ¬ ((3 : Int32) = (0 : Int32)))).2) (by decide) (by decide) k_) ?_
  refine own_by (T' := s₁) (g' := (mkF m 12 #[.val (.ref a), .val (.int (3 : Int32)), .val (.int ad), .val (.int x0), .val (.int x1), .val (.int x2), .val (.int x3), .unset] [(.int (0 : Int32)), (.int (f 0))])) (fun t_ k_ => XS.iconst X0.here hx rfl (hb hby own_d_ap3_11) k_) ?_
  refine own_by (T' := s₁) (g' := (mkF m 13 #[.val (.ref a), .val (.int (3 : Int32)), .val (.int ad), .val (.int x0), .val (.int x1), .val (.int x2), .val (.int x3), .unset] [(.int x0), (.int (0 : Int32)), (.int (f 0))])) (fun t_ k_ => XS.iloadN X0.here hx rfl (hb hby own_d_ap3_12) rfl k_) ?_
  refine own_by (T' := s₁) (g' := (mkF m 15 #[.val (.ref a), .val (.int (3 : Int32)), .val (.int ad), .val (.int x0), .val (.int x1), .val (.int x2), .val (.int x3), .unset] [(.int x1), (.int x0), (.int (0 : Int32)), (.int (f 0))])) (fun t_ k_ => XS.iload X0.here hx rfl (hb hby own_d_ap3_13) rfl k_) ?_
  refine own_by (T' := s₁) (g' := (mkF m 17 #[.val (.ref a), .val (.int (3 : Int32)), .val (.int ad), .val (.int x0), .val (.int x1), .val (.int x2), .val (.int x3), .unset] [(.int x2), (.int x1), (.int x0), (.int (0 : Int32)), (.int (f 0))])) (fun t_ k_ => XS.iload X0.here hx rfl (hb hby own_d_ap3_15) rfl k_) ?_
  refine own_by (T' := s₁) (g' := (mkF m 19 #[.val (.ref a), .val (.int (3 : Int32)), .val (.int ad), .val (.int x0), .val (.int x1), .val (.int x2), .val (.int x3), .unset] [(.int x3), (.int x2), (.int x1), (.int x0), (.int (0 : Int32)), (.int (f 0))])) (fun t_ k_ => XS.iload X0.here hx rfl (hb hby own_d_ap3_17) rfl k_) ?_
  obtain ⟨_, T1, L1, X1, hQ1, st1⟩ := own_callS X0 hx hZ (y := (⟨"com/example/rowgate/rowgate/StoredValueArrayPinLaw", "orig", "(IIIII)B"⟩ : MethodName)) hown (hw _ (List.mem_of_getElem? (i := 47) rfl)) (hw _ (List.mem_of_getElem? (i := 48) rfl)) (hw _ (List.mem_of_getElem? (i := 26) rfl)) (hw _ (List.mem_of_getElem? (i := 49) rfl)) (by decide) (argsL := [(.int (0 : Int32)), (.int x0), (.int x1), (.int x2), (.int x3)]) (rest := [(.int (f 0))]) (own_rm_or0 l Z a0 hw [] x0 x1 x2 x3 h0 n0 Z0) e0 (W := 1) (by decide) (by decide) (by decide) (by decide) (g := (mkF m 19 #[.val (.ref a), .val (.int (3 : Int32)), .val (.int ad), .val (.int x0), .val (.int x1), .val (.int x2), .val (.int x3), .unset] [(.int x3), (.int x2), (.int x1), (.int x0), (.int (0 : Int32)), (.int (f 0))])) rfl (by rw [hml]; rfl) (lenOf own_pd0 rfl) rfl (by show 2 * 0 + _ ≤ _; exact Nat.le_of_eq rfl) (hb hby own_d_ap3_19)
  obtain ⟨rfl, Nq1, e1⟩ := hQ1
  have N1 := Fr.app N0 Nq1
  refine st1 _ ?_
  show own_Goes p e below _ T1 (mkF m 22 #[.val (.ref a), .val (.int (3 : Int32)), .val (.int ad), .val (.int x0), .val (.int x1), .val (.int x2), .val (.int x3), .unset] [(.int x0.toInt8.toInt32), (.int (f 0))])
  refine own_by (T' := T1) (g' := (mkF m 25 #[.val (.ref a), .val (.int (3 : Int32)), .val (.int ad), .val (.int x0), .val (.int x1), .val (.int x2), .val (.int x3), .unset] [])) (fun t_ k_ => XS.icmpNo X1.here hx rfl (hb hby own_d_ap3_22) rfl (teq (e0_ : (f 0) = x0.toInt8.toInt32)).2 k_) ?_
  refine own_by (T' := T1) (g' := (mkF m 26 #[.val (.ref a), .val (.int (3 : Int32)), .val (.int ad), .val (.int x0), .val (.int x1), .val (.int x2), .val (.int x3), .unset] [(.int (1 : Int32))])) (fun t_ k_ => XS.iconst X1.here hx rfl (hb hby own_d_ap3_25) k_) ?_
  refine own_by (T' := T1) (g' := (mkF m 30 #[.val (.ref a), .val (.int (3 : Int32)), .val (.int ad), .val (.int x0), .val (.int x1), .val (.int x2), .val (.int x3), .unset] [(.int (1 : Int32))])) (fun t_ k_ => XS.goto X1.here hx rfl (pc0 := 26) (pc' := 30) rfl (hb hby own_d_ap3_26) (by decide) (by decide) k_) ?_
  refine own_by (T' := T1) (g' := (mkF m 32 #[.val (.ref a), .val (.int (3 : Int32)), .val (.int ad), .val (.int x0), .val (.int x1), .val (.int x2), .val (.int x3), .val (.int (1 : Int32))] [])) (fun t_ k_ => XS.istore X1.here hx rfl (hb hby own_d_ap3_30) rfl (l' := #[.val (.ref a), .val (.int (3 : Int32)), .val (.int ad), .val (.int x0), .val (.int x1), .val (.int x2), .val (.int x3), .val (.int (1 : Int32))]) rfl k_) ?_
  refine own_by (T' := T1) (g' := (mkF m 34 #[.val (.ref a), .val (.int (3 : Int32)), .val (.int ad), .val (.int x0), .val (.int x1), .val (.int x2), .val (.int x3), .val (.int (1 : Int32))] [(.int (1 : Int32))])) (fun t_ k_ => XS.iload X1.here hx rfl (hb hby own_d_ap3_32) rfl k_) ?_
  refine own_by (T' := T1) (g' := (mkF m 37 #[.val (.ref a), .val (.int (3 : Int32)), .val (.int ad), .val (.int x0), .val (.int x1), .val (.int x2), .val (.int x3), .val (.int (1 : Int32))] [])) (fun t_ k_ => XS.ifNo X1.here hx rfl (hb hby own_d_ap3_34) rfl ((if0 _ _).trans (feq ((by decide) : ¬ ((1 : Int32) = (0 : Int32)))).1) k_) ?_
  refine own_by (T' := T1) (g' := (mkF m 38 #[.val (.ref a), .val (.int (3 : Int32)), .val (.int ad), .val (.int x0), .val (.int x1), .val (.int x2), .val (.int x3), .val (.int (1 : Int32))] [(.ref a)])) (fun t_ k_ => XS.aloadN X1.here hx rfl (hb hby own_d_ap3_37) rfl rfl k_) ?_
  refine own_by (T' := T1) (g' := (mkF m 39 #[.val (.ref a), .val (.int (3 : Int32)), .val (.int ad), .val (.int x0), .val (.int x1), .val (.int x2), .val (.int x3), .val (.int (1 : Int32))] [(.int (1 : Int32)), (.ref a)])) (fun t_ k_ => XS.iconst X1.here hx rfl (hb hby own_d_ap3_38) k_) ?_
  refine own_by (T' := T1) (g' := (mkF m 40 #[.val (.ref a), .val (.int (3 : Int32)), .val (.int ad), .val (.int x0), .val (.int x1), .val (.int x2), .val (.int x3), .val (.int (1 : Int32))] [(.int (f 1))])) (fun t_ k_ => own_bal X1 hx hZ e1 V0 (j := (1 : Int32)) (by decide) (by decide) (g := (mkF m 39 #[.val (.ref a), .val (.int (3 : Int32)), .val (.int ad), .val (.int x0), .val (.int x1), .val (.int x2), .val (.int x3), .val (.int (1 : Int32))] [(.int (1 : Int32)), (.ref a)])) rfl rfl (hb hby own_d_ap3_39) _ k_) ?_
  refine own_by (T' := T1) (g' := (mkF m 41 #[.val (.ref a), .val (.int (3 : Int32)), .val (.int ad), .val (.int x0), .val (.int x1), .val (.int x2), .val (.int x3), .val (.int (1 : Int32))] [(.int (3 : Int32)), (.int (f 1))])) (fun t_ k_ => XS.iloadN X1.here hx rfl (hb hby own_d_ap3_40) rfl k_) ?_
  refine own_by (T' := T1) (g' := (mkF m 42 #[.val (.ref a), .val (.int (3 : Int32)), .val (.int ad), .val (.int x0), .val (.int x1), .val (.int x2), .val (.int x3), .val (.int (1 : Int32))] [(.int (1 : Int32)), (.int (3 : Int32)), (.int (f 1))])) (fun t_ k_ => XS.iconst X1.here hx rfl (hb hby own_d_ap3_41) k_) ?_
  refine own_by (T' := T1) (g' := (mkF m 49 #[.val (.ref a), .val (.int (3 : Int32)), .val (.int ad), .val (.int x0), .val (.int x1), .val (.int x2), .val (.int x3), .val (.int (1 : Int32))] [(.int (f 1))])) (fun t_ k_ => XS.icmpYes X1.here hx rfl (pc0 := 42) (pc' := 49) rfl (hb hby own_d_ap3_42) rfl (feq ((by decide) : ¬ ((3 : Int32) = (1 : Int32)))).2 (by decide) (by decide) k_) ?_
  refine own_by (T' := T1) (g' := (mkF m 50 #[.val (.ref a), .val (.int (3 : Int32)), .val (.int ad), .val (.int x0), .val (.int x1), .val (.int x2), .val (.int x3), .val (.int (1 : Int32))] [(.int (1 : Int32)), (.int (f 1))])) (fun t_ k_ => XS.iconst X1.here hx rfl (hb hby own_d_ap3_49) k_) ?_
  refine own_by (T' := T1) (g' := (mkF m 51 #[.val (.ref a), .val (.int (3 : Int32)), .val (.int ad), .val (.int x0), .val (.int x1), .val (.int x2), .val (.int x3), .val (.int (1 : Int32))] [(.int x0), (.int (1 : Int32)), (.int (f 1))])) (fun t_ k_ => XS.iloadN X1.here hx rfl (hb hby own_d_ap3_50) rfl k_) ?_
  refine own_by (T' := T1) (g' := (mkF m 53 #[.val (.ref a), .val (.int (3 : Int32)), .val (.int ad), .val (.int x0), .val (.int x1), .val (.int x2), .val (.int x3), .val (.int (1 : Int32))] [(.int x1), (.int x0), (.int (1 : Int32)), (.int (f 1))])) (fun t_ k_ => XS.iload X1.here hx rfl (hb hby own_d_ap3_51) rfl k_) ?_
  refine own_by (T' := T1) (g' := (mkF m 55 #[.val (.ref a), .val (.int (3 : Int32)), .val (.int ad), .val (.int x0), .val (.int x1), .val (.int x2), .val (.int x3), .val (.int (1 : Int32))] [(.int x2), (.int x1), (.int x0), (.int (1 : Int32)), (.int (f 1))])) (fun t_ k_ => XS.iload X1.here hx rfl (hb hby own_d_ap3_53) rfl k_) ?_
  refine own_by (T' := T1) (g' := (mkF m 57 #[.val (.ref a), .val (.int (3 : Int32)), .val (.int ad), .val (.int x0), .val (.int x1), .val (.int x2), .val (.int x3), .val (.int (1 : Int32))] [(.int x3), (.int x2), (.int x1), (.int x0), (.int (1 : Int32)), (.int (f 1))])) (fun t_ k_ => XS.iload X1.here hx rfl (hb hby own_d_ap3_55) rfl k_) ?_
  obtain ⟨_, T2, L2, X2, hQ2, st2⟩ := own_callS X1 hx hZ (y := (⟨"com/example/rowgate/rowgate/StoredValueArrayPinLaw", "orig", "(IIIII)B"⟩ : MethodName)) hown (hw _ (List.mem_of_getElem? (i := 47) rfl)) (hw _ (List.mem_of_getElem? (i := 48) rfl)) (hw _ (List.mem_of_getElem? (i := 26) rfl)) (hw _ (List.mem_of_getElem? (i := 49) rfl)) (by decide) (argsL := [(.int (1 : Int32)), (.int x0), (.int x1), (.int x2), (.int x3)]) (rest := [(.int (f 1))]) (own_rm_or1 l Z a0 hw [] x0 x1 x2 x3 h0 n0 Z0) e1 (W := 1) (by decide) (by decide) (by decide) (by decide) (g := (mkF m 57 #[.val (.ref a), .val (.int (3 : Int32)), .val (.int ad), .val (.int x0), .val (.int x1), .val (.int x2), .val (.int x3), .val (.int (1 : Int32))] [(.int x3), (.int x2), (.int x1), (.int x0), (.int (1 : Int32)), (.int (f 1))])) rfl (by rw [hml]; rfl) (lenOf own_pd0 rfl) rfl (by show 2 * 0 + _ ≤ _; exact Nat.le_of_eq rfl) (hb hby own_d_ap3_57)
  obtain ⟨rfl, Nq2, e2⟩ := hQ2
  have N2 := Fr.app N1 Nq2
  refine st2 _ ?_
  show own_Goes p e below _ T2 (mkF m 60 #[.val (.ref a), .val (.int (3 : Int32)), .val (.int ad), .val (.int x0), .val (.int x1), .val (.int x2), .val (.int x3), .val (.int (1 : Int32))] [(.int x1.toInt8.toInt32), (.int (f 1))])
  refine own_by (T' := T2) (g' := (mkF m 63 #[.val (.ref a), .val (.int (3 : Int32)), .val (.int ad), .val (.int x0), .val (.int x1), .val (.int x2), .val (.int x3), .val (.int (1 : Int32))] [])) (fun t_ k_ => XS.icmpNo X2.here hx rfl (hb hby own_d_ap3_60) rfl (teq (e1_ : (f 1) = x1.toInt8.toInt32)).2 k_) ?_
  refine own_by (T' := T2) (g' := (mkF m 64 #[.val (.ref a), .val (.int (3 : Int32)), .val (.int ad), .val (.int x0), .val (.int x1), .val (.int x2), .val (.int x3), .val (.int (1 : Int32))] [(.int (1 : Int32))])) (fun t_ k_ => XS.iconst X2.here hx rfl (hb hby own_d_ap3_63) k_) ?_
  refine own_by (T' := T2) (g' := (mkF m 68 #[.val (.ref a), .val (.int (3 : Int32)), .val (.int ad), .val (.int x0), .val (.int x1), .val (.int x2), .val (.int x3), .val (.int (1 : Int32))] [(.int (1 : Int32))])) (fun t_ k_ => XS.goto X2.here hx rfl (pc0 := 64) (pc' := 68) rfl (hb hby own_d_ap3_64) (by decide) (by decide) k_) ?_
  refine own_by (T' := T2) (g' := (mkF m 70 #[.val (.ref a), .val (.int (3 : Int32)), .val (.int ad), .val (.int x0), .val (.int x1), .val (.int x2), .val (.int x3), .val (.int (1 : Int32))] [])) (fun t_ k_ => XS.istore X2.here hx rfl (hb hby own_d_ap3_68) rfl (l' := #[.val (.ref a), .val (.int (3 : Int32)), .val (.int ad), .val (.int x0), .val (.int x1), .val (.int x2), .val (.int x3), .val (.int (1 : Int32))]) rfl k_) ?_
  refine own_by (T' := T2) (g' := (mkF m 72 #[.val (.ref a), .val (.int (3 : Int32)), .val (.int ad), .val (.int x0), .val (.int x1), .val (.int x2), .val (.int x3), .val (.int (1 : Int32))] [(.int (1 : Int32))])) (fun t_ k_ => XS.iload X2.here hx rfl (hb hby own_d_ap3_70) rfl k_) ?_
  refine own_by (T' := T2) (g' := (mkF m 75 #[.val (.ref a), .val (.int (3 : Int32)), .val (.int ad), .val (.int x0), .val (.int x1), .val (.int x2), .val (.int x3), .val (.int (1 : Int32))] [])) (fun t_ k_ => XS.ifNo X2.here hx rfl (hb hby own_d_ap3_72) rfl ((if0 _ _).trans (feq ((by decide) : ¬ ((1 : Int32) = (0 : Int32)))).1) k_) ?_
  refine own_by (T' := T2) (g' := (mkF m 76 #[.val (.ref a), .val (.int (3 : Int32)), .val (.int ad), .val (.int x0), .val (.int x1), .val (.int x2), .val (.int x3), .val (.int (1 : Int32))] [(.ref a)])) (fun t_ k_ => XS.aloadN X2.here hx rfl (hb hby own_d_ap3_75) rfl rfl k_) ?_
  refine own_by (T' := T2) (g' := (mkF m 77 #[.val (.ref a), .val (.int (3 : Int32)), .val (.int ad), .val (.int x0), .val (.int x1), .val (.int x2), .val (.int x3), .val (.int (1 : Int32))] [(.int (2 : Int32)), (.ref a)])) (fun t_ k_ => XS.iconst X2.here hx rfl (hb hby own_d_ap3_76) k_) ?_
  refine own_by (T' := T2) (g' := (mkF m 78 #[.val (.ref a), .val (.int (3 : Int32)), .val (.int ad), .val (.int x0), .val (.int x1), .val (.int x2), .val (.int x3), .val (.int (1 : Int32))] [(.int (f 2))])) (fun t_ k_ => own_bal X2 hx hZ e2 V0 (j := (2 : Int32)) (by decide) (by decide) (g := (mkF m 77 #[.val (.ref a), .val (.int (3 : Int32)), .val (.int ad), .val (.int x0), .val (.int x1), .val (.int x2), .val (.int x3), .val (.int (1 : Int32))] [(.int (2 : Int32)), (.ref a)])) rfl rfl (hb hby own_d_ap3_77) _ k_) ?_
  refine own_by (T' := T2) (g' := (mkF m 79 #[.val (.ref a), .val (.int (3 : Int32)), .val (.int ad), .val (.int x0), .val (.int x1), .val (.int x2), .val (.int x3), .val (.int (1 : Int32))] [(.int (3 : Int32)), (.int (f 2))])) (fun t_ k_ => XS.iloadN X2.here hx rfl (hb hby own_d_ap3_78) rfl k_) ?_
  refine own_by (T' := T2) (g' := (mkF m 80 #[.val (.ref a), .val (.int (3 : Int32)), .val (.int ad), .val (.int x0), .val (.int x1), .val (.int x2), .val (.int x3), .val (.int (1 : Int32))] [(.int (2 : Int32)), (.int (3 : Int32)), (.int (f 2))])) (fun t_ k_ => XS.iconst X2.here hx rfl (hb hby own_d_ap3_79) k_) ?_
  refine own_by (T' := T2) (g' := (mkF m 87 #[.val (.ref a), .val (.int (3 : Int32)), .val (.int ad), .val (.int x0), .val (.int x1), .val (.int x2), .val (.int x3), .val (.int (1 : Int32))] [(.int (f 2))])) (fun t_ k_ => XS.icmpYes X2.here hx rfl (pc0 := 80) (pc' := 87) rfl (hb hby own_d_ap3_80) rfl (feq ((by decide) : ¬ ((3 : Int32) = (2 : Int32)))).2 (by decide) (by decide) k_) ?_
  refine own_by (T' := T2) (g' := (mkF m 88 #[.val (.ref a), .val (.int (3 : Int32)), .val (.int ad), .val (.int x0), .val (.int x1), .val (.int x2), .val (.int x3), .val (.int (1 : Int32))] [(.int (2 : Int32)), (.int (f 2))])) (fun t_ k_ => XS.iconst X2.here hx rfl (hb hby own_d_ap3_87) k_) ?_
  refine own_by (T' := T2) (g' := (mkF m 89 #[.val (.ref a), .val (.int (3 : Int32)), .val (.int ad), .val (.int x0), .val (.int x1), .val (.int x2), .val (.int x3), .val (.int (1 : Int32))] [(.int x0), (.int (2 : Int32)), (.int (f 2))])) (fun t_ k_ => XS.iloadN X2.here hx rfl (hb hby own_d_ap3_88) rfl k_) ?_
  refine own_by (T' := T2) (g' := (mkF m 91 #[.val (.ref a), .val (.int (3 : Int32)), .val (.int ad), .val (.int x0), .val (.int x1), .val (.int x2), .val (.int x3), .val (.int (1 : Int32))] [(.int x1), (.int x0), (.int (2 : Int32)), (.int (f 2))])) (fun t_ k_ => XS.iload X2.here hx rfl (hb hby own_d_ap3_89) rfl k_) ?_
  refine own_by (T' := T2) (g' := (mkF m 93 #[.val (.ref a), .val (.int (3 : Int32)), .val (.int ad), .val (.int x0), .val (.int x1), .val (.int x2), .val (.int x3), .val (.int (1 : Int32))] [(.int x2), (.int x1), (.int x0), (.int (2 : Int32)), (.int (f 2))])) (fun t_ k_ => XS.iload X2.here hx rfl (hb hby own_d_ap3_91) rfl k_) ?_
  refine own_by (T' := T2) (g' := (mkF m 95 #[.val (.ref a), .val (.int (3 : Int32)), .val (.int ad), .val (.int x0), .val (.int x1), .val (.int x2), .val (.int x3), .val (.int (1 : Int32))] [(.int x3), (.int x2), (.int x1), (.int x0), (.int (2 : Int32)), (.int (f 2))])) (fun t_ k_ => XS.iload X2.here hx rfl (hb hby own_d_ap3_93) rfl k_) ?_
  obtain ⟨_, T3, L3, X3, hQ3, st3⟩ := own_callS X2 hx hZ (y := (⟨"com/example/rowgate/rowgate/StoredValueArrayPinLaw", "orig", "(IIIII)B"⟩ : MethodName)) hown (hw _ (List.mem_of_getElem? (i := 47) rfl)) (hw _ (List.mem_of_getElem? (i := 48) rfl)) (hw _ (List.mem_of_getElem? (i := 26) rfl)) (hw _ (List.mem_of_getElem? (i := 49) rfl)) (by decide) (argsL := [(.int (2 : Int32)), (.int x0), (.int x1), (.int x2), (.int x3)]) (rest := [(.int (f 2))]) (own_rm_or2 l Z a0 hw [] x0 x1 x2 x3 h0 n0 Z0) e2 (W := 1) (by decide) (by decide) (by decide) (by decide) (g := (mkF m 95 #[.val (.ref a), .val (.int (3 : Int32)), .val (.int ad), .val (.int x0), .val (.int x1), .val (.int x2), .val (.int x3), .val (.int (1 : Int32))] [(.int x3), (.int x2), (.int x1), (.int x0), (.int (2 : Int32)), (.int (f 2))])) rfl (by rw [hml]; rfl) (lenOf own_pd0 rfl) rfl (by show 2 * 0 + _ ≤ _; exact Nat.le_of_eq rfl) (hb hby own_d_ap3_95)
  obtain ⟨rfl, Nq3, e3⟩ := hQ3
  have N3 := Fr.app N2 Nq3
  refine st3 _ ?_
  show own_Goes p e below _ T3 (mkF m 98 #[.val (.ref a), .val (.int (3 : Int32)), .val (.int ad), .val (.int x0), .val (.int x1), .val (.int x2), .val (.int x3), .val (.int (1 : Int32))] [(.int x2.toInt8.toInt32), (.int (f 2))])
  refine own_by (T' := T3) (g' := (mkF m 101 #[.val (.ref a), .val (.int (3 : Int32)), .val (.int ad), .val (.int x0), .val (.int x1), .val (.int x2), .val (.int x3), .val (.int (1 : Int32))] [])) (fun t_ k_ => XS.icmpNo X3.here hx rfl (hb hby own_d_ap3_98) rfl (teq (e2_ : (f 2) = x2.toInt8.toInt32)).2 k_) ?_
  refine own_by (T' := T3) (g' := (mkF m 102 #[.val (.ref a), .val (.int (3 : Int32)), .val (.int ad), .val (.int x0), .val (.int x1), .val (.int x2), .val (.int x3), .val (.int (1 : Int32))] [(.int (1 : Int32))])) (fun t_ k_ => XS.iconst X3.here hx rfl (hb hby own_d_ap3_101) k_) ?_
  refine own_by (T' := T3) (g' := (mkF m 106 #[.val (.ref a), .val (.int (3 : Int32)), .val (.int ad), .val (.int x0), .val (.int x1), .val (.int x2), .val (.int x3), .val (.int (1 : Int32))] [(.int (1 : Int32))])) (fun t_ k_ => XS.goto X3.here hx rfl (pc0 := 102) (pc' := 106) rfl (hb hby own_d_ap3_102) (by decide) (by decide) k_) ?_
  refine own_by (T' := T3) (g' := (mkF m 108 #[.val (.ref a), .val (.int (3 : Int32)), .val (.int ad), .val (.int x0), .val (.int x1), .val (.int x2), .val (.int x3), .val (.int (1 : Int32))] [])) (fun t_ k_ => XS.istore X3.here hx rfl (hb hby own_d_ap3_106) rfl (l' := #[.val (.ref a), .val (.int (3 : Int32)), .val (.int ad), .val (.int x0), .val (.int x1), .val (.int x2), .val (.int x3), .val (.int (1 : Int32))]) rfl k_) ?_
  refine own_by (T' := T3) (g' := (mkF m 110 #[.val (.ref a), .val (.int (3 : Int32)), .val (.int ad), .val (.int x0), .val (.int x1), .val (.int x2), .val (.int x3), .val (.int (1 : Int32))] [(.int (1 : Int32))])) (fun t_ k_ => XS.iload X3.here hx rfl (hb hby own_d_ap3_108) rfl k_) ?_
  refine own_by (T' := T3) (g' := (mkF m 113 #[.val (.ref a), .val (.int (3 : Int32)), .val (.int ad), .val (.int x0), .val (.int x1), .val (.int x2), .val (.int x3), .val (.int (1 : Int32))] [])) (fun t_ k_ => XS.ifNo X3.here hx rfl (hb hby own_d_ap3_110) rfl ((if0 _ _).trans (feq ((by decide) : ¬ ((1 : Int32) = (0 : Int32)))).1) k_) ?_
  refine own_by (T' := T3) (g' := (mkF m 114 #[.val (.ref a), .val (.int (3 : Int32)), .val (.int ad), .val (.int x0), .val (.int x1), .val (.int x2), .val (.int x3), .val (.int (1 : Int32))] [(.ref a)])) (fun t_ k_ => XS.aloadN X3.here hx rfl (hb hby own_d_ap3_113) rfl rfl k_) ?_
  refine own_by (T' := T3) (g' := (mkF m 115 #[.val (.ref a), .val (.int (3 : Int32)), .val (.int ad), .val (.int x0), .val (.int x1), .val (.int x2), .val (.int x3), .val (.int (1 : Int32))] [(.int (3 : Int32)), (.ref a)])) (fun t_ k_ => XS.iconst X3.here hx rfl (hb hby own_d_ap3_114) k_) ?_
  refine own_by (T' := T3) (g' := (mkF m 116 #[.val (.ref a), .val (.int (3 : Int32)), .val (.int ad), .val (.int x0), .val (.int x1), .val (.int x2), .val (.int x3), .val (.int (1 : Int32))] [(.int (f 3))])) (fun t_ k_ => own_bal X3 hx hZ e3 V0 (j := (3 : Int32)) (by decide) (by decide) (g := (mkF m 115 #[.val (.ref a), .val (.int (3 : Int32)), .val (.int ad), .val (.int x0), .val (.int x1), .val (.int x2), .val (.int x3), .val (.int (1 : Int32))] [(.int (3 : Int32)), (.ref a)])) rfl rfl (hb hby own_d_ap3_115) _ k_) ?_
  refine own_by (T' := T3) (g' := (mkF m 117 #[.val (.ref a), .val (.int (3 : Int32)), .val (.int ad), .val (.int x0), .val (.int x1), .val (.int x2), .val (.int x3), .val (.int (1 : Int32))] [(.int (3 : Int32)), (.int (f 3))])) (fun t_ k_ => XS.iloadN X3.here hx rfl (hb hby own_d_ap3_116) rfl k_) ?_
  refine own_by (T' := T3) (g' := (mkF m 118 #[.val (.ref a), .val (.int (3 : Int32)), .val (.int ad), .val (.int x0), .val (.int x1), .val (.int x2), .val (.int x3), .val (.int (1 : Int32))] [(.int (3 : Int32)), (.int (3 : Int32)), (.int (f 3))])) (fun t_ k_ => XS.iconst X3.here hx rfl (hb hby own_d_ap3_117) k_) ?_
  refine own_by (T' := T3) (g' := (mkF m 121 #[.val (.ref a), .val (.int (3 : Int32)), .val (.int ad), .val (.int x0), .val (.int x1), .val (.int x2), .val (.int x3), .val (.int (1 : Int32))] [(.int (f 3))])) (fun t_ k_ => XS.icmpNo X3.here hx rfl (hb hby own_d_ap3_118) rfl (teq ((by decide) : (3 : Int32) = (3 : Int32))).2 k_) ?_
  refine own_by (T' := T3) (g' := (mkF m 122 #[.val (.ref a), .val (.int (3 : Int32)), .val (.int ad), .val (.int x0), .val (.int x1), .val (.int x2), .val (.int x3), .val (.int (1 : Int32))] [(.int ad), (.int (f 3))])) (fun t_ k_ => XS.iloadN X3.here hx rfl (hb hby own_d_ap3_121) rfl k_) ?_
  refine own_by (T' := T3) (g' := (mkF m 136 #[.val (.ref a), .val (.int (3 : Int32)), .val (.int ad), .val (.int x0), .val (.int x1), .val (.int x2), .val (.int x3), .val (.int (1 : Int32))] [(.int ad), (.int (f 3))])) (fun t_ k_ => XS.goto X3.here hx rfl (pc0 := 122) (pc' := 136) rfl (hb hby own_d_ap3_122) (by decide) (by decide) k_) ?_
  refine own_by (T' := T3) (g' := (mkF m 139 #[.val (.ref a), .val (.int (3 : Int32)), .val (.int ad), .val (.int x0), .val (.int x1), .val (.int x2), .val (.int x3), .val (.int (1 : Int32))] [])) (fun t_ k_ => XS.icmpNo X3.here hx rfl (hb hby own_d_ap3_136) rfl (teq (e3_ : (f 3) = ad)).2 k_) ?_
  refine own_by (T' := T3) (g' := (mkF m 140 #[.val (.ref a), .val (.int (3 : Int32)), .val (.int ad), .val (.int x0), .val (.int x1), .val (.int x2), .val (.int x3), .val (.int (1 : Int32))] [(.int (1 : Int32))])) (fun t_ k_ => XS.iconst X3.here hx rfl (hb hby own_d_ap3_139) k_) ?_
  refine own_by (T' := T3) (g' := (mkF m 144 #[.val (.ref a), .val (.int (3 : Int32)), .val (.int ad), .val (.int x0), .val (.int x1), .val (.int x2), .val (.int x3), .val (.int (1 : Int32))] [(.int (1 : Int32))])) (fun t_ k_ => XS.goto X3.here hx rfl (pc0 := 140) (pc' := 144) rfl (hb hby own_d_ap3_140) (by decide) (by decide) k_) ?_
  refine own_by (T' := T3) (g' := (mkF m 146 #[.val (.ref a), .val (.int (3 : Int32)), .val (.int ad), .val (.int x0), .val (.int x1), .val (.int x2), .val (.int x3), .val (.int (1 : Int32))] [])) (fun t_ k_ => XS.istore X3.here hx rfl (hb hby own_d_ap3_144) rfl (l' := #[.val (.ref a), .val (.int (3 : Int32)), .val (.int ad), .val (.int x0), .val (.int x1), .val (.int x2), .val (.int x3), .val (.int (1 : Int32))]) rfl k_) ?_
  refine own_by (T' := T3) (g' := (mkF m 148 #[.val (.ref a), .val (.int (3 : Int32)), .val (.int ad), .val (.int x0), .val (.int x1), .val (.int x2), .val (.int x3), .val (.int (1 : Int32))] [(.int (1 : Int32))])) (fun t_ k_ => XS.iload X3.here hx rfl (hb hby own_d_ap3_146) rfl k_) ?_
  refine own_retN X3 hx (t := .boolean) Bd.returns hlk (by simp) (hb hby own_d_ap3_148) (by decide) (by decide) (v := (1 : Int32)) rfl ?_
  rw [e3]
  exact ⟨rfl, N3, rfl⟩
theorem own_d_mi_0 : decode jdk_29_method_69_code 0 = .ok (.iload_n 0, 1) := by decide +kernel
theorem own_d_mi_1 : decode jdk_29_method_69_code 1 = .ok (.iload_n 1, 1) := by decide +kernel
theorem own_d_mi_2 : decode jdk_29_method_69_code 2 = .ok (.if_icmp .gt 7, 3) := by decide +kernel
theorem own_d_mi_5 : decode jdk_29_method_69_code 5 = .ok (.iload_n 0, 1) := by decide +kernel
theorem own_d_mi_6 : decode jdk_29_method_69_code 6 = .ok (.goto 4, 3) := by decide +kernel
theorem own_d_mi_9 : decode jdk_29_method_69_code 9 = .ok (.iload_n 1, 1) := by decide +kernel
theorem own_d_mi_10 : decode jdk_29_method_69_code 10 = .ok (.ireturn, 1) := by decide +kernel
theorem own_ef_mi (m : MethodId) (xa : Int32) (xb : Int32) : entryFrame m #[(.int xa), (.int xb)] 2 = mkF m 0 #[.val (.int xa), .val (.int xb)] [] := by first | (simp [entryFrame, mkF, argsToLocals, Value.category]; done) | rfl
def own_Q_mi (Z : State) (xa : Int32) (xb : Int32) (h0 : Heap) (n0 : Nat) (v : Option Value) (h : Heap) (L : List Loc) : Prop := v = some (.int (if xb < xa then xb else xa)) ∧ Fr n0 L ∧ h = h0
set_option maxRecDepth 65536 in
set_option maxHeartbeats 40000000 in
theorem own_rm_mi (l : Launch) (Z : State) (a0 : Array Value) (hw : ∀ d ∈ tables_1, d.before a0 Z = true) (ws : List Jvm.Cond) (xa : Int32) (xb : Int32) (h0 : Heap) (n0 : Nat) (Z0 : n0 ≤ h0.size) :
    MetFree l (⟨"java/lang/Math", "min", "(II)I"⟩ : MethodName) (head1 (Jvm.Cond.code (⟨"java/lang/Math", "min", "(II)I"⟩ : MethodName) jdk_29_method_69_code 2 (some .int) :: ws) ({ frames := 0, cells := 0, slots := 0, locals := 0 } : Room)) (fun a_ U_ => a_ = #[(.int xa), (.int xb)] ∧ Z.Warmed39 U_.vm ∧ U_.heap = h0) (fun _ _ _ _ _ => True) (fun _ U_ o_ U'_ => ∃ v_ L_, o_ = .returned v_ ∧ own_Q_mi Z xa xb h0 n0 v_ U'_.heap L_ ∧ FrameEnd U_ o_ U'_ L_ ({ frames := 0, cells := 0, slots := 0, locals := 0 } : Room).cells ({ frames := 0, cells := 0, slots := 0, locals := 0 } : Room).slots) := by
  refine MetFree.of_bodySF (Jvm.Free.JP.mathPlain rfl (by decide +kernel)) hisR ?_
  intro p e s m args below meth c s₁ Bd hml0 hP hK
  obtain ⟨rfl, hZ, hh⟩ := hP
  have hx := Bd.exec
  have hby := Bd.bytes
  have hlk : meth.locks = false := BodyLoose.notSynchronized Bd
  have hml : c.maxLocals = 2 := hml0
  have hown : s.vm.findClass "java/lang/Math" = some m.cls := findClass_of_methodNamed Bd.named
  have hnm := (name_of_methodNamed Bd.named Bd.method).1
  have X0 : Stand p l e ({ frames := 0, cells := 0, slots := 0, locals := 0 } : Room) s m #[(.int xa), (.int xb)] below meth c s₁ [] 0 0 := Stand.of_body Bd
  have e0 : s₁.heap = h0 := by rw [← hh, Bd.state]; rfl
  have N0 := Fr.nil n0
  show own_Goes p e below (own_K (own_Q_mi Z xa xb h0 n0) s ({ frames := 0, cells := 0, slots := 0, locals := 0 } : Room).cells ({ frames := 0, cells := 0, slots := 0, locals := 0 } : Room).slots) s₁ (entryFrame m #[(.int xa), (.int xb)] 2)
  rw [own_ef_mi]
  refine own_by (T' := s₁) (g' := (mkF m 1 #[.val (.int xa), .val (.int xb)] [(.int xa)])) (fun t_ k_ => XS.iloadN X0.here hx rfl (hb hby own_d_mi_0) rfl k_) ?_
  refine own_by (T' := s₁) (g' := (mkF m 2 #[.val (.int xa), .val (.int xb)] [(.int xb), (.int xa)])) (fun t_ k_ => XS.iloadN X0.here hx rfl (hb hby own_d_mi_1) rfl k_) ?_
  by_cases c2_1 : xb < xa
  · skip
    refine own_by (T' := s₁) (g' := (mkF m 9 #[.val (.int xa), .val (.int xb)] [])) (fun t_ k_ => XS.icmpYes X0.here hx rfl (pc0 := 2) (pc' := 9) rfl (hb hby own_d_mi_2) rfl (tlt (c2_1 : xb < xa)).2.2.1 (by decide) (by decide) k_) ?_
    refine own_by (T' := s₁) (g' := (mkF m 10 #[.val (.int xa), .val (.int xb)] [(.int xb)])) (fun t_ k_ => XS.iloadN X0.here hx rfl (hb hby own_d_mi_9) rfl k_) ?_
    refine own_retI X0 hx Bd.returns hlk (hb hby own_d_mi_10) (by decide) (by decide) ?_
    rw [e0]
    exact ⟨by simp [c2_1], N0, rfl⟩
  · skip
    refine own_by (T' := s₁) (g' := (mkF m 5 #[.val (.int xa), .val (.int xb)] [])) (fun t_ k_ => XS.icmpNo X0.here hx rfl (hb hby own_d_mi_2) rfl (flt (c2_1 : ¬ (xb < xa))).2.2.1 k_) ?_
    refine own_by (T' := s₁) (g' := (mkF m 6 #[.val (.int xa), .val (.int xb)] [(.int xa)])) (fun t_ k_ => XS.iloadN X0.here hx rfl (hb hby own_d_mi_5) rfl k_) ?_
    refine own_by (T' := s₁) (g' := (mkF m 10 #[.val (.int xa), .val (.int xb)] [(.int xa)])) (fun t_ k_ => XS.goto X0.here hx rfl (pc0 := 6) (pc' := 10) rfl (hb hby own_d_mi_6) (by decide) (by decide) k_) ?_
    refine own_retI X0 hx Bd.returns hlk (hb hby own_d_mi_10) (by decide) (by decide) ?_
    rw [e0]
    exact ⟨by simp [c2_1], N0, rfl⟩
theorem own_d_cp_0 : decode prog_43_method_8_code 0 = .ok (.aload_n 0, 1) := by decide +kernel
theorem own_d_cp_1 : decode prog_43_method_8_code 1 = .ok (.getfield 14, 3) := by decide +kernel
theorem own_d_cp_4 : decode prog_43_method_8_code 4 = .ok (.ifnull 18, 3) := by decide +kernel
theorem own_d_cp_7 : decode prog_43_method_8_code 7 = .ok (.aload_n 0, 1) := by decide +kernel
theorem own_d_cp_8 : decode prog_43_method_8_code 8 = .ok (.getfield 14, 3) := by decide +kernel
theorem own_d_cp_11 : decode prog_43_method_8_code 11 = .ok (.iconst 0, 1) := by decide +kernel
theorem own_d_cp_12 : decode prog_43_method_8_code 12 = .ok (.aload_n 1, 1) := by decide +kernel
theorem own_d_cp_13 : decode prog_43_method_8_code 13 = .ok (.iconst 0, 1) := by decide +kernel
theorem own_d_cp_14 : decode prog_43_method_8_code 14 = .ok (.aload_n 0, 1) := by decide +kernel
theorem own_d_cp_15 : decode prog_43_method_8_code 15 = .ok (.getfield 26, 3) := by decide +kernel
theorem own_d_cp_18 : decode prog_43_method_8_code 18 = .ok (.invokestatic 45, 3) := by decide +kernel
theorem own_d_cp_21 : decode prog_43_method_8_code 21 = .ok (.return_, 1) := by decide +kernel
theorem own_ef_cp (m : MethodId) (a : Addr) (t7 : Addr) : entryFrame m #[(.ref a), (.ref t7)] 2 = mkF m 0 #[.val (.ref a), .val (.ref t7)] [] := by first | (simp [entryFrame, mkF, argsToLocals, Value.category]; done) | rfl
def own_Q_cp (Z : State) (a : Addr) (t7 : Addr) (bs : Addr) (f : Nat → Int32) (g7 : Nat → Int32) (h0 : Heap) (n0 : Nat) (v : Option Value) (h : Heap) (L : List Loc) : Prop := v = none ∧ Fr n0 L ∧ Keep h0 h [t7] ∧ own_Ia Z h t7 .byte 7 (fun i => if 0 ≤ i ∧ i < 4 then f (0 + (i - 0)) else g7 i)
set_option maxRecDepth 65536 in
set_option maxHeartbeats 40000000 in
theorem own_rm_cp (l : Launch) (Z : State) (a0 : Array Value) (hw : ∀ d ∈ tables_1, d.before a0 Z = true) (ws : List Jvm.Cond) (a : Addr) (t7 : Addr) (bs : Addr) (f : Nat → Int32) (g7 : Nat → Int32) (h0 : Heap) (n0 : Nat) (Z0 : n0 ≤ h0.size) (F0 : Fld Z h0 a "com/example/rowgate/rowgate/StoredValue" "bytes" "[B" (.ref bs)) (F1 : Fld Z h0 a "com/example/rowgate/rowgate/StoredValue" "length" "I" (.int (4 : Int32))) (E0 : Exa Z h0 a "com/example/rowgate/rowgate/StoredValue") (V0 : own_Ia Z h0 bs .byte 4 f) (V1 : own_Ia Z h0 t7 .byte 7 g7) (G1 : n0 ≤ t7) (n1 : a ≠ t7) (n2 : bs ≠ t7) :
    MetFree l (⟨"com/example/rowgate/rowgate/StoredValue", "copyTo", "([B)V"⟩ : MethodName) (head1 (Jvm.Cond.code (⟨"com/example/rowgate/rowgate/StoredValue", "copyTo", "([B)V"⟩ : MethodName) prog_43_method_8_code 2 none :: ws) ({ frames := 1, cells := 0, slots := 0, locals := 18 } : Room)) (fun a_ U_ => a_ = #[(.ref a), (.ref t7)] ∧ Z.Warmed39 U_.vm ∧ U_.heap = h0) (fun _ _ _ _ _ => True) (fun _ U_ o_ U'_ => ∃ v_ L_, o_ = .returned v_ ∧ own_Q_cp Z a t7 bs f g7 h0 n0 v_ U'_.heap L_ ∧ FrameEnd U_ o_ U'_ L_ ({ frames := 1, cells := 0, slots := 0, locals := 18 } : Room).cells ({ frames := 1, cells := 0, slots := 0, locals := 18 } : Room).slots) := by
  refine MetFree.of_bodySF (plainFor_of_name own_pn_com_example_rowgate_rowgate_StoredValue) hisR ?_
  intro p e s m args below meth c s₁ Bd hml0 hP hK
  obtain ⟨rfl, hZ, hh⟩ := hP
  have hx := Bd.exec
  have hby := Bd.bytes
  have hlk : meth.locks = false := BodyLoose.notSynchronized Bd
  have hml : c.maxLocals = 2 := hml0
  have hown : s.vm.findClass "com/example/rowgate/rowgate/StoredValue" = some m.cls := findClass_of_methodNamed Bd.named
  have hnm := (name_of_methodNamed Bd.named Bd.method).1
  have X0 : Stand p l e ({ frames := 1, cells := 0, slots := 0, locals := 18 } : Room) s m #[(.ref a), (.ref t7)] below meth c s₁ [] 0 0 := Stand.of_body Bd
  have e0 : s₁.heap = h0 := by rw [← hh, Bd.state]; rfl
  have N0 := Fr.nil n0
  show own_Goes p e below (own_K (own_Q_cp Z a t7 bs f g7 h0 n0) s ({ frames := 1, cells := 0, slots := 0, locals := 18 } : Room).cells ({ frames := 1, cells := 0, slots := 0, locals := 18 } : Room).slots) s₁ (entryFrame m #[(.ref a), (.ref t7)] 2)
  rw [own_ef_cp]
  have K0 := Keep.refl h0 [t7]
  refine own_by (T' := s₁) (g' := (mkF m 1 #[.val (.ref a), .val (.ref t7)] [(.ref a)])) (fun t_ k_ => XS.aloadN X0.here hx rfl (hb hby own_d_cp_0) rfl rfl k_) ?_
  obtain ⟨T1, X1, e1, st1⟩ := getF X0 hx hZ hown (host := "") (Or.inl (hw _ (List.mem_of_getElem? (i := 11) rfl))) Via.refl e0 F0 (g := (mkF m 1 #[.val (.ref a), .val (.ref t7)] [(.ref a)])) rfl rfl (hb hby own_d_cp_1)
  refine own_by (T' := T1) (g' := (mkF m 4 #[.val (.ref a), .val (.ref t7)] [(.ref bs)])) st1 ?_
  refine own_by (T' := T1) (g' := (mkF m 7 #[.val (.ref a), .val (.ref t7)] [])) (fun t_ k_ => XS.ifnullNo X1.here hx rfl (hb hby own_d_cp_4) rfl k_) ?_
  refine own_by (T' := T1) (g' := (mkF m 8 #[.val (.ref a), .val (.ref t7)] [(.ref a)])) (fun t_ k_ => XS.aloadN X1.here hx rfl (hb hby own_d_cp_7) rfl rfl k_) ?_
  obtain ⟨T2, X2, e2, st2⟩ := getF X1 hx hZ hown (host := "") (Or.inl (hw _ (List.mem_of_getElem? (i := 11) rfl))) Via.refl e1 F0 (g := (mkF m 8 #[.val (.ref a), .val (.ref t7)] [(.ref a)])) rfl rfl (hb hby own_d_cp_8)
  refine own_by (T' := T2) (g' := (mkF m 11 #[.val (.ref a), .val (.ref t7)] [(.ref bs)])) st2 ?_
  refine own_by (T' := T2) (g' := (mkF m 12 #[.val (.ref a), .val (.ref t7)] [(.int (0 : Int32)), (.ref bs)])) (fun t_ k_ => XS.iconst X2.here hx rfl (hb hby own_d_cp_11) k_) ?_
  refine own_by (T' := T2) (g' := (mkF m 13 #[.val (.ref a), .val (.ref t7)] [(.ref t7), (.int (0 : Int32)), (.ref bs)])) (fun t_ k_ => XS.aloadN X2.here hx rfl (hb hby own_d_cp_12) rfl rfl k_) ?_
  refine own_by (T' := T2) (g' := (mkF m 14 #[.val (.ref a), .val (.ref t7)] [(.int (0 : Int32)), (.ref t7), (.int (0 : Int32)), (.ref bs)])) (fun t_ k_ => XS.iconst X2.here hx rfl (hb hby own_d_cp_13) k_) ?_
  refine own_by (T' := T2) (g' := (mkF m 15 #[.val (.ref a), .val (.ref t7)] [(.ref a), (.int (0 : Int32)), (.ref t7), (.int (0 : Int32)), (.ref bs)])) (fun t_ k_ => XS.aloadN X2.here hx rfl (hb hby own_d_cp_14) rfl rfl k_) ?_
  obtain ⟨T3, X3, e3, st3⟩ := getF X2 hx hZ hown (host := "") (Or.inl (hw _ (List.mem_of_getElem? (i := 17) rfl))) Via.refl e2 F1 (g := (mkF m 15 #[.val (.ref a), .val (.ref t7)] [(.ref a), (.int (0 : Int32)), (.ref t7), (.int (0 : Int32)), (.ref bs)])) rfl rfl (hb hby own_d_cp_15)
  refine own_by (T' := T3) (g' := (mkF m 18 #[.val (.ref a), .val (.ref t7)] [(.int (4 : Int32)), (.int (0 : Int32)), (.ref t7), (.int (0 : Int32)), (.ref bs)])) st3 ?_
  obtain ⟨T4, h4, L4, X4, e4, N4, Kc4, Vc4, st4⟩ := own_cp X3 hx hZ hown (hw _ (List.mem_of_getElem? (i := 38) rfl)) (hw _ (List.mem_of_getElem? (i := 41) rfl)) (hw _ (List.mem_of_getElem? (i := 39) rfl)) (hw _ (List.mem_of_getElem? (i := 40) rfl)) e3 V0 V1 rfl (by decide) (by decide) (sp := (0 : Int32)) (dp := (0 : Int32)) (nn := (4 : Int32)) (by decide) (by decide) (by decide) (by decide) (by decide) N0 G1 (g := (mkF m 18 #[.val (.ref a), .val (.ref t7)] [(.int (4 : Int32)), (.int (0 : Int32)), (.ref t7), (.int (0 : Int32)), (.ref bs)])) rfl (by rw [hml]; rfl) rfl (hb hby own_d_cp_18) (by decide) (W := 0) (by show 2 * 0 + _ ≤ _; exact Nat.le_of_eq rfl) (by decide)
  have Vd4 : own_Ia Z h4 t7 .byte 7 (fun i => if 0 ≤ i ∧ i < 4 then f (0 + (i - 0)) else g7 i) := Vc4
  have f5 := Nat.le_trans Z0 Kc4.1
  have f6 := Fld.keep F0 Kc4 (ninS n1 nin0)
  have f7 := Fld.keep F1 Kc4 (ninS n1 nin0)
  have f8 := Exa.keep E0 Kc4
  have f9 := own_Ia_keep Kc4 V0 (ninS n2 nin0)
  have f10 := Keep.trans K0 Kc4 (allS (Or.inl (List.mem_of_getElem? (i := 0) rfl)) all0)
  refine own_by (T' := T4) (g' := (mkF m 21 #[.val (.ref a), .val (.ref t7)] [])) st4 ?_
  refine own_ret0 X4 hx Bd.returns hlk (hb hby own_d_cp_21) (by decide) (by decide) ?_
  rw [e4]
  exact ⟨rfl, N4, f10, Vd4⟩
theorem own_pd1 : parseMethodDescriptor "([BI)V" = some ⟨[(.array .byte), .int], none⟩ := by decide +kernel
theorem own_d_ad0_0 : decode prog_43_method_10_code 0 = .ok (.aload_n 0, 1) := by decide +kernel
theorem own_d_ad0_1 : decode prog_43_method_10_code 1 = .ok (.getfield 26, 3) := by decide +kernel
theorem own_d_ad0_4 : decode prog_43_method_10_code 4 = .ok (.aload_n 1, 1) := by decide +kernel
theorem own_d_ad0_5 : decode prog_43_method_10_code 5 = .ok (.arraylength, 1) := by decide +kernel
theorem own_d_ad0_6 : decode prog_43_method_10_code 6 = .ok (.iadd, 1) := by decide +kernel
theorem own_d_ad0_7 : decode prog_43_method_10_code 7 = .ok (.istore_n 2, 1) := by decide +kernel
theorem own_d_ad0_8 : decode prog_43_method_10_code 8 = .ok (.aload_n 0, 1) := by decide +kernel
theorem own_d_ad0_9 : decode prog_43_method_10_code 9 = .ok (.getfield 14, 3) := by decide +kernel
theorem own_d_ad0_12 : decode prog_43_method_10_code 12 = .ok (.ifnull 40, 3) := by decide +kernel
theorem own_d_ad0_15 : decode prog_43_method_10_code 15 = .ok (.iload_n 2, 1) := by decide +kernel
theorem own_d_ad0_16 : decode prog_43_method_10_code 16 = .ok (.aload_n 0, 1) := by decide +kernel
theorem own_d_ad0_17 : decode prog_43_method_10_code 17 = .ok (.getfield 14, 3) := by decide +kernel
theorem own_d_ad0_20 : decode prog_43_method_10_code 20 = .ok (.arraylength, 1) := by decide +kernel
theorem own_d_ad0_21 : decode prog_43_method_10_code 21 = .ok (.if_icmp .gt 31, 3) := by decide +kernel
theorem own_d_ad0_24 : decode prog_43_method_10_code 24 = .ok (.aload_n 1, 1) := by decide +kernel
theorem own_d_ad0_25 : decode prog_43_method_10_code 25 = .ok (.iconst 0, 1) := by decide +kernel
theorem own_d_ad0_26 : decode prog_43_method_10_code 26 = .ok (.aload_n 0, 1) := by decide +kernel
theorem own_d_ad0_27 : decode prog_43_method_10_code 27 = .ok (.getfield 14, 3) := by decide +kernel
theorem own_d_ad0_30 : decode prog_43_method_10_code 30 = .ok (.aload_n 0, 1) := by decide +kernel
theorem own_d_ad0_31 : decode prog_43_method_10_code 31 = .ok (.getfield 26, 3) := by decide +kernel
theorem own_d_ad0_34 : decode prog_43_method_10_code 34 = .ok (.aload_n 1, 1) := by decide +kernel
theorem own_d_ad0_35 : decode prog_43_method_10_code 35 = .ok (.arraylength, 1) := by decide +kernel
theorem own_d_ad0_36 : decode prog_43_method_10_code 36 = .ok (.invokestatic 45, 3) := by decide +kernel
theorem own_d_ad0_39 : decode prog_43_method_10_code 39 = .ok (.new 4, 3) := by decide +kernel
theorem own_d_ad0_42 : decode prog_43_method_10_code 42 = .ok (.dup, 1) := by decide +kernel
theorem own_d_ad0_43 : decode prog_43_method_10_code 43 = .ok (.aload_n 0, 1) := by decide +kernel
theorem own_d_ad0_44 : decode prog_43_method_10_code 44 = .ok (.getfield 14, 3) := by decide +kernel
theorem own_d_ad0_47 : decode prog_43_method_10_code 47 = .ok (.iload_n 2, 1) := by decide +kernel
theorem own_d_ad0_48 : decode prog_43_method_10_code 48 = .ok (.invokespecial 3, 3) := by decide +kernel
theorem own_d_ad0_51 : decode prog_43_method_10_code 51 = .ok (.areturn, 1) := by decide +kernel
theorem own_ef_ad0 (m : MethodId) (a : Addr) (xt : Addr) : entryFrame m #[(.ref a), (.ref xt)] 5 = mkF m 0 #[.val (.ref a), .val (.ref xt), .unset, .unset, .unset] [] := by first | (simp [entryFrame, mkF, argsToLocals, Value.category]; done) | rfl
def own_Q_ad0 (Z : State) (a : Addr) (xt : Addr) (bs : Addr) (f : Nat → Int32) (xf : Nat → Int32) (h0 : Heap) (n0 : Nat) (v : Option Value) (h : Heap) (L : List Loc) : Prop := ∃ (ww : Addr), v = some (.ref ww) ∧ Fr n0 L ∧ Keep h0 h [bs] ∧ Exa Z h ww "com/example/rowgate/rowgate/StoredValue" ∧ Fld Z h ww "com/example/rowgate/rowgate/StoredValue" "bytes" "[B" (.ref bs) ∧ Fld Z h ww "com/example/rowgate/rowgate/StoredValue" "length" "I" (.int (1 : Int32)) ∧ own_Ia Z h bs .byte 4 (fun i => if 0 ≤ i ∧ i < 1 then xf (0 + (i - 0)) else f i)
set_option maxRecDepth 65536 in
set_option maxHeartbeats 40000000 in
theorem own_rm_ad0 (l : Launch) (Z : State) (a0 : Array Value) (hw : ∀ d ∈ tables_1, d.before a0 Z = true) (ws : List Jvm.Cond) (a : Addr) (xt : Addr) (bs : Addr) (f : Nat → Int32) (xf : Nat → Int32) (h0 : Heap) (n0 : Nat) (Z0 : n0 ≤ h0.size) (F0 : Fld Z h0 a "com/example/rowgate/rowgate/StoredValue" "bytes" "[B" (.ref bs)) (F1 : Fld Z h0 a "com/example/rowgate/rowgate/StoredValue" "length" "I" (.int (0 : Int32))) (E0 : Exa Z h0 a "com/example/rowgate/rowgate/StoredValue") (V0 : own_Ia Z h0 bs .byte 4 f) (V1 : own_Ia Z h0 xt .byte 1 xf) (G1 : n0 ≤ bs) (n1 : a ≠ bs) (n2 : xt ≠ bs) :
    MetFree l (⟨"com/example/rowgate/rowgate/StoredValue", "appended", "([B)Lcom/example/rowgate/rowgate/StoredValue;"⟩ : MethodName) (head1 (Jvm.Cond.code (⟨"com/example/rowgate/rowgate/StoredValue", "appended", "([B)Lcom/example/rowgate/rowgate/StoredValue;"⟩ : MethodName) prog_43_method_10_code 5 (some (.object "com/example/rowgate/rowgate/StoredValue")) :: ws) ({ frames := 2, cells := 1, slots := 4, locals := 27 } : Room)) (fun a_ U_ => a_ = #[(.ref a), (.ref xt)] ∧ Z.Warmed39 U_.vm ∧ U_.heap = h0) (fun _ _ _ _ _ => True) (fun _ U_ o_ U'_ => ∃ v_ L_, o_ = .returned v_ ∧ own_Q_ad0 Z a xt bs f xf h0 n0 v_ U'_.heap L_ ∧ FrameEnd U_ o_ U'_ L_ ({ frames := 2, cells := 1, slots := 4, locals := 27 } : Room).cells ({ frames := 2, cells := 1, slots := 4, locals := 27 } : Room).slots) := by
  refine MetFree.of_bodySF (plainFor_of_name own_pn_com_example_rowgate_rowgate_StoredValue) hisR ?_
  intro p e s m args below meth c s₁ Bd hml0 hP hK
  obtain ⟨rfl, hZ, hh⟩ := hP
  have hx := Bd.exec
  have hby := Bd.bytes
  have hlk : meth.locks = false := BodyLoose.notSynchronized Bd
  have hml : c.maxLocals = 5 := hml0
  have hown : s.vm.findClass "com/example/rowgate/rowgate/StoredValue" = some m.cls := findClass_of_methodNamed Bd.named
  have hnm := (name_of_methodNamed Bd.named Bd.method).1
  have X0 : Stand p l e ({ frames := 2, cells := 1, slots := 4, locals := 27 } : Room) s m #[(.ref a), (.ref xt)] below meth c s₁ [] 0 0 := Stand.of_body Bd
  have e0 : s₁.heap = h0 := by rw [← hh, Bd.state]; rfl
  have N0 := Fr.nil n0
  show own_Goes p e below (own_K (own_Q_ad0 Z a xt bs f xf h0 n0) s ({ frames := 2, cells := 1, slots := 4, locals := 27 } : Room).cells ({ frames := 2, cells := 1, slots := 4, locals := 27 } : Room).slots) s₁ (entryFrame m #[(.ref a), (.ref xt)] 5)
  rw [own_ef_ad0]
  have K0 := Keep.refl h0 [bs]
  refine own_by (T' := s₁) (g' := (mkF m 1 #[.val (.ref a), .val (.ref xt), .unset, .unset, .unset] [(.ref a)])) (fun t_ k_ => XS.aloadN X0.here hx rfl (hb hby own_d_ad0_0) rfl rfl k_) ?_
  obtain ⟨T1, X1, e1, st1⟩ := getF X0 hx hZ hown (host := "") (Or.inl (hw _ (List.mem_of_getElem? (i := 17) rfl))) Via.refl e0 F1 (g := (mkF m 1 #[.val (.ref a), .val (.ref xt), .unset, .unset, .unset] [(.ref a)])) rfl rfl (hb hby own_d_ad0_1)
  refine own_by (T' := T1) (g' := (mkF m 4 #[.val (.ref a), .val (.ref xt), .unset, .unset, .unset] [(.int (0 : Int32))])) st1 ?_
  refine own_by (T' := T1) (g' := (mkF m 5 #[.val (.ref a), .val (.ref xt), .unset, .unset, .unset] [(.ref xt), (.int (0 : Int32))])) (fun t_ k_ => XS.aloadN X1.here hx rfl (hb hby own_d_ad0_4) rfl rfl k_) ?_
  refine own_by (T' := T1) (g' := (mkF m 6 #[.val (.ref a), .val (.ref xt), .unset, .unset, .unset] [(.int (1 : Int32)), (.int (0 : Int32))])) (fun t_ k_ => own_alen X1 hx hZ e1 V1 (z := (1 : Int32)) rfl (g := (mkF m 5 #[.val (.ref a), .val (.ref xt), .unset, .unset, .unset] [(.ref xt), (.int (0 : Int32))])) rfl rfl (hb hby own_d_ad0_5) _ k_) ?_
  refine own_by (T' := T1) (g' := (mkF m 7 #[.val (.ref a), .val (.ref xt), .unset, .unset, .unset] [(.int (1 : Int32))])) (fun t_ k_ => XS.iadd X1.here hx rfl (hb hby own_d_ad0_6) rfl k_) ?_
  refine own_by (T' := T1) (g' := (mkF m 8 #[.val (.ref a), .val (.ref xt), .val (.int (1 : Int32)), .unset, .unset] [])) (fun t_ k_ => XS.istoreN X1.here hx rfl (hb hby own_d_ad0_7) rfl (l' := #[.val (.ref a), .val (.ref xt), .val (.int (1 : Int32)), .unset, .unset]) rfl k_) ?_
  refine own_by (T' := T1) (g' := (mkF m 9 #[.val (.ref a), .val (.ref xt), .val (.int (1 : Int32)), .unset, .unset] [(.ref a)])) (fun t_ k_ => XS.aloadN X1.here hx rfl (hb hby own_d_ad0_8) rfl rfl k_) ?_
  obtain ⟨T2, X2, e2, st2⟩ := getF X1 hx hZ hown (host := "") (Or.inl (hw _ (List.mem_of_getElem? (i := 11) rfl))) Via.refl e1 F0 (g := (mkF m 9 #[.val (.ref a), .val (.ref xt), .val (.int (1 : Int32)), .unset, .unset] [(.ref a)])) rfl rfl (hb hby own_d_ad0_9)
  refine own_by (T' := T2) (g' := (mkF m 12 #[.val (.ref a), .val (.ref xt), .val (.int (1 : Int32)), .unset, .unset] [(.ref bs)])) st2 ?_
  refine own_by (T' := T2) (g' := (mkF m 15 #[.val (.ref a), .val (.ref xt), .val (.int (1 : Int32)), .unset, .unset] [])) (fun t_ k_ => XS.ifnullNo X2.here hx rfl (hb hby own_d_ad0_12) rfl k_) ?_
  refine own_by (T' := T2) (g' := (mkF m 16 #[.val (.ref a), .val (.ref xt), .val (.int (1 : Int32)), .unset, .unset] [(.int (1 : Int32))])) (fun t_ k_ => XS.iloadN X2.here hx rfl (hb hby own_d_ad0_15) rfl k_) ?_
  refine own_by (T' := T2) (g' := (mkF m 17 #[.val (.ref a), .val (.ref xt), .val (.int (1 : Int32)), .unset, .unset] [(.ref a), (.int (1 : Int32))])) (fun t_ k_ => XS.aloadN X2.here hx rfl (hb hby own_d_ad0_16) rfl rfl k_) ?_
  obtain ⟨T3, X3, e3, st3⟩ := getF X2 hx hZ hown (host := "") (Or.inl (hw _ (List.mem_of_getElem? (i := 11) rfl))) Via.refl e2 F0 (g := (mkF m 17 #[.val (.ref a), .val (.ref xt), .val (.int (1 : Int32)), .unset, .unset] [(.ref a), (.int (1 : Int32))])) rfl rfl (hb hby own_d_ad0_17)
  refine own_by (T' := T3) (g' := (mkF m 20 #[.val (.ref a), .val (.ref xt), .val (.int (1 : Int32)), .unset, .unset] [(.ref bs), (.int (1 : Int32))])) st3 ?_
  refine own_by (T' := T3) (g' := (mkF m 21 #[.val (.ref a), .val (.ref xt), .val (.int (1 : Int32)), .unset, .unset] [(.int (4 : Int32)), (.int (1 : Int32))])) (fun t_ k_ => own_alen X3 hx hZ e3 V0 (z := (4 : Int32)) rfl (g := (mkF m 20 #[.val (.ref a), .val (.ref xt), .val (.int (1 : Int32)), .unset, .unset] [(.ref bs), (.int (1 : Int32))])) rfl rfl (hb hby own_d_ad0_20) _ k_) ?_
  refine own_by (T' := T3) (g' := (mkF m 24 #[.val (.ref a), .val (.ref xt), .val (.int (1 : Int32)), .unset, .unset] [])) (fun t_ k_ => XS.icmpNo X3.here hx rfl (hb hby own_d_ad0_21) rfl (flt ((by decide) : ¬ ((4 : Int32) < (1 : Int32)))).2.2.1 k_) ?_
  refine own_by (T' := T3) (g' := (mkF m 25 #[.val (.ref a), .val (.ref xt), .val (.int (1 : Int32)), .unset, .unset] [(.ref xt)])) (fun t_ k_ => XS.aloadN X3.here hx rfl (hb hby own_d_ad0_24) rfl rfl k_) ?_
  refine own_by (T' := T3) (g' := (mkF m 26 #[.val (.ref a), .val (.ref xt), .val (.int (1 : Int32)), .unset, .unset] [(.int (0 : Int32)), (.ref xt)])) (fun t_ k_ => XS.iconst X3.here hx rfl (hb hby own_d_ad0_25) k_) ?_
  refine own_by (T' := T3) (g' := (mkF m 27 #[.val (.ref a), .val (.ref xt), .val (.int (1 : Int32)), .unset, .unset] [(.ref a), (.int (0 : Int32)), (.ref xt)])) (fun t_ k_ => XS.aloadN X3.here hx rfl (hb hby own_d_ad0_26) rfl rfl k_) ?_
  obtain ⟨T4, X4, e4, st4⟩ := getF X3 hx hZ hown (host := "") (Or.inl (hw _ (List.mem_of_getElem? (i := 11) rfl))) Via.refl e3 F0 (g := (mkF m 27 #[.val (.ref a), .val (.ref xt), .val (.int (1 : Int32)), .unset, .unset] [(.ref a), (.int (0 : Int32)), (.ref xt)])) rfl rfl (hb hby own_d_ad0_27)
  refine own_by (T' := T4) (g' := (mkF m 30 #[.val (.ref a), .val (.ref xt), .val (.int (1 : Int32)), .unset, .unset] [(.ref bs), (.int (0 : Int32)), (.ref xt)])) st4 ?_
  refine own_by (T' := T4) (g' := (mkF m 31 #[.val (.ref a), .val (.ref xt), .val (.int (1 : Int32)), .unset, .unset] [(.ref a), (.ref bs), (.int (0 : Int32)), (.ref xt)])) (fun t_ k_ => XS.aloadN X4.here hx rfl (hb hby own_d_ad0_30) rfl rfl k_) ?_
  obtain ⟨T5, X5, e5, st5⟩ := getF X4 hx hZ hown (host := "") (Or.inl (hw _ (List.mem_of_getElem? (i := 17) rfl))) Via.refl e4 F1 (g := (mkF m 31 #[.val (.ref a), .val (.ref xt), .val (.int (1 : Int32)), .unset, .unset] [(.ref a), (.ref bs), (.int (0 : Int32)), (.ref xt)])) rfl rfl (hb hby own_d_ad0_31)
  refine own_by (T' := T5) (g' := (mkF m 34 #[.val (.ref a), .val (.ref xt), .val (.int (1 : Int32)), .unset, .unset] [(.int (0 : Int32)), (.ref bs), (.int (0 : Int32)), (.ref xt)])) st5 ?_
  refine own_by (T' := T5) (g' := (mkF m 35 #[.val (.ref a), .val (.ref xt), .val (.int (1 : Int32)), .unset, .unset] [(.ref xt), (.int (0 : Int32)), (.ref bs), (.int (0 : Int32)), (.ref xt)])) (fun t_ k_ => XS.aloadN X5.here hx rfl (hb hby own_d_ad0_34) rfl rfl k_) ?_
  refine own_by (T' := T5) (g' := (mkF m 36 #[.val (.ref a), .val (.ref xt), .val (.int (1 : Int32)), .unset, .unset] [(.int (1 : Int32)), (.int (0 : Int32)), (.ref bs), (.int (0 : Int32)), (.ref xt)])) (fun t_ k_ => own_alen X5 hx hZ e5 V1 (z := (1 : Int32)) rfl (g := (mkF m 35 #[.val (.ref a), .val (.ref xt), .val (.int (1 : Int32)), .unset, .unset] [(.ref xt), (.int (0 : Int32)), (.ref bs), (.int (0 : Int32)), (.ref xt)])) rfl rfl (hb hby own_d_ad0_35) _ k_) ?_
  obtain ⟨T6, h6, L6, X6, e6, N6, Kc6, Vc6, st6⟩ := own_cp X5 hx hZ hown (hw _ (List.mem_of_getElem? (i := 38) rfl)) (hw _ (List.mem_of_getElem? (i := 41) rfl)) (hw _ (List.mem_of_getElem? (i := 39) rfl)) (hw _ (List.mem_of_getElem? (i := 40) rfl)) e5 V1 V0 rfl (by decide) (by decide) (sp := (0 : Int32)) (dp := (0 : Int32)) (nn := (1 : Int32)) (by decide) (by decide) (by decide) (by decide) (by decide) N0 G1 (g := (mkF m 36 #[.val (.ref a), .val (.ref xt), .val (.int (1 : Int32)), .unset, .unset] [(.int (1 : Int32)), (.int (0 : Int32)), (.ref bs), (.int (0 : Int32)), (.ref xt)])) rfl (by rw [hml]; rfl) rfl (hb hby own_d_ad0_36) (by decide) (W := 0) (by show 2 * 0 + _ ≤ _; exact Nat.le_of_eq rfl) (by decide)
  have Vd6 : own_Ia Z h6 bs .byte 4 (fun i => if 0 ≤ i ∧ i < 1 then xf (0 + (i - 0)) else f i) := Vc6
  have f7 := Nat.le_trans Z0 Kc6.1
  have f8 := Fld.keep F0 Kc6 (ninS n1 nin0)
  have f9 := Fld.keep F1 Kc6 (ninS n1 nin0)
  have f10 := Exa.keep E0 Kc6
  have f11 := own_Ia_keep Kc6 V1 (ninS n2 nin0)
  have f12 := Keep.trans K0 Kc6 (allS (Or.inl (List.mem_of_getElem? (i := 0) rfl)) all0)
  refine own_by (T' := T6) (g' := (mkF m 39 #[.val (.ref a), .val (.ref xt), .val (.int (1 : Int32)), .unset, .unset] [])) st6 ?_
  obtain ⟨T13, h13, X13, e13, E13, A13, D13, -, st13⟩ := newO X6 hx hZ hown (hw _ (List.mem_of_getElem? (i := 42) rfl)) (hw _ (List.mem_of_getElem? (i := 3) rfl)) (hw _ (List.mem_of_getElem? (i := 4) rfl)) e6 (g := (mkF m 39 #[.val (.ref a), .val (.ref xt), .val (.int (1 : Int32)), .unset, .unset] [])) rfl (hb hby own_d_ad0_39) (by decide) (by decide)
  obtain ⟨b13, g13⟩ : ∃ z, z = h6.size := ⟨_, rfl⟩
  rw [← g13] at A13 D13 st13
  have g_b13 : n0 ≤ b13 := Nat.le_trans f7 (Nat.le_of_eq g13.symm)
  have ne14 : a ≠ b13 := Nat.ne_of_lt (Nat.lt_of_lt_of_le f8.lt (Nat.le_of_eq g13.symm))
  have ne15 : xt ≠ b13 := Nat.ne_of_lt (Nat.lt_of_lt_of_le (own_Ia_lt f11) (Nat.le_of_eq g13.symm))
  have ne16 : bs ≠ b13 := Nat.ne_of_lt (Nat.lt_of_lt_of_le (own_Ia_lt Vd6) (Nat.le_of_eq g13.symm))
  have k_b13 : h0.size ≤ b13 := Nat.le_trans f12.1 (Nat.le_of_eq g13.symm)
  have f17 := Nat.le_trans f7 E13.1
  have f18 := Fld.ext E13 f8
  have f19 := Fld.ext E13 f9
  have f20 := Exa.ext E13 f10
  have f21 := own_Ia_ext E13 f11
  have f22 := f12.ext E13
  have f23 := own_Ia_ext E13 Vd6
  have F13_bytes : Fld Z h13 b13 "com/example/rowgate/rowgate/StoredValue" "bytes" "[B" .null := D13 (Or.inr (hw _ (List.mem_of_getElem? (i := 12) rfl))) (ty := (.array .byte)) (by decide)
  have F13_file : Fld Z h13 b13 "com/example/rowgate/rowgate/StoredValue" "file" "Lcom/example/rowgate/rowgate/StoredValue$FileBytes;" .null := D13 (Or.inr (hw _ (List.mem_of_getElem? (i := 14) rfl))) (ty := (.object "com/example/rowgate/rowgate/StoredValue$FileBytes")) (by decide)
  have F13_offset : Fld Z h13 b13 "com/example/rowgate/rowgate/StoredValue" "offset" "J" (.long (0 : Int64)) := D13 (Or.inr (hw _ (List.mem_of_getElem? (i := 16) rfl))) (ty := .long) (by decide)
  have F13_length : Fld Z h13 b13 "com/example/rowgate/rowgate/StoredValue" "length" "I" (.int (0 : Int32)) := D13 (Or.inr (hw _ (List.mem_of_getElem? (i := 18) rfl))) (ty := .int) (by decide)
  refine own_by (T' := T13) (g' := (mkF m 42 #[.val (.ref a), .val (.ref xt), .val (.int (1 : Int32)), .unset, .unset] [(.ref b13)])) st13 ?_
  refine own_by (T' := T13) (g' := (mkF m 43 #[.val (.ref a), .val (.ref xt), .val (.int (1 : Int32)), .unset, .unset] [(.ref b13), (.ref b13)])) (fun t_ k_ => XS.dup X13.here hx rfl (hb hby own_d_ad0_42) rfl rfl k_) ?_
  refine own_by (T' := T13) (g' := (mkF m 44 #[.val (.ref a), .val (.ref xt), .val (.int (1 : Int32)), .unset, .unset] [(.ref a), (.ref b13), (.ref b13)])) (fun t_ k_ => XS.aloadN X13.here hx rfl (hb hby own_d_ad0_43) rfl rfl k_) ?_
  obtain ⟨T24, X24, e24, st24⟩ := getF X13 hx hZ hown (host := "") (Or.inl (hw _ (List.mem_of_getElem? (i := 11) rfl))) Via.refl e13 f18 (g := (mkF m 44 #[.val (.ref a), .val (.ref xt), .val (.int (1 : Int32)), .unset, .unset] [(.ref a), (.ref b13), (.ref b13)])) rfl rfl (hb hby own_d_ad0_44)
  refine own_by (T' := T24) (g' := (mkF m 47 #[.val (.ref a), .val (.ref xt), .val (.int (1 : Int32)), .unset, .unset] [(.ref bs), (.ref b13), (.ref b13)])) st24 ?_
  refine own_by (T' := T24) (g' := (mkF m 48 #[.val (.ref a), .val (.ref xt), .val (.int (1 : Int32)), .unset, .unset] [(.int (1 : Int32)), (.ref bs), (.ref b13), (.ref b13)])) (fun t_ k_ => XS.iloadN X24.here hx rfl (hb hby own_d_ad0_47) rfl k_) ?_
  obtain ⟨_, T25, L25, X25, hQ25, st25⟩ := own_callI X24 hx hZ (y := (⟨"com/example/rowgate/rowgate/StoredValue", "<init>", "([BI)V"⟩ : MethodName)) rfl hown (hw _ (List.mem_of_getElem? (i := 43) rfl)) (hw _ (List.mem_of_getElem? (i := 6) rfl)) (hw _ (List.mem_of_getElem? (i := 4) rfl)) (hw _ (List.mem_of_getElem? (i := 7) rfl)) (by decide) (argsL := [(.ref bs), (.int (1 : Int32))]) (rest := [(.ref b13)]) (own_rm_svI l Z a0 hw [] b13 bs (1 : Int32) h13 n0 f17 A13 g_b13 F13_bytes F13_file F13_offset F13_length) e24 (W := 1) (by decide) (by decide) (by decide) (by decide) (g := (mkF m 48 #[.val (.ref a), .val (.ref xt), .val (.int (1 : Int32)), .unset, .unset] [(.int (1 : Int32)), (.ref bs), (.ref b13), (.ref b13)])) rfl (by rw [hml]; rfl) (lenOf own_pd1 rfl) rfl (by show 2 * 0 + _ ≤ _; exact Nat.le_of_eq rfl) (hb hby own_d_ad0_48)
  obtain ⟨rfl, Nq25, Kq25, Eq25, Fq25_bytes, Fq25_file, Fq25_offset, Fq25_length⟩ := hQ25
  have N25 := Fr.app N6 Nq25
  have f26 := Nat.le_trans f17 Kq25.1
  have f27 := Fld.keep f18 Kq25 (ninS ne14 nin0)
  have f28 := Fld.keep f19 Kq25 (ninS ne14 nin0)
  have f29 := Exa.keep f20 Kq25
  have f30 := own_Ia_keep Kq25 f21 (ninS ne15 nin0)
  have f31 := Keep.trans f22 Kq25 (allS (Or.inr k_b13) all0)
  have f32 := own_Ia_keep Kq25 f23 (ninS ne16 nin0)
  have f33 := Exa.keep A13 Kq25
  refine st25 _ ?_
  show own_Goes p e below _ T25 (mkF m 51 #[.val (.ref a), .val (.ref xt), .val (.int (1 : Int32)), .unset, .unset] [(.ref b13)])
  refine own_retR X25 hx Bd.returns hlk rfl rfl (hb hby own_d_ad0_51) (by decide) (by decide) ?_
  exact ⟨b13, rfl, N25, f31, f33, Fq25_bytes, Fq25_length, f32⟩
theorem own_d_ad1_0 : decode prog_43_method_10_code 0 = .ok (.aload_n 0, 1) := by decide +kernel
theorem own_d_ad1_1 : decode prog_43_method_10_code 1 = .ok (.getfield 26, 3) := by decide +kernel
theorem own_d_ad1_4 : decode prog_43_method_10_code 4 = .ok (.aload_n 1, 1) := by decide +kernel
theorem own_d_ad1_5 : decode prog_43_method_10_code 5 = .ok (.arraylength, 1) := by decide +kernel
theorem own_d_ad1_6 : decode prog_43_method_10_code 6 = .ok (.iadd, 1) := by decide +kernel
theorem own_d_ad1_7 : decode prog_43_method_10_code 7 = .ok (.istore_n 2, 1) := by decide +kernel
theorem own_d_ad1_8 : decode prog_43_method_10_code 8 = .ok (.aload_n 0, 1) := by decide +kernel
theorem own_d_ad1_9 : decode prog_43_method_10_code 9 = .ok (.getfield 14, 3) := by decide +kernel
theorem own_d_ad1_12 : decode prog_43_method_10_code 12 = .ok (.ifnull 40, 3) := by decide +kernel
theorem own_d_ad1_15 : decode prog_43_method_10_code 15 = .ok (.iload_n 2, 1) := by decide +kernel
theorem own_d_ad1_16 : decode prog_43_method_10_code 16 = .ok (.aload_n 0, 1) := by decide +kernel
theorem own_d_ad1_17 : decode prog_43_method_10_code 17 = .ok (.getfield 14, 3) := by decide +kernel
theorem own_d_ad1_20 : decode prog_43_method_10_code 20 = .ok (.arraylength, 1) := by decide +kernel
theorem own_d_ad1_21 : decode prog_43_method_10_code 21 = .ok (.if_icmp .gt 31, 3) := by decide +kernel
theorem own_d_ad1_24 : decode prog_43_method_10_code 24 = .ok (.aload_n 1, 1) := by decide +kernel
theorem own_d_ad1_25 : decode prog_43_method_10_code 25 = .ok (.iconst 0, 1) := by decide +kernel
theorem own_d_ad1_26 : decode prog_43_method_10_code 26 = .ok (.aload_n 0, 1) := by decide +kernel
theorem own_d_ad1_27 : decode prog_43_method_10_code 27 = .ok (.getfield 14, 3) := by decide +kernel
theorem own_d_ad1_30 : decode prog_43_method_10_code 30 = .ok (.aload_n 0, 1) := by decide +kernel
theorem own_d_ad1_31 : decode prog_43_method_10_code 31 = .ok (.getfield 26, 3) := by decide +kernel
theorem own_d_ad1_34 : decode prog_43_method_10_code 34 = .ok (.aload_n 1, 1) := by decide +kernel
theorem own_d_ad1_35 : decode prog_43_method_10_code 35 = .ok (.arraylength, 1) := by decide +kernel
theorem own_d_ad1_36 : decode prog_43_method_10_code 36 = .ok (.invokestatic 45, 3) := by decide +kernel
theorem own_d_ad1_39 : decode prog_43_method_10_code 39 = .ok (.new 4, 3) := by decide +kernel
theorem own_d_ad1_42 : decode prog_43_method_10_code 42 = .ok (.dup, 1) := by decide +kernel
theorem own_d_ad1_43 : decode prog_43_method_10_code 43 = .ok (.aload_n 0, 1) := by decide +kernel
theorem own_d_ad1_44 : decode prog_43_method_10_code 44 = .ok (.getfield 14, 3) := by decide +kernel
theorem own_d_ad1_47 : decode prog_43_method_10_code 47 = .ok (.iload_n 2, 1) := by decide +kernel
theorem own_d_ad1_48 : decode prog_43_method_10_code 48 = .ok (.invokespecial 3, 3) := by decide +kernel
theorem own_d_ad1_51 : decode prog_43_method_10_code 51 = .ok (.areturn, 1) := by decide +kernel
theorem own_ef_ad1 (m : MethodId) (a : Addr) (xt : Addr) : entryFrame m #[(.ref a), (.ref xt)] 5 = mkF m 0 #[.val (.ref a), .val (.ref xt), .unset, .unset, .unset] [] := by first | (simp [entryFrame, mkF, argsToLocals, Value.category]; done) | rfl
def own_Q_ad1 (Z : State) (a : Addr) (xt : Addr) (bs : Addr) (f : Nat → Int32) (xf : Nat → Int32) (h0 : Heap) (n0 : Nat) (v : Option Value) (h : Heap) (L : List Loc) : Prop := ∃ (ww : Addr), v = some (.ref ww) ∧ Fr n0 L ∧ Keep h0 h [bs] ∧ Exa Z h ww "com/example/rowgate/rowgate/StoredValue" ∧ Fld Z h ww "com/example/rowgate/rowgate/StoredValue" "bytes" "[B" (.ref bs) ∧ Fld Z h ww "com/example/rowgate/rowgate/StoredValue" "length" "I" (.int (2 : Int32)) ∧ own_Ia Z h bs .byte 4 (fun i => if 1 ≤ i ∧ i < 2 then xf (0 + (i - 1)) else f i)
set_option maxRecDepth 65536 in
set_option maxHeartbeats 40000000 in
theorem own_rm_ad1 (l : Launch) (Z : State) (a0 : Array Value) (hw : ∀ d ∈ tables_1, d.before a0 Z = true) (ws : List Jvm.Cond) (a : Addr) (xt : Addr) (bs : Addr) (f : Nat → Int32) (xf : Nat → Int32) (h0 : Heap) (n0 : Nat) (Z0 : n0 ≤ h0.size) (F0 : Fld Z h0 a "com/example/rowgate/rowgate/StoredValue" "bytes" "[B" (.ref bs)) (F1 : Fld Z h0 a "com/example/rowgate/rowgate/StoredValue" "length" "I" (.int (1 : Int32))) (E0 : Exa Z h0 a "com/example/rowgate/rowgate/StoredValue") (V0 : own_Ia Z h0 bs .byte 4 f) (V1 : own_Ia Z h0 xt .byte 1 xf) (G1 : n0 ≤ bs) (n1 : a ≠ bs) (n2 : xt ≠ bs) :
    MetFree l (⟨"com/example/rowgate/rowgate/StoredValue", "appended", "([B)Lcom/example/rowgate/rowgate/StoredValue;"⟩ : MethodName) (head1 (Jvm.Cond.code (⟨"com/example/rowgate/rowgate/StoredValue", "appended", "([B)Lcom/example/rowgate/rowgate/StoredValue;"⟩ : MethodName) prog_43_method_10_code 5 (some (.object "com/example/rowgate/rowgate/StoredValue")) :: ws) ({ frames := 2, cells := 1, slots := 4, locals := 27 } : Room)) (fun a_ U_ => a_ = #[(.ref a), (.ref xt)] ∧ Z.Warmed39 U_.vm ∧ U_.heap = h0) (fun _ _ _ _ _ => True) (fun _ U_ o_ U'_ => ∃ v_ L_, o_ = .returned v_ ∧ own_Q_ad1 Z a xt bs f xf h0 n0 v_ U'_.heap L_ ∧ FrameEnd U_ o_ U'_ L_ ({ frames := 2, cells := 1, slots := 4, locals := 27 } : Room).cells ({ frames := 2, cells := 1, slots := 4, locals := 27 } : Room).slots) := by
  refine MetFree.of_bodySF (plainFor_of_name own_pn_com_example_rowgate_rowgate_StoredValue) hisR ?_
  intro p e s m args below meth c s₁ Bd hml0 hP hK
  obtain ⟨rfl, hZ, hh⟩ := hP
  have hx := Bd.exec
  have hby := Bd.bytes
  have hlk : meth.locks = false := BodyLoose.notSynchronized Bd
  have hml : c.maxLocals = 5 := hml0
  have hown : s.vm.findClass "com/example/rowgate/rowgate/StoredValue" = some m.cls := findClass_of_methodNamed Bd.named
  have hnm := (name_of_methodNamed Bd.named Bd.method).1
  have X0 : Stand p l e ({ frames := 2, cells := 1, slots := 4, locals := 27 } : Room) s m #[(.ref a), (.ref xt)] below meth c s₁ [] 0 0 := Stand.of_body Bd
  have e0 : s₁.heap = h0 := by rw [← hh, Bd.state]; rfl
  have N0 := Fr.nil n0
  show own_Goes p e below (own_K (own_Q_ad1 Z a xt bs f xf h0 n0) s ({ frames := 2, cells := 1, slots := 4, locals := 27 } : Room).cells ({ frames := 2, cells := 1, slots := 4, locals := 27 } : Room).slots) s₁ (entryFrame m #[(.ref a), (.ref xt)] 5)
  rw [own_ef_ad1]
  have K0 := Keep.refl h0 [bs]
  refine own_by (T' := s₁) (g' := (mkF m 1 #[.val (.ref a), .val (.ref xt), .unset, .unset, .unset] [(.ref a)])) (fun t_ k_ => XS.aloadN X0.here hx rfl (hb hby own_d_ad1_0) rfl rfl k_) ?_
  obtain ⟨T1, X1, e1, st1⟩ := getF X0 hx hZ hown (host := "") (Or.inl (hw _ (List.mem_of_getElem? (i := 17) rfl))) Via.refl e0 F1 (g := (mkF m 1 #[.val (.ref a), .val (.ref xt), .unset, .unset, .unset] [(.ref a)])) rfl rfl (hb hby own_d_ad1_1)
  refine own_by (T' := T1) (g' := (mkF m 4 #[.val (.ref a), .val (.ref xt), .unset, .unset, .unset] [(.int (1 : Int32))])) st1 ?_
  refine own_by (T' := T1) (g' := (mkF m 5 #[.val (.ref a), .val (.ref xt), .unset, .unset, .unset] [(.ref xt), (.int (1 : Int32))])) (fun t_ k_ => XS.aloadN X1.here hx rfl (hb hby own_d_ad1_4) rfl rfl k_) ?_
  refine own_by (T' := T1) (g' := (mkF m 6 #[.val (.ref a), .val (.ref xt), .unset, .unset, .unset] [(.int (1 : Int32)), (.int (1 : Int32))])) (fun t_ k_ => own_alen X1 hx hZ e1 V1 (z := (1 : Int32)) rfl (g := (mkF m 5 #[.val (.ref a), .val (.ref xt), .unset, .unset, .unset] [(.ref xt), (.int (1 : Int32))])) rfl rfl (hb hby own_d_ad1_5) _ k_) ?_
  refine own_by (T' := T1) (g' := (mkF m 7 #[.val (.ref a), .val (.ref xt), .unset, .unset, .unset] [(.int (2 : Int32))])) (fun t_ k_ => XS.iadd X1.here hx rfl (hb hby own_d_ad1_6) rfl k_) ?_
  refine own_by (T' := T1) (g' := (mkF m 8 #[.val (.ref a), .val (.ref xt), .val (.int (2 : Int32)), .unset, .unset] [])) (fun t_ k_ => XS.istoreN X1.here hx rfl (hb hby own_d_ad1_7) rfl (l' := #[.val (.ref a), .val (.ref xt), .val (.int (2 : Int32)), .unset, .unset]) rfl k_) ?_
  refine own_by (T' := T1) (g' := (mkF m 9 #[.val (.ref a), .val (.ref xt), .val (.int (2 : Int32)), .unset, .unset] [(.ref a)])) (fun t_ k_ => XS.aloadN X1.here hx rfl (hb hby own_d_ad1_8) rfl rfl k_) ?_
  obtain ⟨T2, X2, e2, st2⟩ := getF X1 hx hZ hown (host := "") (Or.inl (hw _ (List.mem_of_getElem? (i := 11) rfl))) Via.refl e1 F0 (g := (mkF m 9 #[.val (.ref a), .val (.ref xt), .val (.int (2 : Int32)), .unset, .unset] [(.ref a)])) rfl rfl (hb hby own_d_ad1_9)
  refine own_by (T' := T2) (g' := (mkF m 12 #[.val (.ref a), .val (.ref xt), .val (.int (2 : Int32)), .unset, .unset] [(.ref bs)])) st2 ?_
  refine own_by (T' := T2) (g' := (mkF m 15 #[.val (.ref a), .val (.ref xt), .val (.int (2 : Int32)), .unset, .unset] [])) (fun t_ k_ => XS.ifnullNo X2.here hx rfl (hb hby own_d_ad1_12) rfl k_) ?_
  refine own_by (T' := T2) (g' := (mkF m 16 #[.val (.ref a), .val (.ref xt), .val (.int (2 : Int32)), .unset, .unset] [(.int (2 : Int32))])) (fun t_ k_ => XS.iloadN X2.here hx rfl (hb hby own_d_ad1_15) rfl k_) ?_
  refine own_by (T' := T2) (g' := (mkF m 17 #[.val (.ref a), .val (.ref xt), .val (.int (2 : Int32)), .unset, .unset] [(.ref a), (.int (2 : Int32))])) (fun t_ k_ => XS.aloadN X2.here hx rfl (hb hby own_d_ad1_16) rfl rfl k_) ?_
  obtain ⟨T3, X3, e3, st3⟩ := getF X2 hx hZ hown (host := "") (Or.inl (hw _ (List.mem_of_getElem? (i := 11) rfl))) Via.refl e2 F0 (g := (mkF m 17 #[.val (.ref a), .val (.ref xt), .val (.int (2 : Int32)), .unset, .unset] [(.ref a), (.int (2 : Int32))])) rfl rfl (hb hby own_d_ad1_17)
  refine own_by (T' := T3) (g' := (mkF m 20 #[.val (.ref a), .val (.ref xt), .val (.int (2 : Int32)), .unset, .unset] [(.ref bs), (.int (2 : Int32))])) st3 ?_
  refine own_by (T' := T3) (g' := (mkF m 21 #[.val (.ref a), .val (.ref xt), .val (.int (2 : Int32)), .unset, .unset] [(.int (4 : Int32)), (.int (2 : Int32))])) (fun t_ k_ => own_alen X3 hx hZ e3 V0 (z := (4 : Int32)) rfl (g := (mkF m 20 #[.val (.ref a), .val (.ref xt), .val (.int (2 : Int32)), .unset, .unset] [(.ref bs), (.int (2 : Int32))])) rfl rfl (hb hby own_d_ad1_20) _ k_) ?_
  refine own_by (T' := T3) (g' := (mkF m 24 #[.val (.ref a), .val (.ref xt), .val (.int (2 : Int32)), .unset, .unset] [])) (fun t_ k_ => XS.icmpNo X3.here hx rfl (hb hby own_d_ad1_21) rfl (flt ((by decide) : ¬ ((4 : Int32) < (2 : Int32)))).2.2.1 k_) ?_
  refine own_by (T' := T3) (g' := (mkF m 25 #[.val (.ref a), .val (.ref xt), .val (.int (2 : Int32)), .unset, .unset] [(.ref xt)])) (fun t_ k_ => XS.aloadN X3.here hx rfl (hb hby own_d_ad1_24) rfl rfl k_) ?_
  refine own_by (T' := T3) (g' := (mkF m 26 #[.val (.ref a), .val (.ref xt), .val (.int (2 : Int32)), .unset, .unset] [(.int (0 : Int32)), (.ref xt)])) (fun t_ k_ => XS.iconst X3.here hx rfl (hb hby own_d_ad1_25) k_) ?_
  refine own_by (T' := T3) (g' := (mkF m 27 #[.val (.ref a), .val (.ref xt), .val (.int (2 : Int32)), .unset, .unset] [(.ref a), (.int (0 : Int32)), (.ref xt)])) (fun t_ k_ => XS.aloadN X3.here hx rfl (hb hby own_d_ad1_26) rfl rfl k_) ?_
  obtain ⟨T4, X4, e4, st4⟩ := getF X3 hx hZ hown (host := "") (Or.inl (hw _ (List.mem_of_getElem? (i := 11) rfl))) Via.refl e3 F0 (g := (mkF m 27 #[.val (.ref a), .val (.ref xt), .val (.int (2 : Int32)), .unset, .unset] [(.ref a), (.int (0 : Int32)), (.ref xt)])) rfl rfl (hb hby own_d_ad1_27)
  refine own_by (T' := T4) (g' := (mkF m 30 #[.val (.ref a), .val (.ref xt), .val (.int (2 : Int32)), .unset, .unset] [(.ref bs), (.int (0 : Int32)), (.ref xt)])) st4 ?_
  refine own_by (T' := T4) (g' := (mkF m 31 #[.val (.ref a), .val (.ref xt), .val (.int (2 : Int32)), .unset, .unset] [(.ref a), (.ref bs), (.int (0 : Int32)), (.ref xt)])) (fun t_ k_ => XS.aloadN X4.here hx rfl (hb hby own_d_ad1_30) rfl rfl k_) ?_
  obtain ⟨T5, X5, e5, st5⟩ := getF X4 hx hZ hown (host := "") (Or.inl (hw _ (List.mem_of_getElem? (i := 17) rfl))) Via.refl e4 F1 (g := (mkF m 31 #[.val (.ref a), .val (.ref xt), .val (.int (2 : Int32)), .unset, .unset] [(.ref a), (.ref bs), (.int (0 : Int32)), (.ref xt)])) rfl rfl (hb hby own_d_ad1_31)
  refine own_by (T' := T5) (g' := (mkF m 34 #[.val (.ref a), .val (.ref xt), .val (.int (2 : Int32)), .unset, .unset] [(.int (1 : Int32)), (.ref bs), (.int (0 : Int32)), (.ref xt)])) st5 ?_
  refine own_by (T' := T5) (g' := (mkF m 35 #[.val (.ref a), .val (.ref xt), .val (.int (2 : Int32)), .unset, .unset] [(.ref xt), (.int (1 : Int32)), (.ref bs), (.int (0 : Int32)), (.ref xt)])) (fun t_ k_ => XS.aloadN X5.here hx rfl (hb hby own_d_ad1_34) rfl rfl k_) ?_
  refine own_by (T' := T5) (g' := (mkF m 36 #[.val (.ref a), .val (.ref xt), .val (.int (2 : Int32)), .unset, .unset] [(.int (1 : Int32)), (.int (1 : Int32)), (.ref bs), (.int (0 : Int32)), (.ref xt)])) (fun t_ k_ => own_alen X5 hx hZ e5 V1 (z := (1 : Int32)) rfl (g := (mkF m 35 #[.val (.ref a), .val (.ref xt), .val (.int (2 : Int32)), .unset, .unset] [(.ref xt), (.int (1 : Int32)), (.ref bs), (.int (0 : Int32)), (.ref xt)])) rfl rfl (hb hby own_d_ad1_35) _ k_) ?_
  obtain ⟨T6, h6, L6, X6, e6, N6, Kc6, Vc6, st6⟩ := own_cp X5 hx hZ hown (hw _ (List.mem_of_getElem? (i := 38) rfl)) (hw _ (List.mem_of_getElem? (i := 41) rfl)) (hw _ (List.mem_of_getElem? (i := 39) rfl)) (hw _ (List.mem_of_getElem? (i := 40) rfl)) e5 V1 V0 rfl (by decide) (by decide) (sp := (0 : Int32)) (dp := (1 : Int32)) (nn := (1 : Int32)) (by decide) (by decide) (by decide) (by decide) (by decide) N0 G1 (g := (mkF m 36 #[.val (.ref a), .val (.ref xt), .val (.int (2 : Int32)), .unset, .unset] [(.int (1 : Int32)), (.int (1 : Int32)), (.ref bs), (.int (0 : Int32)), (.ref xt)])) rfl (by rw [hml]; rfl) rfl (hb hby own_d_ad1_36) (by decide) (W := 0) (by show 2 * 0 + _ ≤ _; exact Nat.le_of_eq rfl) (by decide)
  have Vd6 : own_Ia Z h6 bs .byte 4 (fun i => if 1 ≤ i ∧ i < 2 then xf (0 + (i - 1)) else f i) := Vc6
  have f7 := Nat.le_trans Z0 Kc6.1
  have f8 := Fld.keep F0 Kc6 (ninS n1 nin0)
  have f9 := Fld.keep F1 Kc6 (ninS n1 nin0)
  have f10 := Exa.keep E0 Kc6
  have f11 := own_Ia_keep Kc6 V1 (ninS n2 nin0)
  have f12 := Keep.trans K0 Kc6 (allS (Or.inl (List.mem_of_getElem? (i := 0) rfl)) all0)
  refine own_by (T' := T6) (g' := (mkF m 39 #[.val (.ref a), .val (.ref xt), .val (.int (2 : Int32)), .unset, .unset] [])) st6 ?_
  obtain ⟨T13, h13, X13, e13, E13, A13, D13, -, st13⟩ := newO X6 hx hZ hown (hw _ (List.mem_of_getElem? (i := 42) rfl)) (hw _ (List.mem_of_getElem? (i := 3) rfl)) (hw _ (List.mem_of_getElem? (i := 4) rfl)) e6 (g := (mkF m 39 #[.val (.ref a), .val (.ref xt), .val (.int (2 : Int32)), .unset, .unset] [])) rfl (hb hby own_d_ad1_39) (by decide) (by decide)
  obtain ⟨b13, g13⟩ : ∃ z, z = h6.size := ⟨_, rfl⟩
  rw [← g13] at A13 D13 st13
  have g_b13 : n0 ≤ b13 := Nat.le_trans f7 (Nat.le_of_eq g13.symm)
  have ne14 : a ≠ b13 := Nat.ne_of_lt (Nat.lt_of_lt_of_le f8.lt (Nat.le_of_eq g13.symm))
  have ne15 : xt ≠ b13 := Nat.ne_of_lt (Nat.lt_of_lt_of_le (own_Ia_lt f11) (Nat.le_of_eq g13.symm))
  have ne16 : bs ≠ b13 := Nat.ne_of_lt (Nat.lt_of_lt_of_le (own_Ia_lt Vd6) (Nat.le_of_eq g13.symm))
  have k_b13 : h0.size ≤ b13 := Nat.le_trans f12.1 (Nat.le_of_eq g13.symm)
  have f17 := Nat.le_trans f7 E13.1
  have f18 := Fld.ext E13 f8
  have f19 := Fld.ext E13 f9
  have f20 := Exa.ext E13 f10
  have f21 := own_Ia_ext E13 f11
  have f22 := f12.ext E13
  have f23 := own_Ia_ext E13 Vd6
  have F13_bytes : Fld Z h13 b13 "com/example/rowgate/rowgate/StoredValue" "bytes" "[B" .null := D13 (Or.inr (hw _ (List.mem_of_getElem? (i := 12) rfl))) (ty := (.array .byte)) (by decide)
  have F13_file : Fld Z h13 b13 "com/example/rowgate/rowgate/StoredValue" "file" "Lcom/example/rowgate/rowgate/StoredValue$FileBytes;" .null := D13 (Or.inr (hw _ (List.mem_of_getElem? (i := 14) rfl))) (ty := (.object "com/example/rowgate/rowgate/StoredValue$FileBytes")) (by decide)
  have F13_offset : Fld Z h13 b13 "com/example/rowgate/rowgate/StoredValue" "offset" "J" (.long (0 : Int64)) := D13 (Or.inr (hw _ (List.mem_of_getElem? (i := 16) rfl))) (ty := .long) (by decide)
  have F13_length : Fld Z h13 b13 "com/example/rowgate/rowgate/StoredValue" "length" "I" (.int (0 : Int32)) := D13 (Or.inr (hw _ (List.mem_of_getElem? (i := 18) rfl))) (ty := .int) (by decide)
  refine own_by (T' := T13) (g' := (mkF m 42 #[.val (.ref a), .val (.ref xt), .val (.int (2 : Int32)), .unset, .unset] [(.ref b13)])) st13 ?_
  refine own_by (T' := T13) (g' := (mkF m 43 #[.val (.ref a), .val (.ref xt), .val (.int (2 : Int32)), .unset, .unset] [(.ref b13), (.ref b13)])) (fun t_ k_ => XS.dup X13.here hx rfl (hb hby own_d_ad1_42) rfl rfl k_) ?_
  refine own_by (T' := T13) (g' := (mkF m 44 #[.val (.ref a), .val (.ref xt), .val (.int (2 : Int32)), .unset, .unset] [(.ref a), (.ref b13), (.ref b13)])) (fun t_ k_ => XS.aloadN X13.here hx rfl (hb hby own_d_ad1_43) rfl rfl k_) ?_
  obtain ⟨T24, X24, e24, st24⟩ := getF X13 hx hZ hown (host := "") (Or.inl (hw _ (List.mem_of_getElem? (i := 11) rfl))) Via.refl e13 f18 (g := (mkF m 44 #[.val (.ref a), .val (.ref xt), .val (.int (2 : Int32)), .unset, .unset] [(.ref a), (.ref b13), (.ref b13)])) rfl rfl (hb hby own_d_ad1_44)
  refine own_by (T' := T24) (g' := (mkF m 47 #[.val (.ref a), .val (.ref xt), .val (.int (2 : Int32)), .unset, .unset] [(.ref bs), (.ref b13), (.ref b13)])) st24 ?_
  refine own_by (T' := T24) (g' := (mkF m 48 #[.val (.ref a), .val (.ref xt), .val (.int (2 : Int32)), .unset, .unset] [(.int (2 : Int32)), (.ref bs), (.ref b13), (.ref b13)])) (fun t_ k_ => XS.iloadN X24.here hx rfl (hb hby own_d_ad1_47) rfl k_) ?_
  obtain ⟨_, T25, L25, X25, hQ25, st25⟩ := own_callI X24 hx hZ (y := (⟨"com/example/rowgate/rowgate/StoredValue", "<init>", "([BI)V"⟩ : MethodName)) rfl hown (hw _ (List.mem_of_getElem? (i := 43) rfl)) (hw _ (List.mem_of_getElem? (i := 6) rfl)) (hw _ (List.mem_of_getElem? (i := 4) rfl)) (hw _ (List.mem_of_getElem? (i := 7) rfl)) (by decide) (argsL := [(.ref bs), (.int (2 : Int32))]) (rest := [(.ref b13)]) (own_rm_svI l Z a0 hw [] b13 bs (2 : Int32) h13 n0 f17 A13 g_b13 F13_bytes F13_file F13_offset F13_length) e24 (W := 1) (by decide) (by decide) (by decide) (by decide) (g := (mkF m 48 #[.val (.ref a), .val (.ref xt), .val (.int (2 : Int32)), .unset, .unset] [(.int (2 : Int32)), (.ref bs), (.ref b13), (.ref b13)])) rfl (by rw [hml]; rfl) (lenOf own_pd1 rfl) rfl (by show 2 * 0 + _ ≤ _; exact Nat.le_of_eq rfl) (hb hby own_d_ad1_48)
  obtain ⟨rfl, Nq25, Kq25, Eq25, Fq25_bytes, Fq25_file, Fq25_offset, Fq25_length⟩ := hQ25
  have N25 := Fr.app N6 Nq25
  have f26 := Nat.le_trans f17 Kq25.1
  have f27 := Fld.keep f18 Kq25 (ninS ne14 nin0)
  have f28 := Fld.keep f19 Kq25 (ninS ne14 nin0)
  have f29 := Exa.keep f20 Kq25
  have f30 := own_Ia_keep Kq25 f21 (ninS ne15 nin0)
  have f31 := Keep.trans f22 Kq25 (allS (Or.inr k_b13) all0)
  have f32 := own_Ia_keep Kq25 f23 (ninS ne16 nin0)
  have f33 := Exa.keep A13 Kq25
  refine st25 _ ?_
  show own_Goes p e below _ T25 (mkF m 51 #[.val (.ref a), .val (.ref xt), .val (.int (2 : Int32)), .unset, .unset] [(.ref b13)])
  refine own_retR X25 hx Bd.returns hlk rfl rfl (hb hby own_d_ad1_51) (by decide) (by decide) ?_
  exact ⟨b13, rfl, N25, f31, f33, Fq25_bytes, Fq25_length, f32⟩
theorem own_d_ad2_0 : decode prog_43_method_10_code 0 = .ok (.aload_n 0, 1) := by decide +kernel
theorem own_d_ad2_1 : decode prog_43_method_10_code 1 = .ok (.getfield 26, 3) := by decide +kernel
theorem own_d_ad2_4 : decode prog_43_method_10_code 4 = .ok (.aload_n 1, 1) := by decide +kernel
theorem own_d_ad2_5 : decode prog_43_method_10_code 5 = .ok (.arraylength, 1) := by decide +kernel
theorem own_d_ad2_6 : decode prog_43_method_10_code 6 = .ok (.iadd, 1) := by decide +kernel
theorem own_d_ad2_7 : decode prog_43_method_10_code 7 = .ok (.istore_n 2, 1) := by decide +kernel
theorem own_d_ad2_8 : decode prog_43_method_10_code 8 = .ok (.aload_n 0, 1) := by decide +kernel
theorem own_d_ad2_9 : decode prog_43_method_10_code 9 = .ok (.getfield 14, 3) := by decide +kernel
theorem own_d_ad2_12 : decode prog_43_method_10_code 12 = .ok (.ifnull 40, 3) := by decide +kernel
theorem own_d_ad2_15 : decode prog_43_method_10_code 15 = .ok (.iload_n 2, 1) := by decide +kernel
theorem own_d_ad2_16 : decode prog_43_method_10_code 16 = .ok (.aload_n 0, 1) := by decide +kernel
theorem own_d_ad2_17 : decode prog_43_method_10_code 17 = .ok (.getfield 14, 3) := by decide +kernel
theorem own_d_ad2_20 : decode prog_43_method_10_code 20 = .ok (.arraylength, 1) := by decide +kernel
theorem own_d_ad2_21 : decode prog_43_method_10_code 21 = .ok (.if_icmp .gt 31, 3) := by decide +kernel
theorem own_d_ad2_24 : decode prog_43_method_10_code 24 = .ok (.aload_n 1, 1) := by decide +kernel
theorem own_d_ad2_25 : decode prog_43_method_10_code 25 = .ok (.iconst 0, 1) := by decide +kernel
theorem own_d_ad2_26 : decode prog_43_method_10_code 26 = .ok (.aload_n 0, 1) := by decide +kernel
theorem own_d_ad2_27 : decode prog_43_method_10_code 27 = .ok (.getfield 14, 3) := by decide +kernel
theorem own_d_ad2_30 : decode prog_43_method_10_code 30 = .ok (.aload_n 0, 1) := by decide +kernel
theorem own_d_ad2_31 : decode prog_43_method_10_code 31 = .ok (.getfield 26, 3) := by decide +kernel
theorem own_d_ad2_34 : decode prog_43_method_10_code 34 = .ok (.aload_n 1, 1) := by decide +kernel
theorem own_d_ad2_35 : decode prog_43_method_10_code 35 = .ok (.arraylength, 1) := by decide +kernel
theorem own_d_ad2_36 : decode prog_43_method_10_code 36 = .ok (.invokestatic 45, 3) := by decide +kernel
theorem own_d_ad2_39 : decode prog_43_method_10_code 39 = .ok (.new 4, 3) := by decide +kernel
theorem own_d_ad2_42 : decode prog_43_method_10_code 42 = .ok (.dup, 1) := by decide +kernel
theorem own_d_ad2_43 : decode prog_43_method_10_code 43 = .ok (.aload_n 0, 1) := by decide +kernel
theorem own_d_ad2_44 : decode prog_43_method_10_code 44 = .ok (.getfield 14, 3) := by decide +kernel
theorem own_d_ad2_47 : decode prog_43_method_10_code 47 = .ok (.iload_n 2, 1) := by decide +kernel
theorem own_d_ad2_48 : decode prog_43_method_10_code 48 = .ok (.invokespecial 3, 3) := by decide +kernel
theorem own_d_ad2_51 : decode prog_43_method_10_code 51 = .ok (.areturn, 1) := by decide +kernel
theorem own_ef_ad2 (m : MethodId) (a : Addr) (xt : Addr) : entryFrame m #[(.ref a), (.ref xt)] 5 = mkF m 0 #[.val (.ref a), .val (.ref xt), .unset, .unset, .unset] [] := by first | (simp [entryFrame, mkF, argsToLocals, Value.category]; done) | rfl
def own_Q_ad2 (Z : State) (a : Addr) (xt : Addr) (bs : Addr) (f : Nat → Int32) (xf : Nat → Int32) (h0 : Heap) (n0 : Nat) (v : Option Value) (h : Heap) (L : List Loc) : Prop := ∃ (ww : Addr), v = some (.ref ww) ∧ Fr n0 L ∧ Keep h0 h [bs] ∧ Exa Z h ww "com/example/rowgate/rowgate/StoredValue" ∧ Fld Z h ww "com/example/rowgate/rowgate/StoredValue" "bytes" "[B" (.ref bs) ∧ Fld Z h ww "com/example/rowgate/rowgate/StoredValue" "length" "I" (.int (3 : Int32)) ∧ own_Ia Z h bs .byte 4 (fun i => if 2 ≤ i ∧ i < 3 then xf (0 + (i - 2)) else f i)
set_option maxRecDepth 65536 in
set_option maxHeartbeats 40000000 in
theorem own_rm_ad2 (l : Launch) (Z : State) (a0 : Array Value) (hw : ∀ d ∈ tables_1, d.before a0 Z = true) (ws : List Jvm.Cond) (a : Addr) (xt : Addr) (bs : Addr) (f : Nat → Int32) (xf : Nat → Int32) (h0 : Heap) (n0 : Nat) (Z0 : n0 ≤ h0.size) (F0 : Fld Z h0 a "com/example/rowgate/rowgate/StoredValue" "bytes" "[B" (.ref bs)) (F1 : Fld Z h0 a "com/example/rowgate/rowgate/StoredValue" "length" "I" (.int (2 : Int32))) (E0 : Exa Z h0 a "com/example/rowgate/rowgate/StoredValue") (V0 : own_Ia Z h0 bs .byte 4 f) (V1 : own_Ia Z h0 xt .byte 1 xf) (G1 : n0 ≤ bs) (n1 : a ≠ bs) (n2 : xt ≠ bs) :
    MetFree l (⟨"com/example/rowgate/rowgate/StoredValue", "appended", "([B)Lcom/example/rowgate/rowgate/StoredValue;"⟩ : MethodName) (head1 (Jvm.Cond.code (⟨"com/example/rowgate/rowgate/StoredValue", "appended", "([B)Lcom/example/rowgate/rowgate/StoredValue;"⟩ : MethodName) prog_43_method_10_code 5 (some (.object "com/example/rowgate/rowgate/StoredValue")) :: ws) ({ frames := 2, cells := 1, slots := 4, locals := 27 } : Room)) (fun a_ U_ => a_ = #[(.ref a), (.ref xt)] ∧ Z.Warmed39 U_.vm ∧ U_.heap = h0) (fun _ _ _ _ _ => True) (fun _ U_ o_ U'_ => ∃ v_ L_, o_ = .returned v_ ∧ own_Q_ad2 Z a xt bs f xf h0 n0 v_ U'_.heap L_ ∧ FrameEnd U_ o_ U'_ L_ ({ frames := 2, cells := 1, slots := 4, locals := 27 } : Room).cells ({ frames := 2, cells := 1, slots := 4, locals := 27 } : Room).slots) := by
  refine MetFree.of_bodySF (plainFor_of_name own_pn_com_example_rowgate_rowgate_StoredValue) hisR ?_
  intro p e s m args below meth c s₁ Bd hml0 hP hK
  obtain ⟨rfl, hZ, hh⟩ := hP
  have hx := Bd.exec
  have hby := Bd.bytes
  have hlk : meth.locks = false := BodyLoose.notSynchronized Bd
  have hml : c.maxLocals = 5 := hml0
  have hown : s.vm.findClass "com/example/rowgate/rowgate/StoredValue" = some m.cls := findClass_of_methodNamed Bd.named
  have hnm := (name_of_methodNamed Bd.named Bd.method).1
  have X0 : Stand p l e ({ frames := 2, cells := 1, slots := 4, locals := 27 } : Room) s m #[(.ref a), (.ref xt)] below meth c s₁ [] 0 0 := Stand.of_body Bd
  have e0 : s₁.heap = h0 := by rw [← hh, Bd.state]; rfl
  have N0 := Fr.nil n0
  show own_Goes p e below (own_K (own_Q_ad2 Z a xt bs f xf h0 n0) s ({ frames := 2, cells := 1, slots := 4, locals := 27 } : Room).cells ({ frames := 2, cells := 1, slots := 4, locals := 27 } : Room).slots) s₁ (entryFrame m #[(.ref a), (.ref xt)] 5)
  rw [own_ef_ad2]
  have K0 := Keep.refl h0 [bs]
  refine own_by (T' := s₁) (g' := (mkF m 1 #[.val (.ref a), .val (.ref xt), .unset, .unset, .unset] [(.ref a)])) (fun t_ k_ => XS.aloadN X0.here hx rfl (hb hby own_d_ad2_0) rfl rfl k_) ?_
  obtain ⟨T1, X1, e1, st1⟩ := getF X0 hx hZ hown (host := "") (Or.inl (hw _ (List.mem_of_getElem? (i := 17) rfl))) Via.refl e0 F1 (g := (mkF m 1 #[.val (.ref a), .val (.ref xt), .unset, .unset, .unset] [(.ref a)])) rfl rfl (hb hby own_d_ad2_1)
  refine own_by (T' := T1) (g' := (mkF m 4 #[.val (.ref a), .val (.ref xt), .unset, .unset, .unset] [(.int (2 : Int32))])) st1 ?_
  refine own_by (T' := T1) (g' := (mkF m 5 #[.val (.ref a), .val (.ref xt), .unset, .unset, .unset] [(.ref xt), (.int (2 : Int32))])) (fun t_ k_ => XS.aloadN X1.here hx rfl (hb hby own_d_ad2_4) rfl rfl k_) ?_
  refine own_by (T' := T1) (g' := (mkF m 6 #[.val (.ref a), .val (.ref xt), .unset, .unset, .unset] [(.int (1 : Int32)), (.int (2 : Int32))])) (fun t_ k_ => own_alen X1 hx hZ e1 V1 (z := (1 : Int32)) rfl (g := (mkF m 5 #[.val (.ref a), .val (.ref xt), .unset, .unset, .unset] [(.ref xt), (.int (2 : Int32))])) rfl rfl (hb hby own_d_ad2_5) _ k_) ?_
  refine own_by (T' := T1) (g' := (mkF m 7 #[.val (.ref a), .val (.ref xt), .unset, .unset, .unset] [(.int (3 : Int32))])) (fun t_ k_ => XS.iadd X1.here hx rfl (hb hby own_d_ad2_6) rfl k_) ?_
  refine own_by (T' := T1) (g' := (mkF m 8 #[.val (.ref a), .val (.ref xt), .val (.int (3 : Int32)), .unset, .unset] [])) (fun t_ k_ => XS.istoreN X1.here hx rfl (hb hby own_d_ad2_7) rfl (l' := #[.val (.ref a), .val (.ref xt), .val (.int (3 : Int32)), .unset, .unset]) rfl k_) ?_
  refine own_by (T' := T1) (g' := (mkF m 9 #[.val (.ref a), .val (.ref xt), .val (.int (3 : Int32)), .unset, .unset] [(.ref a)])) (fun t_ k_ => XS.aloadN X1.here hx rfl (hb hby own_d_ad2_8) rfl rfl k_) ?_
  obtain ⟨T2, X2, e2, st2⟩ := getF X1 hx hZ hown (host := "") (Or.inl (hw _ (List.mem_of_getElem? (i := 11) rfl))) Via.refl e1 F0 (g := (mkF m 9 #[.val (.ref a), .val (.ref xt), .val (.int (3 : Int32)), .unset, .unset] [(.ref a)])) rfl rfl (hb hby own_d_ad2_9)
  refine own_by (T' := T2) (g' := (mkF m 12 #[.val (.ref a), .val (.ref xt), .val (.int (3 : Int32)), .unset, .unset] [(.ref bs)])) st2 ?_
  refine own_by (T' := T2) (g' := (mkF m 15 #[.val (.ref a), .val (.ref xt), .val (.int (3 : Int32)), .unset, .unset] [])) (fun t_ k_ => XS.ifnullNo X2.here hx rfl (hb hby own_d_ad2_12) rfl k_) ?_
  refine own_by (T' := T2) (g' := (mkF m 16 #[.val (.ref a), .val (.ref xt), .val (.int (3 : Int32)), .unset, .unset] [(.int (3 : Int32))])) (fun t_ k_ => XS.iloadN X2.here hx rfl (hb hby own_d_ad2_15) rfl k_) ?_
  refine own_by (T' := T2) (g' := (mkF m 17 #[.val (.ref a), .val (.ref xt), .val (.int (3 : Int32)), .unset, .unset] [(.ref a), (.int (3 : Int32))])) (fun t_ k_ => XS.aloadN X2.here hx rfl (hb hby own_d_ad2_16) rfl rfl k_) ?_
  obtain ⟨T3, X3, e3, st3⟩ := getF X2 hx hZ hown (host := "") (Or.inl (hw _ (List.mem_of_getElem? (i := 11) rfl))) Via.refl e2 F0 (g := (mkF m 17 #[.val (.ref a), .val (.ref xt), .val (.int (3 : Int32)), .unset, .unset] [(.ref a), (.int (3 : Int32))])) rfl rfl (hb hby own_d_ad2_17)
  refine own_by (T' := T3) (g' := (mkF m 20 #[.val (.ref a), .val (.ref xt), .val (.int (3 : Int32)), .unset, .unset] [(.ref bs), (.int (3 : Int32))])) st3 ?_
  refine own_by (T' := T3) (g' := (mkF m 21 #[.val (.ref a), .val (.ref xt), .val (.int (3 : Int32)), .unset, .unset] [(.int (4 : Int32)), (.int (3 : Int32))])) (fun t_ k_ => own_alen X3 hx hZ e3 V0 (z := (4 : Int32)) rfl (g := (mkF m 20 #[.val (.ref a), .val (.ref xt), .val (.int (3 : Int32)), .unset, .unset] [(.ref bs), (.int (3 : Int32))])) rfl rfl (hb hby own_d_ad2_20) _ k_) ?_
  refine own_by (T' := T3) (g' := (mkF m 24 #[.val (.ref a), .val (.ref xt), .val (.int (3 : Int32)), .unset, .unset] [])) (fun t_ k_ => XS.icmpNo X3.here hx rfl (hb hby own_d_ad2_21) rfl (flt ((by decide) : ¬ ((4 : Int32) < (3 : Int32)))).2.2.1 k_) ?_
  refine own_by (T' := T3) (g' := (mkF m 25 #[.val (.ref a), .val (.ref xt), .val (.int (3 : Int32)), .unset, .unset] [(.ref xt)])) (fun t_ k_ => XS.aloadN X3.here hx rfl (hb hby own_d_ad2_24) rfl rfl k_) ?_
  refine own_by (T' := T3) (g' := (mkF m 26 #[.val (.ref a), .val (.ref xt), .val (.int (3 : Int32)), .unset, .unset] [(.int (0 : Int32)), (.ref xt)])) (fun t_ k_ => XS.iconst X3.here hx rfl (hb hby own_d_ad2_25) k_) ?_
  refine own_by (T' := T3) (g' := (mkF m 27 #[.val (.ref a), .val (.ref xt), .val (.int (3 : Int32)), .unset, .unset] [(.ref a), (.int (0 : Int32)), (.ref xt)])) (fun t_ k_ => XS.aloadN X3.here hx rfl (hb hby own_d_ad2_26) rfl rfl k_) ?_
  obtain ⟨T4, X4, e4, st4⟩ := getF X3 hx hZ hown (host := "") (Or.inl (hw _ (List.mem_of_getElem? (i := 11) rfl))) Via.refl e3 F0 (g := (mkF m 27 #[.val (.ref a), .val (.ref xt), .val (.int (3 : Int32)), .unset, .unset] [(.ref a), (.int (0 : Int32)), (.ref xt)])) rfl rfl (hb hby own_d_ad2_27)
  refine own_by (T' := T4) (g' := (mkF m 30 #[.val (.ref a), .val (.ref xt), .val (.int (3 : Int32)), .unset, .unset] [(.ref bs), (.int (0 : Int32)), (.ref xt)])) st4 ?_
  refine own_by (T' := T4) (g' := (mkF m 31 #[.val (.ref a), .val (.ref xt), .val (.int (3 : Int32)), .unset, .unset] [(.ref a), (.ref bs), (.int (0 : Int32)), (.ref xt)])) (fun t_ k_ => XS.aloadN X4.here hx rfl (hb hby own_d_ad2_30) rfl rfl k_) ?_
  obtain ⟨T5, X5, e5, st5⟩ := getF X4 hx hZ hown (host := "") (Or.inl (hw _ (List.mem_of_getElem? (i := 17) rfl))) Via.refl e4 F1 (g := (mkF m 31 #[.val (.ref a), .val (.ref xt), .val (.int (3 : Int32)), .unset, .unset] [(.ref a), (.ref bs), (.int (0 : Int32)), (.ref xt)])) rfl rfl (hb hby own_d_ad2_31)
  refine own_by (T' := T5) (g' := (mkF m 34 #[.val (.ref a), .val (.ref xt), .val (.int (3 : Int32)), .unset, .unset] [(.int (2 : Int32)), (.ref bs), (.int (0 : Int32)), (.ref xt)])) st5 ?_
  refine own_by (T' := T5) (g' := (mkF m 35 #[.val (.ref a), .val (.ref xt), .val (.int (3 : Int32)), .unset, .unset] [(.ref xt), (.int (2 : Int32)), (.ref bs), (.int (0 : Int32)), (.ref xt)])) (fun t_ k_ => XS.aloadN X5.here hx rfl (hb hby own_d_ad2_34) rfl rfl k_) ?_
  refine own_by (T' := T5) (g' := (mkF m 36 #[.val (.ref a), .val (.ref xt), .val (.int (3 : Int32)), .unset, .unset] [(.int (1 : Int32)), (.int (2 : Int32)), (.ref bs), (.int (0 : Int32)), (.ref xt)])) (fun t_ k_ => own_alen X5 hx hZ e5 V1 (z := (1 : Int32)) rfl (g := (mkF m 35 #[.val (.ref a), .val (.ref xt), .val (.int (3 : Int32)), .unset, .unset] [(.ref xt), (.int (2 : Int32)), (.ref bs), (.int (0 : Int32)), (.ref xt)])) rfl rfl (hb hby own_d_ad2_35) _ k_) ?_
  obtain ⟨T6, h6, L6, X6, e6, N6, Kc6, Vc6, st6⟩ := own_cp X5 hx hZ hown (hw _ (List.mem_of_getElem? (i := 38) rfl)) (hw _ (List.mem_of_getElem? (i := 41) rfl)) (hw _ (List.mem_of_getElem? (i := 39) rfl)) (hw _ (List.mem_of_getElem? (i := 40) rfl)) e5 V1 V0 rfl (by decide) (by decide) (sp := (0 : Int32)) (dp := (2 : Int32)) (nn := (1 : Int32)) (by decide) (by decide) (by decide) (by decide) (by decide) N0 G1 (g := (mkF m 36 #[.val (.ref a), .val (.ref xt), .val (.int (3 : Int32)), .unset, .unset] [(.int (1 : Int32)), (.int (2 : Int32)), (.ref bs), (.int (0 : Int32)), (.ref xt)])) rfl (by rw [hml]; rfl) rfl (hb hby own_d_ad2_36) (by decide) (W := 0) (by show 2 * 0 + _ ≤ _; exact Nat.le_of_eq rfl) (by decide)
  have Vd6 : own_Ia Z h6 bs .byte 4 (fun i => if 2 ≤ i ∧ i < 3 then xf (0 + (i - 2)) else f i) := Vc6
  have f7 := Nat.le_trans Z0 Kc6.1
  have f8 := Fld.keep F0 Kc6 (ninS n1 nin0)
  have f9 := Fld.keep F1 Kc6 (ninS n1 nin0)
  have f10 := Exa.keep E0 Kc6
  have f11 := own_Ia_keep Kc6 V1 (ninS n2 nin0)
  have f12 := Keep.trans K0 Kc6 (allS (Or.inl (List.mem_of_getElem? (i := 0) rfl)) all0)
  refine own_by (T' := T6) (g' := (mkF m 39 #[.val (.ref a), .val (.ref xt), .val (.int (3 : Int32)), .unset, .unset] [])) st6 ?_
  obtain ⟨T13, h13, X13, e13, E13, A13, D13, -, st13⟩ := newO X6 hx hZ hown (hw _ (List.mem_of_getElem? (i := 42) rfl)) (hw _ (List.mem_of_getElem? (i := 3) rfl)) (hw _ (List.mem_of_getElem? (i := 4) rfl)) e6 (g := (mkF m 39 #[.val (.ref a), .val (.ref xt), .val (.int (3 : Int32)), .unset, .unset] [])) rfl (hb hby own_d_ad2_39) (by decide) (by decide)
  obtain ⟨b13, g13⟩ : ∃ z, z = h6.size := ⟨_, rfl⟩
  rw [← g13] at A13 D13 st13
  have g_b13 : n0 ≤ b13 := Nat.le_trans f7 (Nat.le_of_eq g13.symm)
  have ne14 : a ≠ b13 := Nat.ne_of_lt (Nat.lt_of_lt_of_le f8.lt (Nat.le_of_eq g13.symm))
  have ne15 : xt ≠ b13 := Nat.ne_of_lt (Nat.lt_of_lt_of_le (own_Ia_lt f11) (Nat.le_of_eq g13.symm))
  have ne16 : bs ≠ b13 := Nat.ne_of_lt (Nat.lt_of_lt_of_le (own_Ia_lt Vd6) (Nat.le_of_eq g13.symm))
  have k_b13 : h0.size ≤ b13 := Nat.le_trans f12.1 (Nat.le_of_eq g13.symm)
  have f17 := Nat.le_trans f7 E13.1
  have f18 := Fld.ext E13 f8
  have f19 := Fld.ext E13 f9
  have f20 := Exa.ext E13 f10
  have f21 := own_Ia_ext E13 f11
  have f22 := f12.ext E13
  have f23 := own_Ia_ext E13 Vd6
  have F13_bytes : Fld Z h13 b13 "com/example/rowgate/rowgate/StoredValue" "bytes" "[B" .null := D13 (Or.inr (hw _ (List.mem_of_getElem? (i := 12) rfl))) (ty := (.array .byte)) (by decide)
  have F13_file : Fld Z h13 b13 "com/example/rowgate/rowgate/StoredValue" "file" "Lcom/example/rowgate/rowgate/StoredValue$FileBytes;" .null := D13 (Or.inr (hw _ (List.mem_of_getElem? (i := 14) rfl))) (ty := (.object "com/example/rowgate/rowgate/StoredValue$FileBytes")) (by decide)
  have F13_offset : Fld Z h13 b13 "com/example/rowgate/rowgate/StoredValue" "offset" "J" (.long (0 : Int64)) := D13 (Or.inr (hw _ (List.mem_of_getElem? (i := 16) rfl))) (ty := .long) (by decide)
  have F13_length : Fld Z h13 b13 "com/example/rowgate/rowgate/StoredValue" "length" "I" (.int (0 : Int32)) := D13 (Or.inr (hw _ (List.mem_of_getElem? (i := 18) rfl))) (ty := .int) (by decide)
  refine own_by (T' := T13) (g' := (mkF m 42 #[.val (.ref a), .val (.ref xt), .val (.int (3 : Int32)), .unset, .unset] [(.ref b13)])) st13 ?_
  refine own_by (T' := T13) (g' := (mkF m 43 #[.val (.ref a), .val (.ref xt), .val (.int (3 : Int32)), .unset, .unset] [(.ref b13), (.ref b13)])) (fun t_ k_ => XS.dup X13.here hx rfl (hb hby own_d_ad2_42) rfl rfl k_) ?_
  refine own_by (T' := T13) (g' := (mkF m 44 #[.val (.ref a), .val (.ref xt), .val (.int (3 : Int32)), .unset, .unset] [(.ref a), (.ref b13), (.ref b13)])) (fun t_ k_ => XS.aloadN X13.here hx rfl (hb hby own_d_ad2_43) rfl rfl k_) ?_
  obtain ⟨T24, X24, e24, st24⟩ := getF X13 hx hZ hown (host := "") (Or.inl (hw _ (List.mem_of_getElem? (i := 11) rfl))) Via.refl e13 f18 (g := (mkF m 44 #[.val (.ref a), .val (.ref xt), .val (.int (3 : Int32)), .unset, .unset] [(.ref a), (.ref b13), (.ref b13)])) rfl rfl (hb hby own_d_ad2_44)
  refine own_by (T' := T24) (g' := (mkF m 47 #[.val (.ref a), .val (.ref xt), .val (.int (3 : Int32)), .unset, .unset] [(.ref bs), (.ref b13), (.ref b13)])) st24 ?_
  refine own_by (T' := T24) (g' := (mkF m 48 #[.val (.ref a), .val (.ref xt), .val (.int (3 : Int32)), .unset, .unset] [(.int (3 : Int32)), (.ref bs), (.ref b13), (.ref b13)])) (fun t_ k_ => XS.iloadN X24.here hx rfl (hb hby own_d_ad2_47) rfl k_) ?_
  obtain ⟨_, T25, L25, X25, hQ25, st25⟩ := own_callI X24 hx hZ (y := (⟨"com/example/rowgate/rowgate/StoredValue", "<init>", "([BI)V"⟩ : MethodName)) rfl hown (hw _ (List.mem_of_getElem? (i := 43) rfl)) (hw _ (List.mem_of_getElem? (i := 6) rfl)) (hw _ (List.mem_of_getElem? (i := 4) rfl)) (hw _ (List.mem_of_getElem? (i := 7) rfl)) (by decide) (argsL := [(.ref bs), (.int (3 : Int32))]) (rest := [(.ref b13)]) (own_rm_svI l Z a0 hw [] b13 bs (3 : Int32) h13 n0 f17 A13 g_b13 F13_bytes F13_file F13_offset F13_length) e24 (W := 1) (by decide) (by decide) (by decide) (by decide) (g := (mkF m 48 #[.val (.ref a), .val (.ref xt), .val (.int (3 : Int32)), .unset, .unset] [(.int (3 : Int32)), (.ref bs), (.ref b13), (.ref b13)])) rfl (by rw [hml]; rfl) (lenOf own_pd1 rfl) rfl (by show 2 * 0 + _ ≤ _; exact Nat.le_of_eq rfl) (hb hby own_d_ad2_48)
  obtain ⟨rfl, Nq25, Kq25, Eq25, Fq25_bytes, Fq25_file, Fq25_offset, Fq25_length⟩ := hQ25
  have N25 := Fr.app N6 Nq25
  have f26 := Nat.le_trans f17 Kq25.1
  have f27 := Fld.keep f18 Kq25 (ninS ne14 nin0)
  have f28 := Fld.keep f19 Kq25 (ninS ne14 nin0)
  have f29 := Exa.keep f20 Kq25
  have f30 := own_Ia_keep Kq25 f21 (ninS ne15 nin0)
  have f31 := Keep.trans f22 Kq25 (allS (Or.inr k_b13) all0)
  have f32 := own_Ia_keep Kq25 f23 (ninS ne16 nin0)
  have f33 := Exa.keep A13 Kq25
  refine st25 _ ?_
  show own_Goes p e below _ T25 (mkF m 51 #[.val (.ref a), .val (.ref xt), .val (.int (3 : Int32)), .unset, .unset] [(.ref b13)])
  refine own_retR X25 hx Bd.returns hlk rfl rfl (hb hby own_d_ad2_51) (by decide) (by decide) ?_
  exact ⟨b13, rfl, N25, f31, f33, Fq25_bytes, Fq25_length, f32⟩
theorem own_d_ad3_0 : decode prog_43_method_10_code 0 = .ok (.aload_n 0, 1) := by decide +kernel
theorem own_d_ad3_1 : decode prog_43_method_10_code 1 = .ok (.getfield 26, 3) := by decide +kernel
theorem own_d_ad3_4 : decode prog_43_method_10_code 4 = .ok (.aload_n 1, 1) := by decide +kernel
theorem own_d_ad3_5 : decode prog_43_method_10_code 5 = .ok (.arraylength, 1) := by decide +kernel
theorem own_d_ad3_6 : decode prog_43_method_10_code 6 = .ok (.iadd, 1) := by decide +kernel
theorem own_d_ad3_7 : decode prog_43_method_10_code 7 = .ok (.istore_n 2, 1) := by decide +kernel
theorem own_d_ad3_8 : decode prog_43_method_10_code 8 = .ok (.aload_n 0, 1) := by decide +kernel
theorem own_d_ad3_9 : decode prog_43_method_10_code 9 = .ok (.getfield 14, 3) := by decide +kernel
theorem own_d_ad3_12 : decode prog_43_method_10_code 12 = .ok (.ifnull 40, 3) := by decide +kernel
theorem own_d_ad3_15 : decode prog_43_method_10_code 15 = .ok (.iload_n 2, 1) := by decide +kernel
theorem own_d_ad3_16 : decode prog_43_method_10_code 16 = .ok (.aload_n 0, 1) := by decide +kernel
theorem own_d_ad3_17 : decode prog_43_method_10_code 17 = .ok (.getfield 14, 3) := by decide +kernel
theorem own_d_ad3_20 : decode prog_43_method_10_code 20 = .ok (.arraylength, 1) := by decide +kernel
theorem own_d_ad3_21 : decode prog_43_method_10_code 21 = .ok (.if_icmp .gt 31, 3) := by decide +kernel
theorem own_d_ad3_24 : decode prog_43_method_10_code 24 = .ok (.aload_n 1, 1) := by decide +kernel
theorem own_d_ad3_25 : decode prog_43_method_10_code 25 = .ok (.iconst 0, 1) := by decide +kernel
theorem own_d_ad3_26 : decode prog_43_method_10_code 26 = .ok (.aload_n 0, 1) := by decide +kernel
theorem own_d_ad3_27 : decode prog_43_method_10_code 27 = .ok (.getfield 14, 3) := by decide +kernel
theorem own_d_ad3_30 : decode prog_43_method_10_code 30 = .ok (.aload_n 0, 1) := by decide +kernel
theorem own_d_ad3_31 : decode prog_43_method_10_code 31 = .ok (.getfield 26, 3) := by decide +kernel
theorem own_d_ad3_34 : decode prog_43_method_10_code 34 = .ok (.aload_n 1, 1) := by decide +kernel
theorem own_d_ad3_35 : decode prog_43_method_10_code 35 = .ok (.arraylength, 1) := by decide +kernel
theorem own_d_ad3_36 : decode prog_43_method_10_code 36 = .ok (.invokestatic 45, 3) := by decide +kernel
theorem own_d_ad3_39 : decode prog_43_method_10_code 39 = .ok (.new 4, 3) := by decide +kernel
theorem own_d_ad3_42 : decode prog_43_method_10_code 42 = .ok (.dup, 1) := by decide +kernel
theorem own_d_ad3_43 : decode prog_43_method_10_code 43 = .ok (.aload_n 0, 1) := by decide +kernel
theorem own_d_ad3_44 : decode prog_43_method_10_code 44 = .ok (.getfield 14, 3) := by decide +kernel
theorem own_d_ad3_47 : decode prog_43_method_10_code 47 = .ok (.iload_n 2, 1) := by decide +kernel
theorem own_d_ad3_48 : decode prog_43_method_10_code 48 = .ok (.invokespecial 3, 3) := by decide +kernel
theorem own_d_ad3_51 : decode prog_43_method_10_code 51 = .ok (.areturn, 1) := by decide +kernel
theorem own_ef_ad3 (m : MethodId) (a : Addr) (xt : Addr) : entryFrame m #[(.ref a), (.ref xt)] 5 = mkF m 0 #[.val (.ref a), .val (.ref xt), .unset, .unset, .unset] [] := by first | (simp [entryFrame, mkF, argsToLocals, Value.category]; done) | rfl
def own_Q_ad3 (Z : State) (a : Addr) (xt : Addr) (bs : Addr) (f : Nat → Int32) (xf : Nat → Int32) (h0 : Heap) (n0 : Nat) (v : Option Value) (h : Heap) (L : List Loc) : Prop := ∃ (ww : Addr), v = some (.ref ww) ∧ Fr n0 L ∧ Keep h0 h [bs] ∧ Exa Z h ww "com/example/rowgate/rowgate/StoredValue" ∧ Fld Z h ww "com/example/rowgate/rowgate/StoredValue" "bytes" "[B" (.ref bs) ∧ Fld Z h ww "com/example/rowgate/rowgate/StoredValue" "length" "I" (.int (4 : Int32)) ∧ own_Ia Z h bs .byte 4 (fun i => if 3 ≤ i ∧ i < 4 then xf (0 + (i - 3)) else f i)
set_option maxRecDepth 65536 in
set_option maxHeartbeats 40000000 in
theorem own_rm_ad3 (l : Launch) (Z : State) (a0 : Array Value) (hw : ∀ d ∈ tables_1, d.before a0 Z = true) (ws : List Jvm.Cond) (a : Addr) (xt : Addr) (bs : Addr) (f : Nat → Int32) (xf : Nat → Int32) (h0 : Heap) (n0 : Nat) (Z0 : n0 ≤ h0.size) (F0 : Fld Z h0 a "com/example/rowgate/rowgate/StoredValue" "bytes" "[B" (.ref bs)) (F1 : Fld Z h0 a "com/example/rowgate/rowgate/StoredValue" "length" "I" (.int (3 : Int32))) (E0 : Exa Z h0 a "com/example/rowgate/rowgate/StoredValue") (V0 : own_Ia Z h0 bs .byte 4 f) (V1 : own_Ia Z h0 xt .byte 1 xf) (G1 : n0 ≤ bs) (n1 : a ≠ bs) (n2 : xt ≠ bs) :
    MetFree l (⟨"com/example/rowgate/rowgate/StoredValue", "appended", "([B)Lcom/example/rowgate/rowgate/StoredValue;"⟩ : MethodName) (head1 (Jvm.Cond.code (⟨"com/example/rowgate/rowgate/StoredValue", "appended", "([B)Lcom/example/rowgate/rowgate/StoredValue;"⟩ : MethodName) prog_43_method_10_code 5 (some (.object "com/example/rowgate/rowgate/StoredValue")) :: ws) ({ frames := 2, cells := 1, slots := 4, locals := 27 } : Room)) (fun a_ U_ => a_ = #[(.ref a), (.ref xt)] ∧ Z.Warmed39 U_.vm ∧ U_.heap = h0) (fun _ _ _ _ _ => True) (fun _ U_ o_ U'_ => ∃ v_ L_, o_ = .returned v_ ∧ own_Q_ad3 Z a xt bs f xf h0 n0 v_ U'_.heap L_ ∧ FrameEnd U_ o_ U'_ L_ ({ frames := 2, cells := 1, slots := 4, locals := 27 } : Room).cells ({ frames := 2, cells := 1, slots := 4, locals := 27 } : Room).slots) := by
  refine MetFree.of_bodySF (plainFor_of_name own_pn_com_example_rowgate_rowgate_StoredValue) hisR ?_
  intro p e s m args below meth c s₁ Bd hml0 hP hK
  obtain ⟨rfl, hZ, hh⟩ := hP
  have hx := Bd.exec
  have hby := Bd.bytes
  have hlk : meth.locks = false := BodyLoose.notSynchronized Bd
  have hml : c.maxLocals = 5 := hml0
  have hown : s.vm.findClass "com/example/rowgate/rowgate/StoredValue" = some m.cls := findClass_of_methodNamed Bd.named
  have hnm := (name_of_methodNamed Bd.named Bd.method).1
  have X0 : Stand p l e ({ frames := 2, cells := 1, slots := 4, locals := 27 } : Room) s m #[(.ref a), (.ref xt)] below meth c s₁ [] 0 0 := Stand.of_body Bd
  have e0 : s₁.heap = h0 := by rw [← hh, Bd.state]; rfl
  have N0 := Fr.nil n0
  show own_Goes p e below (own_K (own_Q_ad3 Z a xt bs f xf h0 n0) s ({ frames := 2, cells := 1, slots := 4, locals := 27 } : Room).cells ({ frames := 2, cells := 1, slots := 4, locals := 27 } : Room).slots) s₁ (entryFrame m #[(.ref a), (.ref xt)] 5)
  rw [own_ef_ad3]
  have K0 := Keep.refl h0 [bs]
  refine own_by (T' := s₁) (g' := (mkF m 1 #[.val (.ref a), .val (.ref xt), .unset, .unset, .unset] [(.ref a)])) (fun t_ k_ => XS.aloadN X0.here hx rfl (hb hby own_d_ad3_0) rfl rfl k_) ?_
  obtain ⟨T1, X1, e1, st1⟩ := getF X0 hx hZ hown (host := "") (Or.inl (hw _ (List.mem_of_getElem? (i := 17) rfl))) Via.refl e0 F1 (g := (mkF m 1 #[.val (.ref a), .val (.ref xt), .unset, .unset, .unset] [(.ref a)])) rfl rfl (hb hby own_d_ad3_1)
  refine own_by (T' := T1) (g' := (mkF m 4 #[.val (.ref a), .val (.ref xt), .unset, .unset, .unset] [(.int (3 : Int32))])) st1 ?_
  refine own_by (T' := T1) (g' := (mkF m 5 #[.val (.ref a), .val (.ref xt), .unset, .unset, .unset] [(.ref xt), (.int (3 : Int32))])) (fun t_ k_ => XS.aloadN X1.here hx rfl (hb hby own_d_ad3_4) rfl rfl k_) ?_
  refine own_by (T' := T1) (g' := (mkF m 6 #[.val (.ref a), .val (.ref xt), .unset, .unset, .unset] [(.int (1 : Int32)), (.int (3 : Int32))])) (fun t_ k_ => own_alen X1 hx hZ e1 V1 (z := (1 : Int32)) rfl (g := (mkF m 5 #[.val (.ref a), .val (.ref xt), .unset, .unset, .unset] [(.ref xt), (.int (3 : Int32))])) rfl rfl (hb hby own_d_ad3_5) _ k_) ?_
  refine own_by (T' := T1) (g' := (mkF m 7 #[.val (.ref a), .val (.ref xt), .unset, .unset, .unset] [(.int (4 : Int32))])) (fun t_ k_ => XS.iadd X1.here hx rfl (hb hby own_d_ad3_6) rfl k_) ?_
  refine own_by (T' := T1) (g' := (mkF m 8 #[.val (.ref a), .val (.ref xt), .val (.int (4 : Int32)), .unset, .unset] [])) (fun t_ k_ => XS.istoreN X1.here hx rfl (hb hby own_d_ad3_7) rfl (l' := #[.val (.ref a), .val (.ref xt), .val (.int (4 : Int32)), .unset, .unset]) rfl k_) ?_
  refine own_by (T' := T1) (g' := (mkF m 9 #[.val (.ref a), .val (.ref xt), .val (.int (4 : Int32)), .unset, .unset] [(.ref a)])) (fun t_ k_ => XS.aloadN X1.here hx rfl (hb hby own_d_ad3_8) rfl rfl k_) ?_
  obtain ⟨T2, X2, e2, st2⟩ := getF X1 hx hZ hown (host := "") (Or.inl (hw _ (List.mem_of_getElem? (i := 11) rfl))) Via.refl e1 F0 (g := (mkF m 9 #[.val (.ref a), .val (.ref xt), .val (.int (4 : Int32)), .unset, .unset] [(.ref a)])) rfl rfl (hb hby own_d_ad3_9)
  refine own_by (T' := T2) (g' := (mkF m 12 #[.val (.ref a), .val (.ref xt), .val (.int (4 : Int32)), .unset, .unset] [(.ref bs)])) st2 ?_
  refine own_by (T' := T2) (g' := (mkF m 15 #[.val (.ref a), .val (.ref xt), .val (.int (4 : Int32)), .unset, .unset] [])) (fun t_ k_ => XS.ifnullNo X2.here hx rfl (hb hby own_d_ad3_12) rfl k_) ?_
  refine own_by (T' := T2) (g' := (mkF m 16 #[.val (.ref a), .val (.ref xt), .val (.int (4 : Int32)), .unset, .unset] [(.int (4 : Int32))])) (fun t_ k_ => XS.iloadN X2.here hx rfl (hb hby own_d_ad3_15) rfl k_) ?_
  refine own_by (T' := T2) (g' := (mkF m 17 #[.val (.ref a), .val (.ref xt), .val (.int (4 : Int32)), .unset, .unset] [(.ref a), (.int (4 : Int32))])) (fun t_ k_ => XS.aloadN X2.here hx rfl (hb hby own_d_ad3_16) rfl rfl k_) ?_
  obtain ⟨T3, X3, e3, st3⟩ := getF X2 hx hZ hown (host := "") (Or.inl (hw _ (List.mem_of_getElem? (i := 11) rfl))) Via.refl e2 F0 (g := (mkF m 17 #[.val (.ref a), .val (.ref xt), .val (.int (4 : Int32)), .unset, .unset] [(.ref a), (.int (4 : Int32))])) rfl rfl (hb hby own_d_ad3_17)
  refine own_by (T' := T3) (g' := (mkF m 20 #[.val (.ref a), .val (.ref xt), .val (.int (4 : Int32)), .unset, .unset] [(.ref bs), (.int (4 : Int32))])) st3 ?_
  refine own_by (T' := T3) (g' := (mkF m 21 #[.val (.ref a), .val (.ref xt), .val (.int (4 : Int32)), .unset, .unset] [(.int (4 : Int32)), (.int (4 : Int32))])) (fun t_ k_ => own_alen X3 hx hZ e3 V0 (z := (4 : Int32)) rfl (g := (mkF m 20 #[.val (.ref a), .val (.ref xt), .val (.int (4 : Int32)), .unset, .unset] [(.ref bs), (.int (4 : Int32))])) rfl rfl (hb hby own_d_ad3_20) _ k_) ?_
  refine own_by (T' := T3) (g' := (mkF m 24 #[.val (.ref a), .val (.ref xt), .val (.int (4 : Int32)), .unset, .unset] [])) (fun t_ k_ => XS.icmpNo X3.here hx rfl (hb hby own_d_ad3_21) rfl (flt ((by decide) : ¬ ((4 : Int32) < (4 : Int32)))).2.2.1 k_) ?_
  refine own_by (T' := T3) (g' := (mkF m 25 #[.val (.ref a), .val (.ref xt), .val (.int (4 : Int32)), .unset, .unset] [(.ref xt)])) (fun t_ k_ => XS.aloadN X3.here hx rfl (hb hby own_d_ad3_24) rfl rfl k_) ?_
  refine own_by (T' := T3) (g' := (mkF m 26 #[.val (.ref a), .val (.ref xt), .val (.int (4 : Int32)), .unset, .unset] [(.int (0 : Int32)), (.ref xt)])) (fun t_ k_ => XS.iconst X3.here hx rfl (hb hby own_d_ad3_25) k_) ?_
  refine own_by (T' := T3) (g' := (mkF m 27 #[.val (.ref a), .val (.ref xt), .val (.int (4 : Int32)), .unset, .unset] [(.ref a), (.int (0 : Int32)), (.ref xt)])) (fun t_ k_ => XS.aloadN X3.here hx rfl (hb hby own_d_ad3_26) rfl rfl k_) ?_
  obtain ⟨T4, X4, e4, st4⟩ := getF X3 hx hZ hown (host := "") (Or.inl (hw _ (List.mem_of_getElem? (i := 11) rfl))) Via.refl e3 F0 (g := (mkF m 27 #[.val (.ref a), .val (.ref xt), .val (.int (4 : Int32)), .unset, .unset] [(.ref a), (.int (0 : Int32)), (.ref xt)])) rfl rfl (hb hby own_d_ad3_27)
  refine own_by (T' := T4) (g' := (mkF m 30 #[.val (.ref a), .val (.ref xt), .val (.int (4 : Int32)), .unset, .unset] [(.ref bs), (.int (0 : Int32)), (.ref xt)])) st4 ?_
  refine own_by (T' := T4) (g' := (mkF m 31 #[.val (.ref a), .val (.ref xt), .val (.int (4 : Int32)), .unset, .unset] [(.ref a), (.ref bs), (.int (0 : Int32)), (.ref xt)])) (fun t_ k_ => XS.aloadN X4.here hx rfl (hb hby own_d_ad3_30) rfl rfl k_) ?_
  obtain ⟨T5, X5, e5, st5⟩ := getF X4 hx hZ hown (host := "") (Or.inl (hw _ (List.mem_of_getElem? (i := 17) rfl))) Via.refl e4 F1 (g := (mkF m 31 #[.val (.ref a), .val (.ref xt), .val (.int (4 : Int32)), .unset, .unset] [(.ref a), (.ref bs), (.int (0 : Int32)), (.ref xt)])) rfl rfl (hb hby own_d_ad3_31)
  refine own_by (T' := T5) (g' := (mkF m 34 #[.val (.ref a), .val (.ref xt), .val (.int (4 : Int32)), .unset, .unset] [(.int (3 : Int32)), (.ref bs), (.int (0 : Int32)), (.ref xt)])) st5 ?_
  refine own_by (T' := T5) (g' := (mkF m 35 #[.val (.ref a), .val (.ref xt), .val (.int (4 : Int32)), .unset, .unset] [(.ref xt), (.int (3 : Int32)), (.ref bs), (.int (0 : Int32)), (.ref xt)])) (fun t_ k_ => XS.aloadN X5.here hx rfl (hb hby own_d_ad3_34) rfl rfl k_) ?_
  refine own_by (T' := T5) (g' := (mkF m 36 #[.val (.ref a), .val (.ref xt), .val (.int (4 : Int32)), .unset, .unset] [(.int (1 : Int32)), (.int (3 : Int32)), (.ref bs), (.int (0 : Int32)), (.ref xt)])) (fun t_ k_ => own_alen X5 hx hZ e5 V1 (z := (1 : Int32)) rfl (g := (mkF m 35 #[.val (.ref a), .val (.ref xt), .val (.int (4 : Int32)), .unset, .unset] [(.ref xt), (.int (3 : Int32)), (.ref bs), (.int (0 : Int32)), (.ref xt)])) rfl rfl (hb hby own_d_ad3_35) _ k_) ?_
  obtain ⟨T6, h6, L6, X6, e6, N6, Kc6, Vc6, st6⟩ := own_cp X5 hx hZ hown (hw _ (List.mem_of_getElem? (i := 38) rfl)) (hw _ (List.mem_of_getElem? (i := 41) rfl)) (hw _ (List.mem_of_getElem? (i := 39) rfl)) (hw _ (List.mem_of_getElem? (i := 40) rfl)) e5 V1 V0 rfl (by decide) (by decide) (sp := (0 : Int32)) (dp := (3 : Int32)) (nn := (1 : Int32)) (by decide) (by decide) (by decide) (by decide) (by decide) N0 G1 (g := (mkF m 36 #[.val (.ref a), .val (.ref xt), .val (.int (4 : Int32)), .unset, .unset] [(.int (1 : Int32)), (.int (3 : Int32)), (.ref bs), (.int (0 : Int32)), (.ref xt)])) rfl (by rw [hml]; rfl) rfl (hb hby own_d_ad3_36) (by decide) (W := 0) (by show 2 * 0 + _ ≤ _; exact Nat.le_of_eq rfl) (by decide)
  have Vd6 : own_Ia Z h6 bs .byte 4 (fun i => if 3 ≤ i ∧ i < 4 then xf (0 + (i - 3)) else f i) := Vc6
  have f7 := Nat.le_trans Z0 Kc6.1
  have f8 := Fld.keep F0 Kc6 (ninS n1 nin0)
  have f9 := Fld.keep F1 Kc6 (ninS n1 nin0)
  have f10 := Exa.keep E0 Kc6
  have f11 := own_Ia_keep Kc6 V1 (ninS n2 nin0)
  have f12 := Keep.trans K0 Kc6 (allS (Or.inl (List.mem_of_getElem? (i := 0) rfl)) all0)
  refine own_by (T' := T6) (g' := (mkF m 39 #[.val (.ref a), .val (.ref xt), .val (.int (4 : Int32)), .unset, .unset] [])) st6 ?_
  obtain ⟨T13, h13, X13, e13, E13, A13, D13, -, st13⟩ := newO X6 hx hZ hown (hw _ (List.mem_of_getElem? (i := 42) rfl)) (hw _ (List.mem_of_getElem? (i := 3) rfl)) (hw _ (List.mem_of_getElem? (i := 4) rfl)) e6 (g := (mkF m 39 #[.val (.ref a), .val (.ref xt), .val (.int (4 : Int32)), .unset, .unset] [])) rfl (hb hby own_d_ad3_39) (by decide) (by decide)
  obtain ⟨b13, g13⟩ : ∃ z, z = h6.size := ⟨_, rfl⟩
  rw [← g13] at A13 D13 st13
  have g_b13 : n0 ≤ b13 := Nat.le_trans f7 (Nat.le_of_eq g13.symm)
  have ne14 : a ≠ b13 := Nat.ne_of_lt (Nat.lt_of_lt_of_le f8.lt (Nat.le_of_eq g13.symm))
  have ne15 : xt ≠ b13 := Nat.ne_of_lt (Nat.lt_of_lt_of_le (own_Ia_lt f11) (Nat.le_of_eq g13.symm))
  have ne16 : bs ≠ b13 := Nat.ne_of_lt (Nat.lt_of_lt_of_le (own_Ia_lt Vd6) (Nat.le_of_eq g13.symm))
  have k_b13 : h0.size ≤ b13 := Nat.le_trans f12.1 (Nat.le_of_eq g13.symm)
  have f17 := Nat.le_trans f7 E13.1
  have f18 := Fld.ext E13 f8
  have f19 := Fld.ext E13 f9
  have f20 := Exa.ext E13 f10
  have f21 := own_Ia_ext E13 f11
  have f22 := f12.ext E13
  have f23 := own_Ia_ext E13 Vd6
  have F13_bytes : Fld Z h13 b13 "com/example/rowgate/rowgate/StoredValue" "bytes" "[B" .null := D13 (Or.inr (hw _ (List.mem_of_getElem? (i := 12) rfl))) (ty := (.array .byte)) (by decide)
  have F13_file : Fld Z h13 b13 "com/example/rowgate/rowgate/StoredValue" "file" "Lcom/example/rowgate/rowgate/StoredValue$FileBytes;" .null := D13 (Or.inr (hw _ (List.mem_of_getElem? (i := 14) rfl))) (ty := (.object "com/example/rowgate/rowgate/StoredValue$FileBytes")) (by decide)
  have F13_offset : Fld Z h13 b13 "com/example/rowgate/rowgate/StoredValue" "offset" "J" (.long (0 : Int64)) := D13 (Or.inr (hw _ (List.mem_of_getElem? (i := 16) rfl))) (ty := .long) (by decide)
  have F13_length : Fld Z h13 b13 "com/example/rowgate/rowgate/StoredValue" "length" "I" (.int (0 : Int32)) := D13 (Or.inr (hw _ (List.mem_of_getElem? (i := 18) rfl))) (ty := .int) (by decide)
  refine own_by (T' := T13) (g' := (mkF m 42 #[.val (.ref a), .val (.ref xt), .val (.int (4 : Int32)), .unset, .unset] [(.ref b13)])) st13 ?_
  refine own_by (T' := T13) (g' := (mkF m 43 #[.val (.ref a), .val (.ref xt), .val (.int (4 : Int32)), .unset, .unset] [(.ref b13), (.ref b13)])) (fun t_ k_ => XS.dup X13.here hx rfl (hb hby own_d_ad3_42) rfl rfl k_) ?_
  refine own_by (T' := T13) (g' := (mkF m 44 #[.val (.ref a), .val (.ref xt), .val (.int (4 : Int32)), .unset, .unset] [(.ref a), (.ref b13), (.ref b13)])) (fun t_ k_ => XS.aloadN X13.here hx rfl (hb hby own_d_ad3_43) rfl rfl k_) ?_
  obtain ⟨T24, X24, e24, st24⟩ := getF X13 hx hZ hown (host := "") (Or.inl (hw _ (List.mem_of_getElem? (i := 11) rfl))) Via.refl e13 f18 (g := (mkF m 44 #[.val (.ref a), .val (.ref xt), .val (.int (4 : Int32)), .unset, .unset] [(.ref a), (.ref b13), (.ref b13)])) rfl rfl (hb hby own_d_ad3_44)
  refine own_by (T' := T24) (g' := (mkF m 47 #[.val (.ref a), .val (.ref xt), .val (.int (4 : Int32)), .unset, .unset] [(.ref bs), (.ref b13), (.ref b13)])) st24 ?_
  refine own_by (T' := T24) (g' := (mkF m 48 #[.val (.ref a), .val (.ref xt), .val (.int (4 : Int32)), .unset, .unset] [(.int (4 : Int32)), (.ref bs), (.ref b13), (.ref b13)])) (fun t_ k_ => XS.iloadN X24.here hx rfl (hb hby own_d_ad3_47) rfl k_) ?_
  obtain ⟨_, T25, L25, X25, hQ25, st25⟩ := own_callI X24 hx hZ (y := (⟨"com/example/rowgate/rowgate/StoredValue", "<init>", "([BI)V"⟩ : MethodName)) rfl hown (hw _ (List.mem_of_getElem? (i := 43) rfl)) (hw _ (List.mem_of_getElem? (i := 6) rfl)) (hw _ (List.mem_of_getElem? (i := 4) rfl)) (hw _ (List.mem_of_getElem? (i := 7) rfl)) (by decide) (argsL := [(.ref bs), (.int (4 : Int32))]) (rest := [(.ref b13)]) (own_rm_svI l Z a0 hw [] b13 bs (4 : Int32) h13 n0 f17 A13 g_b13 F13_bytes F13_file F13_offset F13_length) e24 (W := 1) (by decide) (by decide) (by decide) (by decide) (g := (mkF m 48 #[.val (.ref a), .val (.ref xt), .val (.int (4 : Int32)), .unset, .unset] [(.int (4 : Int32)), (.ref bs), (.ref b13), (.ref b13)])) rfl (by rw [hml]; rfl) (lenOf own_pd1 rfl) rfl (by show 2 * 0 + _ ≤ _; exact Nat.le_of_eq rfl) (hb hby own_d_ad3_48)
  obtain ⟨rfl, Nq25, Kq25, Eq25, Fq25_bytes, Fq25_file, Fq25_offset, Fq25_length⟩ := hQ25
  have N25 := Fr.app N6 Nq25
  have f26 := Nat.le_trans f17 Kq25.1
  have f27 := Fld.keep f18 Kq25 (ninS ne14 nin0)
  have f28 := Fld.keep f19 Kq25 (ninS ne14 nin0)
  have f29 := Exa.keep f20 Kq25
  have f30 := own_Ia_keep Kq25 f21 (ninS ne15 nin0)
  have f31 := Keep.trans f22 Kq25 (allS (Or.inr k_b13) all0)
  have f32 := own_Ia_keep Kq25 f23 (ninS ne16 nin0)
  have f33 := Exa.keep A13 Kq25
  refine st25 _ ?_
  show own_Goes p e below _ T25 (mkF m 51 #[.val (.ref a), .val (.ref xt), .val (.int (4 : Int32)), .unset, .unset] [(.ref b13)])
  refine own_retR X25 hx Bd.returns hlk rfl rfl (hb hby own_d_ad3_51) (by decide) (by decide) ?_
  exact ⟨b13, rfl, N25, f31, f33, Fq25_bytes, Fq25_length, f32⟩
theorem own_pd2 : parseMethodDescriptor "(II)I" = some ⟨[.int, .int], some .int⟩ := by decide +kernel
theorem own_pd3 : parseMethodDescriptor "([B)V" = some ⟨[(.array .byte)], none⟩ := by decide +kernel
theorem own_d_ad4_0 : decode prog_43_method_10_code 0 = .ok (.aload_n 0, 1) := by decide +kernel
theorem own_d_ad4_1 : decode prog_43_method_10_code 1 = .ok (.getfield 26, 3) := by decide +kernel
theorem own_d_ad4_4 : decode prog_43_method_10_code 4 = .ok (.aload_n 1, 1) := by decide +kernel
theorem own_d_ad4_5 : decode prog_43_method_10_code 5 = .ok (.arraylength, 1) := by decide +kernel
theorem own_d_ad4_6 : decode prog_43_method_10_code 6 = .ok (.iadd, 1) := by decide +kernel
theorem own_d_ad4_7 : decode prog_43_method_10_code 7 = .ok (.istore_n 2, 1) := by decide +kernel
theorem own_d_ad4_8 : decode prog_43_method_10_code 8 = .ok (.aload_n 0, 1) := by decide +kernel
theorem own_d_ad4_9 : decode prog_43_method_10_code 9 = .ok (.getfield 14, 3) := by decide +kernel
theorem own_d_ad4_12 : decode prog_43_method_10_code 12 = .ok (.ifnull 40, 3) := by decide +kernel
theorem own_d_ad4_15 : decode prog_43_method_10_code 15 = .ok (.iload_n 2, 1) := by decide +kernel
theorem own_d_ad4_16 : decode prog_43_method_10_code 16 = .ok (.aload_n 0, 1) := by decide +kernel
theorem own_d_ad4_17 : decode prog_43_method_10_code 17 = .ok (.getfield 14, 3) := by decide +kernel
theorem own_d_ad4_20 : decode prog_43_method_10_code 20 = .ok (.arraylength, 1) := by decide +kernel
theorem own_d_ad4_21 : decode prog_43_method_10_code 21 = .ok (.if_icmp .gt 31, 3) := by decide +kernel
theorem own_d_ad4_52 : decode prog_43_method_10_code 52 = .ok (.aload_n 0, 1) := by decide +kernel
theorem own_d_ad4_53 : decode prog_43_method_10_code 53 = .ok (.getfield 14, 3) := by decide +kernel
theorem own_d_ad4_56 : decode prog_43_method_10_code 56 = .ok (.ifnonnull 7, 3) := by decide +kernel
theorem own_d_ad4_63 : decode prog_43_method_10_code 63 = .ok (.iload_n 2, 1) := by decide +kernel
theorem own_d_ad4_64 : decode prog_43_method_10_code 64 = .ok (.iconst 2, 1) := by decide +kernel
theorem own_d_ad4_65 : decode prog_43_method_10_code 65 = .ok (.idiv, 1) := by decide +kernel
theorem own_d_ad4_66 : decode prog_43_method_10_code 66 = .ok (.ldc 73, 2) := by decide +kernel
theorem own_d_ad4_68 : decode prog_43_method_10_code 68 = .ok (.iload_n 2, 1) := by decide +kernel
theorem own_d_ad4_69 : decode prog_43_method_10_code 69 = .ok (.isub, 1) := by decide +kernel
theorem own_d_ad4_70 : decode prog_43_method_10_code 70 = .ok (.invokestatic 74, 3) := by decide +kernel
theorem own_d_ad4_73 : decode prog_43_method_10_code 73 = .ok (.istore_n 3, 1) := by decide +kernel
theorem own_d_ad4_74 : decode prog_43_method_10_code 74 = .ok (.iload_n 2, 1) := by decide +kernel
theorem own_d_ad4_75 : decode prog_43_method_10_code 75 = .ok (.iload_n 3, 1) := by decide +kernel
theorem own_d_ad4_76 : decode prog_43_method_10_code 76 = .ok (.iadd, 1) := by decide +kernel
theorem own_d_ad4_77 : decode prog_43_method_10_code 77 = .ok (.newarray .byte, 2) := by decide +kernel
theorem own_d_ad4_79 : decode prog_43_method_10_code 79 = .ok (.astore 4, 2) := by decide +kernel
theorem own_d_ad4_81 : decode prog_43_method_10_code 81 = .ok (.aload_n 0, 1) := by decide +kernel
theorem own_d_ad4_82 : decode prog_43_method_10_code 82 = .ok (.aload 4, 2) := by decide +kernel
theorem own_d_ad4_84 : decode prog_43_method_10_code 84 = .ok (.invokevirtual 41, 3) := by decide +kernel
theorem own_d_ad4_87 : decode prog_43_method_10_code 87 = .ok (.aload_n 1, 1) := by decide +kernel
theorem own_d_ad4_88 : decode prog_43_method_10_code 88 = .ok (.iconst 0, 1) := by decide +kernel
theorem own_d_ad4_89 : decode prog_43_method_10_code 89 = .ok (.aload 4, 2) := by decide +kernel
theorem own_d_ad4_91 : decode prog_43_method_10_code 91 = .ok (.aload_n 0, 1) := by decide +kernel
theorem own_d_ad4_92 : decode prog_43_method_10_code 92 = .ok (.getfield 26, 3) := by decide +kernel
theorem own_d_ad4_95 : decode prog_43_method_10_code 95 = .ok (.aload_n 1, 1) := by decide +kernel
theorem own_d_ad4_96 : decode prog_43_method_10_code 96 = .ok (.arraylength, 1) := by decide +kernel
theorem own_d_ad4_97 : decode prog_43_method_10_code 97 = .ok (.invokestatic 45, 3) := by decide +kernel
theorem own_d_ad4_100 : decode prog_43_method_10_code 100 = .ok (.new 4, 3) := by decide +kernel
theorem own_d_ad4_103 : decode prog_43_method_10_code 103 = .ok (.dup, 1) := by decide +kernel
theorem own_d_ad4_104 : decode prog_43_method_10_code 104 = .ok (.aload 4, 2) := by decide +kernel
theorem own_d_ad4_106 : decode prog_43_method_10_code 106 = .ok (.iload_n 2, 1) := by decide +kernel
theorem own_d_ad4_107 : decode prog_43_method_10_code 107 = .ok (.invokespecial 3, 3) := by decide +kernel
theorem own_d_ad4_110 : decode prog_43_method_10_code 110 = .ok (.areturn, 1) := by decide +kernel
theorem own_ef_ad4 (m : MethodId) (a : Addr) (xt : Addr) : entryFrame m #[(.ref a), (.ref xt)] 5 = mkF m 0 #[.val (.ref a), .val (.ref xt), .unset, .unset, .unset] [] := by first | (simp [entryFrame, mkF, argsToLocals, Value.category]; done) | rfl
def own_Q_ad4 (Z : State) (a : Addr) (xt : Addr) (bs : Addr) (f : Nat → Int32) (xf : Nat → Int32) (h0 : Heap) (n0 : Nat) (v : Option Value) (h : Heap) (L : List Loc) : Prop := ∃ (ww t7 : Addr) (g7 : Nat → Int32), v = some (.ref ww) ∧ Fr n0 L ∧ Keep h0 h [] ∧ Exa Z h ww "com/example/rowgate/rowgate/StoredValue" ∧ Fld Z h ww "com/example/rowgate/rowgate/StoredValue" "bytes" "[B" (.ref t7) ∧ Fld Z h ww "com/example/rowgate/rowgate/StoredValue" "length" "I" (.int (5 : Int32)) ∧ own_Ia Z h t7 .byte 7 (fun i => if 4 ≤ i ∧ i < 5 then xf (0 + (i - 4)) else (if 0 ≤ i ∧ i < 4 then f (0 + (i - 0)) else g7 i)) ∧ bs ≠ t7
set_option maxRecDepth 65536 in
set_option maxHeartbeats 40000000 in
theorem own_rm_ad4 (l : Launch) (Z : State) (a0 : Array Value) (hw : ∀ d ∈ tables_1, d.before a0 Z = true) (ws : List Jvm.Cond) (a : Addr) (xt : Addr) (bs : Addr) (f : Nat → Int32) (xf : Nat → Int32) (h0 : Heap) (n0 : Nat) (Z0 : n0 ≤ h0.size) (F0 : Fld Z h0 a "com/example/rowgate/rowgate/StoredValue" "bytes" "[B" (.ref bs)) (F1 : Fld Z h0 a "com/example/rowgate/rowgate/StoredValue" "length" "I" (.int (4 : Int32))) (E0 : Exa Z h0 a "com/example/rowgate/rowgate/StoredValue") (V0 : own_Ia Z h0 bs .byte 4 f) (V1 : own_Ia Z h0 xt .byte 1 xf) (G1 : n0 ≤ bs) (n1 : a ≠ bs) (n2 : xt ≠ bs) :
    MetFree l (⟨"com/example/rowgate/rowgate/StoredValue", "appended", "([B)Lcom/example/rowgate/rowgate/StoredValue;"⟩ : MethodName) (head1 (Jvm.Cond.code (⟨"com/example/rowgate/rowgate/StoredValue", "appended", "([B)Lcom/example/rowgate/rowgate/StoredValue;"⟩ : MethodName) prog_43_method_10_code 5 (some (.object "com/example/rowgate/rowgate/StoredValue")) :: ws) ({ frames := 2, cells := 2, slots := 11, locals := 31 } : Room)) (fun a_ U_ => a_ = #[(.ref a), (.ref xt)] ∧ Z.Warmed39 U_.vm ∧ U_.heap = h0) (fun _ _ _ _ _ => True) (fun _ U_ o_ U'_ => ∃ v_ L_, o_ = .returned v_ ∧ own_Q_ad4 Z a xt bs f xf h0 n0 v_ U'_.heap L_ ∧ FrameEnd U_ o_ U'_ L_ ({ frames := 2, cells := 2, slots := 11, locals := 31 } : Room).cells ({ frames := 2, cells := 2, slots := 11, locals := 31 } : Room).slots) := by
  refine MetFree.of_bodySF (plainFor_of_name own_pn_com_example_rowgate_rowgate_StoredValue) hisR ?_
  intro p e s m args below meth c s₁ Bd hml0 hP hK
  obtain ⟨rfl, hZ, hh⟩ := hP
  have hx := Bd.exec
  have hby := Bd.bytes
  have hlk : meth.locks = false := BodyLoose.notSynchronized Bd
  have hml : c.maxLocals = 5 := hml0
  have hown : s.vm.findClass "com/example/rowgate/rowgate/StoredValue" = some m.cls := findClass_of_methodNamed Bd.named
  have hnm := (name_of_methodNamed Bd.named Bd.method).1
  have X0 : Stand p l e ({ frames := 2, cells := 2, slots := 11, locals := 31 } : Room) s m #[(.ref a), (.ref xt)] below meth c s₁ [] 0 0 := Stand.of_body Bd
  have e0 : s₁.heap = h0 := by rw [← hh, Bd.state]; rfl
  have N0 := Fr.nil n0
  show own_Goes p e below (own_K (own_Q_ad4 Z a xt bs f xf h0 n0) s ({ frames := 2, cells := 2, slots := 11, locals := 31 } : Room).cells ({ frames := 2, cells := 2, slots := 11, locals := 31 } : Room).slots) s₁ (entryFrame m #[(.ref a), (.ref xt)] 5)
  rw [own_ef_ad4]
  have K0 := Keep.refl h0 []
  refine own_by (T' := s₁) (g' := (mkF m 1 #[.val (.ref a), .val (.ref xt), .unset, .unset, .unset] [(.ref a)])) (fun t_ k_ => XS.aloadN X0.here hx rfl (hb hby own_d_ad4_0) rfl rfl k_) ?_
  obtain ⟨T1, X1, e1, st1⟩ := getF X0 hx hZ hown (host := "") (Or.inl (hw _ (List.mem_of_getElem? (i := 17) rfl))) Via.refl e0 F1 (g := (mkF m 1 #[.val (.ref a), .val (.ref xt), .unset, .unset, .unset] [(.ref a)])) rfl rfl (hb hby own_d_ad4_1)
  refine own_by (T' := T1) (g' := (mkF m 4 #[.val (.ref a), .val (.ref xt), .unset, .unset, .unset] [(.int (4 : Int32))])) st1 ?_
  refine own_by (T' := T1) (g' := (mkF m 5 #[.val (.ref a), .val (.ref xt), .unset, .unset, .unset] [(.ref xt), (.int (4 : Int32))])) (fun t_ k_ => XS.aloadN X1.here hx rfl (hb hby own_d_ad4_4) rfl rfl k_) ?_
  refine own_by (T' := T1) (g' := (mkF m 6 #[.val (.ref a), .val (.ref xt), .unset, .unset, .unset] [(.int (1 : Int32)), (.int (4 : Int32))])) (fun t_ k_ => own_alen X1 hx hZ e1 V1 (z := (1 : Int32)) rfl (g := (mkF m 5 #[.val (.ref a), .val (.ref xt), .unset, .unset, .unset] [(.ref xt), (.int (4 : Int32))])) rfl rfl (hb hby own_d_ad4_5) _ k_) ?_
  refine own_by (T' := T1) (g' := (mkF m 7 #[.val (.ref a), .val (.ref xt), .unset, .unset, .unset] [(.int (5 : Int32))])) (fun t_ k_ => XS.iadd X1.here hx rfl (hb hby own_d_ad4_6) rfl k_) ?_
  refine own_by (T' := T1) (g' := (mkF m 8 #[.val (.ref a), .val (.ref xt), .val (.int (5 : Int32)), .unset, .unset] [])) (fun t_ k_ => XS.istoreN X1.here hx rfl (hb hby own_d_ad4_7) rfl (l' := #[.val (.ref a), .val (.ref xt), .val (.int (5 : Int32)), .unset, .unset]) rfl k_) ?_
  refine own_by (T' := T1) (g' := (mkF m 9 #[.val (.ref a), .val (.ref xt), .val (.int (5 : Int32)), .unset, .unset] [(.ref a)])) (fun t_ k_ => XS.aloadN X1.here hx rfl (hb hby own_d_ad4_8) rfl rfl k_) ?_
  obtain ⟨T2, X2, e2, st2⟩ := getF X1 hx hZ hown (host := "") (Or.inl (hw _ (List.mem_of_getElem? (i := 11) rfl))) Via.refl e1 F0 (g := (mkF m 9 #[.val (.ref a), .val (.ref xt), .val (.int (5 : Int32)), .unset, .unset] [(.ref a)])) rfl rfl (hb hby own_d_ad4_9)
  refine own_by (T' := T2) (g' := (mkF m 12 #[.val (.ref a), .val (.ref xt), .val (.int (5 : Int32)), .unset, .unset] [(.ref bs)])) st2 ?_
  refine own_by (T' := T2) (g' := (mkF m 15 #[.val (.ref a), .val (.ref xt), .val (.int (5 : Int32)), .unset, .unset] [])) (fun t_ k_ => XS.ifnullNo X2.here hx rfl (hb hby own_d_ad4_12) rfl k_) ?_
  refine own_by (T' := T2) (g' := (mkF m 16 #[.val (.ref a), .val (.ref xt), .val (.int (5 : Int32)), .unset, .unset] [(.int (5 : Int32))])) (fun t_ k_ => XS.iloadN X2.here hx rfl (hb hby own_d_ad4_15) rfl k_) ?_
  refine own_by (T' := T2) (g' := (mkF m 17 #[.val (.ref a), .val (.ref xt), .val (.int (5 : Int32)), .unset, .unset] [(.ref a), (.int (5 : Int32))])) (fun t_ k_ => XS.aloadN X2.here hx rfl (hb hby own_d_ad4_16) rfl rfl k_) ?_
  obtain ⟨T3, X3, e3, st3⟩ := getF X2 hx hZ hown (host := "") (Or.inl (hw _ (List.mem_of_getElem? (i := 11) rfl))) Via.refl e2 F0 (g := (mkF m 17 #[.val (.ref a), .val (.ref xt), .val (.int (5 : Int32)), .unset, .unset] [(.ref a), (.int (5 : Int32))])) rfl rfl (hb hby own_d_ad4_17)
  refine own_by (T' := T3) (g' := (mkF m 20 #[.val (.ref a), .val (.ref xt), .val (.int (5 : Int32)), .unset, .unset] [(.ref bs), (.int (5 : Int32))])) st3 ?_
  refine own_by (T' := T3) (g' := (mkF m 21 #[.val (.ref a), .val (.ref xt), .val (.int (5 : Int32)), .unset, .unset] [(.int (4 : Int32)), (.int (5 : Int32))])) (fun t_ k_ => own_alen X3 hx hZ e3 V0 (z := (4 : Int32)) rfl (g := (mkF m 20 #[.val (.ref a), .val (.ref xt), .val (.int (5 : Int32)), .unset, .unset] [(.ref bs), (.int (5 : Int32))])) rfl rfl (hb hby own_d_ad4_20) _ k_) ?_
  refine own_by (T' := T3) (g' := (mkF m 52 #[.val (.ref a), .val (.ref xt), .val (.int (5 : Int32)), .unset, .unset] [])) (fun t_ k_ => XS.icmpYes X3.here hx rfl (pc0 := 21) (pc' := 52) rfl (hb hby own_d_ad4_21) rfl (tlt ((by decide) : (4 : Int32) < (5 : Int32))).2.2.1 (by decide) (by decide) k_) ?_
  refine own_by (T' := T3) (g' := (mkF m 53 #[.val (.ref a), .val (.ref xt), .val (.int (5 : Int32)), .unset, .unset] [(.ref a)])) (fun t_ k_ => XS.aloadN X3.here hx rfl (hb hby own_d_ad4_52) rfl rfl k_) ?_
  obtain ⟨T4, X4, e4, st4⟩ := getF X3 hx hZ hown (host := "") (Or.inl (hw _ (List.mem_of_getElem? (i := 11) rfl))) Via.refl e3 F0 (g := (mkF m 53 #[.val (.ref a), .val (.ref xt), .val (.int (5 : Int32)), .unset, .unset] [(.ref a)])) rfl rfl (hb hby own_d_ad4_53)
  refine own_by (T' := T4) (g' := (mkF m 56 #[.val (.ref a), .val (.ref xt), .val (.int (5 : Int32)), .unset, .unset] [(.ref bs)])) st4 ?_
  refine own_by (T' := T4) (g' := (mkF m 63 #[.val (.ref a), .val (.ref xt), .val (.int (5 : Int32)), .unset, .unset] [])) (fun t_ k_ => XS.ifnonnullYes X4.here hx rfl (pc0 := 56) (pc' := 63) rfl (hb hby own_d_ad4_56) rfl (by decide) (by decide) k_) ?_
  refine own_by (T' := T4) (g' := (mkF m 64 #[.val (.ref a), .val (.ref xt), .val (.int (5 : Int32)), .unset, .unset] [(.int (5 : Int32))])) (fun t_ k_ => XS.iloadN X4.here hx rfl (hb hby own_d_ad4_63) rfl k_) ?_
  refine own_by (T' := T4) (g' := (mkF m 65 #[.val (.ref a), .val (.ref xt), .val (.int (5 : Int32)), .unset, .unset] [(.int (2 : Int32)), (.int (5 : Int32))])) (fun t_ k_ => XS.iconst X4.here hx rfl (hb hby own_d_ad4_64) k_) ?_
  refine own_by (T' := T4) (g' := (mkF m 66 #[.val (.ref a), .val (.ref xt), .val (.int (5 : Int32)), .unset, .unset] [(.int (2 : Int32))])) (fun t_ k_ => XS.idiv X4.here hx rfl (hb hby own_d_ad4_65) rfl (by decide) k_) ?_
  refine own_by (T' := T4) (g' := (mkF m 68 #[.val (.ref a), .val (.ref xt), .val (.int (5 : Int32)), .unset, .unset] [(.int (2147483639 : Int32)), (.int (2 : Int32))])) (fun t_ k_ => X4.ldcInt hx hown (mvT hZ (hw _ (List.mem_of_getElem? (i := 50) rfl))) (g := (mkF m 66 #[.val (.ref a), .val (.ref xt), .val (.int (5 : Int32)), .unset, .unset] [(.int (2 : Int32))])) rfl (hb hby own_d_ad4_66) _ k_) ?_
  refine own_by (T' := T4) (g' := (mkF m 69 #[.val (.ref a), .val (.ref xt), .val (.int (5 : Int32)), .unset, .unset] [(.int (5 : Int32)), (.int (2147483639 : Int32)), (.int (2 : Int32))])) (fun t_ k_ => XS.iloadN X4.here hx rfl (hb hby own_d_ad4_68) rfl k_) ?_
  refine own_by (T' := T4) (g' := (mkF m 70 #[.val (.ref a), .val (.ref xt), .val (.int (5 : Int32)), .unset, .unset] [(.int (2147483634 : Int32)), (.int (2 : Int32))])) (fun t_ k_ => XS.isub X4.here hx rfl (hb hby own_d_ad4_69) rfl k_) ?_
  obtain ⟨_, T5, L5, X5, hQ5, st5⟩ := own_callS X4 hx hZ (y := (⟨"java/lang/Math", "min", "(II)I"⟩ : MethodName)) hown (hw _ (List.mem_of_getElem? (i := 51) rfl)) (hw _ (List.mem_of_getElem? (i := 52) rfl)) (hw _ (List.mem_of_getElem? (i := 53) rfl)) (hw _ (List.mem_of_getElem? (i := 54) rfl)) (by decide) (argsL := [(.int (2 : Int32)), (.int (2147483634 : Int32))]) (rest := []) (own_rm_mi l Z a0 hw [] (2 : Int32) (2147483634 : Int32)  h0 n0 Z0 ) e4 (W := 0) (by decide) (by decide) (by decide) (by decide) (g := (mkF m 70 #[.val (.ref a), .val (.ref xt), .val (.int (5 : Int32)), .unset, .unset] [(.int (2147483634 : Int32)), (.int (2 : Int32))])) rfl (by rw [hml]; rfl) (lenOf own_pd2 rfl) rfl (by show 2 * 0 + _ ≤ _; exact Nat.le_of_eq rfl) (hb hby own_d_ad4_70)
  obtain ⟨rfl, Nq5, e5⟩ := hQ5
  have N5 := Fr.app N0 Nq5
  refine st5 _ ?_
  show own_Goes p e below _ T5 (mkF m 73 #[.val (.ref a), .val (.ref xt), .val (.int (5 : Int32)), .unset, .unset] [(.int (2 : Int32))])
  refine own_by (T' := T5) (g' := (mkF m 74 #[.val (.ref a), .val (.ref xt), .val (.int (5 : Int32)), .val (.int (2 : Int32)), .unset] [])) (fun t_ k_ => XS.istoreN X5.here hx rfl (hb hby own_d_ad4_73) rfl (l' := #[.val (.ref a), .val (.ref xt), .val (.int (5 : Int32)), .val (.int (2 : Int32)), .unset]) rfl k_) ?_
  refine own_by (T' := T5) (g' := (mkF m 75 #[.val (.ref a), .val (.ref xt), .val (.int (5 : Int32)), .val (.int (2 : Int32)), .unset] [(.int (5 : Int32))])) (fun t_ k_ => XS.iloadN X5.here hx rfl (hb hby own_d_ad4_74) rfl k_) ?_
  refine own_by (T' := T5) (g' := (mkF m 76 #[.val (.ref a), .val (.ref xt), .val (.int (5 : Int32)), .val (.int (2 : Int32)), .unset] [(.int (2 : Int32)), (.int (5 : Int32))])) (fun t_ k_ => XS.iloadN X5.here hx rfl (hb hby own_d_ad4_75) rfl k_) ?_
  refine own_by (T' := T5) (g' := (mkF m 77 #[.val (.ref a), .val (.ref xt), .val (.int (5 : Int32)), .val (.int (2 : Int32)), .unset] [(.int (7 : Int32))])) (fun t_ k_ => XS.iadd X5.here hx rfl (hb hby own_d_ad4_76) rfl k_) ?_
  obtain ⟨T6, h6, k6, X6, e6, E6, A6, st6⟩ := newP X5 hx hZ (hw _ (List.mem_of_getElem? (i := 0) rfl)) e5 (g := (mkF m 77 #[.val (.ref a), .val (.ref xt), .val (.int (5 : Int32)), .val (.int (2 : Int32)), .unset] [(.int (7 : Int32))])) rfl (hb hby own_d_ad4_77) rfl (by decide) (cap := 7) (by decide) (by decide) (by decide) (by decide)
  obtain ⟨b6, g6⟩ : ∃ z, z = h0.size := ⟨_, rfl⟩
  rw [← g6] at A6 st6
  have g_b6 : n0 ≤ b6 := Nat.le_trans Z0 (Nat.le_of_eq g6.symm)
  have ne7 : a ≠ b6 := Nat.ne_of_lt (Nat.lt_of_lt_of_le F0.lt (Nat.le_of_eq g6.symm))
  have ne8 : bs ≠ b6 := Nat.ne_of_lt (Nat.lt_of_lt_of_le (own_Ia_lt V0) (Nat.le_of_eq g6.symm))
  have ne9 : xt ≠ b6 := Nat.ne_of_lt (Nat.lt_of_lt_of_le (own_Ia_lt V1) (Nat.le_of_eq g6.symm))
  have k_b6 : h0.size ≤ b6 := Nat.le_trans K0.1 (Nat.le_of_eq g6.symm)
  have f10 := Nat.le_trans Z0 E6.1
  have f11 := Fld.ext E6 F0
  have f12 := Fld.ext E6 F1
  have f13 := Exa.ext E6 E0
  have f14 := own_Ia_ext E6 V0
  have f15 := own_Ia_ext E6 V1
  have f16 := K0.ext E6
  have V6 : own_Ia Z h6 b6 .byte 7 (fun _ => (0 : Int32)) := own_Ia_new A6 rfl rfl rfl
  refine own_by (T' := T6) (g' := (mkF m 79 #[.val (.ref a), .val (.ref xt), .val (.int (5 : Int32)), .val (.int (2 : Int32)), .unset] [(.ref b6)])) st6 ?_
  refine own_by (T' := T6) (g' := (mkF m 81 #[.val (.ref a), .val (.ref xt), .val (.int (5 : Int32)), .val (.int (2 : Int32)), .val (.ref b6)] [])) (fun t_ k_ => XS.astore X6.here hx rfl (hb hby own_d_ad4_79) rfl rfl (l' := #[.val (.ref a), .val (.ref xt), .val (.int (5 : Int32)), .val (.int (2 : Int32)), .val (.ref b6)]) rfl k_) ?_
  refine own_by (T' := T6) (g' := (mkF m 82 #[.val (.ref a), .val (.ref xt), .val (.int (5 : Int32)), .val (.int (2 : Int32)), .val (.ref b6)] [(.ref a)])) (fun t_ k_ => XS.aloadN X6.here hx rfl (hb hby own_d_ad4_81) rfl rfl k_) ?_
  refine own_by (T' := T6) (g' := (mkF m 84 #[.val (.ref a), .val (.ref xt), .val (.int (5 : Int32)), .val (.int (2 : Int32)), .val (.ref b6)] [(.ref b6), (.ref a)])) (fun t_ k_ => XS.aload X6.here hx rfl (hb hby own_d_ad4_82) rfl rfl k_) ?_
  obtain ⟨_, T17, L17, X17, hQ17, st17⟩ := own_callV X6 hx hZ (y := (⟨"com/example/rowgate/rowgate/StoredValue", "copyTo", "([B)V"⟩ : MethodName)) hown (hw _ (List.mem_of_getElem? (i := 55) rfl)) (hw _ (List.mem_of_getElem? (i := 56) rfl)) (hw _ (List.mem_of_getElem? (i := 58) rfl)) (hw _ (List.mem_of_getElem? (i := 57) rfl)) (hw _ (List.mem_of_getElem? (i := 4) rfl)) (hw _ (List.mem_of_getElem? (i := 59) rfl)) (by decide) (argsL := [(.ref b6)]) (rest := []) f13 (own_rm_cp l Z a0 hw [] a b6 bs f (fun _ => (0 : Int32)) h6 n0 f10 f11 f12 f13 f14 V6 g_b6 ne7 ne8) e6 (W := 0) (by decide) (by decide) (by decide) (by decide) (g := (mkF m 84 #[.val (.ref a), .val (.ref xt), .val (.int (5 : Int32)), .val (.int (2 : Int32)), .val (.ref b6)] [(.ref b6), (.ref a)])) rfl (by rw [hml]; rfl) (lenOf own_pd3 rfl) rfl (by show 2 * 0 + _ ≤ _; exact Nat.le_of_eq rfl) (hb hby own_d_ad4_84)
  obtain ⟨rfl, Nq17, Kq17, Vq17⟩ := hQ17
  have N17 := Fr.app N5 Nq17
  have f18 := Nat.le_trans f10 Kq17.1
  have f19 := Fld.keep f11 Kq17 (ninS ne7 nin0)
  have f20 := Fld.keep f12 Kq17 (ninS ne7 nin0)
  have f21 := Exa.keep f13 Kq17
  have f22 := own_Ia_keep Kq17 f14 (ninS ne8 nin0)
  have f23 := own_Ia_keep Kq17 f15 (ninS ne9 nin0)
  have f24 := Keep.trans f16 Kq17 (allS (Or.inr k_b6) all0)
  refine st17 _ ?_
  show own_Goes p e below _ T17 (mkF m 87 #[.val (.ref a), .val (.ref xt), .val (.int (5 : Int32)), .val (.int (2 : Int32)), .val (.ref b6)] [])
  refine own_by (T' := T17) (g' := (mkF m 88 #[.val (.ref a), .val (.ref xt), .val (.int (5 : Int32)), .val (.int (2 : Int32)), .val (.ref b6)] [(.ref xt)])) (fun t_ k_ => XS.aloadN X17.here hx rfl (hb hby own_d_ad4_87) rfl rfl k_) ?_
  refine own_by (T' := T17) (g' := (mkF m 89 #[.val (.ref a), .val (.ref xt), .val (.int (5 : Int32)), .val (.int (2 : Int32)), .val (.ref b6)] [(.int (0 : Int32)), (.ref xt)])) (fun t_ k_ => XS.iconst X17.here hx rfl (hb hby own_d_ad4_88) k_) ?_
  refine own_by (T' := T17) (g' := (mkF m 91 #[.val (.ref a), .val (.ref xt), .val (.int (5 : Int32)), .val (.int (2 : Int32)), .val (.ref b6)] [(.ref b6), (.int (0 : Int32)), (.ref xt)])) (fun t_ k_ => XS.aload X17.here hx rfl (hb hby own_d_ad4_89) rfl rfl k_) ?_
  refine own_by (T' := T17) (g' := (mkF m 92 #[.val (.ref a), .val (.ref xt), .val (.int (5 : Int32)), .val (.int (2 : Int32)), .val (.ref b6)] [(.ref a), (.ref b6), (.int (0 : Int32)), (.ref xt)])) (fun t_ k_ => XS.aloadN X17.here hx rfl (hb hby own_d_ad4_91) rfl rfl k_) ?_
  obtain ⟨T25, X25, e25, st25⟩ := getF X17 hx hZ hown (host := "") (Or.inl (hw _ (List.mem_of_getElem? (i := 17) rfl))) Via.refl rfl f20 (g := (mkF m 92 #[.val (.ref a), .val (.ref xt), .val (.int (5 : Int32)), .val (.int (2 : Int32)), .val (.ref b6)] [(.ref a), (.ref b6), (.int (0 : Int32)), (.ref xt)])) rfl rfl (hb hby own_d_ad4_92)
  refine own_by (T' := T25) (g' := (mkF m 95 #[.val (.ref a), .val (.ref xt), .val (.int (5 : Int32)), .val (.int (2 : Int32)), .val (.ref b6)] [(.int (4 : Int32)), (.ref b6), (.int (0 : Int32)), (.ref xt)])) st25 ?_
  refine own_by (T' := T25) (g' := (mkF m 96 #[.val (.ref a), .val (.ref xt), .val (.int (5 : Int32)), .val (.int (2 : Int32)), .val (.ref b6)] [(.ref xt), (.int (4 : Int32)), (.ref b6), (.int (0 : Int32)), (.ref xt)])) (fun t_ k_ => XS.aloadN X25.here hx rfl (hb hby own_d_ad4_95) rfl rfl k_) ?_
  refine own_by (T' := T25) (g' := (mkF m 97 #[.val (.ref a), .val (.ref xt), .val (.int (5 : Int32)), .val (.int (2 : Int32)), .val (.ref b6)] [(.int (1 : Int32)), (.int (4 : Int32)), (.ref b6), (.int (0 : Int32)), (.ref xt)])) (fun t_ k_ => own_alen X25 hx hZ e25 f23 (z := (1 : Int32)) rfl (g := (mkF m 96 #[.val (.ref a), .val (.ref xt), .val (.int (5 : Int32)), .val (.int (2 : Int32)), .val (.ref b6)] [(.ref xt), (.int (4 : Int32)), (.ref b6), (.int (0 : Int32)), (.ref xt)])) rfl rfl (hb hby own_d_ad4_96) _ k_) ?_
  obtain ⟨T26, h26, L26, X26, e26, N26, Kc26, Vc26, st26⟩ := own_cp X25 hx hZ hown (hw _ (List.mem_of_getElem? (i := 38) rfl)) (hw _ (List.mem_of_getElem? (i := 41) rfl)) (hw _ (List.mem_of_getElem? (i := 39) rfl)) (hw _ (List.mem_of_getElem? (i := 40) rfl)) e25 f23 Vq17 rfl (by decide) (by decide) (sp := (0 : Int32)) (dp := (4 : Int32)) (nn := (1 : Int32)) (by decide) (by decide) (by decide) (by decide) (by decide) N17 g_b6 (g := (mkF m 97 #[.val (.ref a), .val (.ref xt), .val (.int (5 : Int32)), .val (.int (2 : Int32)), .val (.ref b6)] [(.int (1 : Int32)), (.int (4 : Int32)), (.ref b6), (.int (0 : Int32)), (.ref xt)])) rfl (by rw [hml]; rfl) rfl (hb hby own_d_ad4_97) (by decide) (W := 0) (by show 2 * 0 + _ ≤ _; exact Nat.le_of_eq rfl) (by decide)
  have Vd26 : own_Ia Z h26 b6 .byte 7 (fun i => if 4 ≤ i ∧ i < 5 then xf (0 + (i - 4)) else (fun i => if 0 ≤ i ∧ i < 4 then f (0 + (i - 0)) else (fun _ => (0 : Int32)) i) i) := Vc26
  have f27 := Nat.le_trans f18 Kc26.1
  have f28 := Fld.keep f19 Kc26 (ninS ne7 nin0)
  have f29 := Fld.keep f20 Kc26 (ninS ne7 nin0)
  have f30 := Exa.keep f21 Kc26
  have f31 := own_Ia_keep Kc26 f22 (ninS ne8 nin0)
  have f32 := own_Ia_keep Kc26 f23 (ninS ne9 nin0)
  have f33 := Keep.trans f24 Kc26 (allS (Or.inr k_b6) all0)
  refine own_by (T' := T26) (g' := (mkF m 100 #[.val (.ref a), .val (.ref xt), .val (.int (5 : Int32)), .val (.int (2 : Int32)), .val (.ref b6)] [])) st26 ?_
  obtain ⟨T34, h34, X34, e34, E34, A34, D34, -, st34⟩ := newO X26 hx hZ hown (hw _ (List.mem_of_getElem? (i := 42) rfl)) (hw _ (List.mem_of_getElem? (i := 3) rfl)) (hw _ (List.mem_of_getElem? (i := 4) rfl)) e26 (g := (mkF m 100 #[.val (.ref a), .val (.ref xt), .val (.int (5 : Int32)), .val (.int (2 : Int32)), .val (.ref b6)] [])) rfl (hb hby own_d_ad4_100) (by decide) (by decide)
  obtain ⟨b34, g34⟩ : ∃ z, z = h26.size := ⟨_, rfl⟩
  rw [← g34] at A34 D34 st34
  have g_b34 : n0 ≤ b34 := Nat.le_trans f27 (Nat.le_of_eq g34.symm)
  have ne35 : a ≠ b34 := Nat.ne_of_lt (Nat.lt_of_lt_of_le f28.lt (Nat.le_of_eq g34.symm))
  have ne36 : bs ≠ b34 := Nat.ne_of_lt (Nat.lt_of_lt_of_le (own_Ia_lt f31) (Nat.le_of_eq g34.symm))
  have ne37 : xt ≠ b34 := Nat.ne_of_lt (Nat.lt_of_lt_of_le (own_Ia_lt f32) (Nat.le_of_eq g34.symm))
  have ne38 : b6 ≠ b34 := Nat.ne_of_lt (Nat.lt_of_lt_of_le (own_Ia_lt Vd26) (Nat.le_of_eq g34.symm))
  have k_b34 : h0.size ≤ b34 := Nat.le_trans f33.1 (Nat.le_of_eq g34.symm)
  have f39 := Nat.le_trans f27 E34.1
  have f40 := Fld.ext E34 f28
  have f41 := Fld.ext E34 f29
  have f42 := Exa.ext E34 f30
  have f43 := own_Ia_ext E34 f31
  have f44 := own_Ia_ext E34 f32
  have f45 := f33.ext E34
  have f46 := own_Ia_ext E34 Vd26
  have F34_bytes : Fld Z h34 b34 "com/example/rowgate/rowgate/StoredValue" "bytes" "[B" .null := D34 (Or.inr (hw _ (List.mem_of_getElem? (i := 12) rfl))) (ty := (.array .byte)) (by decide)
  have F34_file : Fld Z h34 b34 "com/example/rowgate/rowgate/StoredValue" "file" "Lcom/example/rowgate/rowgate/StoredValue$FileBytes;" .null := D34 (Or.inr (hw _ (List.mem_of_getElem? (i := 14) rfl))) (ty := (.object "com/example/rowgate/rowgate/StoredValue$FileBytes")) (by decide)
  have F34_offset : Fld Z h34 b34 "com/example/rowgate/rowgate/StoredValue" "offset" "J" (.long (0 : Int64)) := D34 (Or.inr (hw _ (List.mem_of_getElem? (i := 16) rfl))) (ty := .long) (by decide)
  have F34_length : Fld Z h34 b34 "com/example/rowgate/rowgate/StoredValue" "length" "I" (.int (0 : Int32)) := D34 (Or.inr (hw _ (List.mem_of_getElem? (i := 18) rfl))) (ty := .int) (by decide)
  refine own_by (T' := T34) (g' := (mkF m 103 #[.val (.ref a), .val (.ref xt), .val (.int (5 : Int32)), .val (.int (2 : Int32)), .val (.ref b6)] [(.ref b34)])) st34 ?_
  refine own_by (T' := T34) (g' := (mkF m 104 #[.val (.ref a), .val (.ref xt), .val (.int (5 : Int32)), .val (.int (2 : Int32)), .val (.ref b6)] [(.ref b34), (.ref b34)])) (fun t_ k_ => XS.dup X34.here hx rfl (hb hby own_d_ad4_103) rfl rfl k_) ?_
  refine own_by (T' := T34) (g' := (mkF m 106 #[.val (.ref a), .val (.ref xt), .val (.int (5 : Int32)), .val (.int (2 : Int32)), .val (.ref b6)] [(.ref b6), (.ref b34), (.ref b34)])) (fun t_ k_ => XS.aload X34.here hx rfl (hb hby own_d_ad4_104) rfl rfl k_) ?_
  refine own_by (T' := T34) (g' := (mkF m 107 #[.val (.ref a), .val (.ref xt), .val (.int (5 : Int32)), .val (.int (2 : Int32)), .val (.ref b6)] [(.int (5 : Int32)), (.ref b6), (.ref b34), (.ref b34)])) (fun t_ k_ => XS.iloadN X34.here hx rfl (hb hby own_d_ad4_106) rfl k_) ?_
  obtain ⟨_, T47, L47, X47, hQ47, st47⟩ := own_callI X34 hx hZ (y := (⟨"com/example/rowgate/rowgate/StoredValue", "<init>", "([BI)V"⟩ : MethodName)) rfl hown (hw _ (List.mem_of_getElem? (i := 43) rfl)) (hw _ (List.mem_of_getElem? (i := 6) rfl)) (hw _ (List.mem_of_getElem? (i := 4) rfl)) (hw _ (List.mem_of_getElem? (i := 7) rfl)) (by decide) (argsL := [(.ref b6), (.int (5 : Int32))]) (rest := [(.ref b34)]) (own_rm_svI l Z a0 hw [] b34 b6 (5 : Int32) h34 n0 f39 A34 g_b34 F34_bytes F34_file F34_offset F34_length) e34 (W := 1) (by decide) (by decide) (by decide) (by decide) (g := (mkF m 107 #[.val (.ref a), .val (.ref xt), .val (.int (5 : Int32)), .val (.int (2 : Int32)), .val (.ref b6)] [(.int (5 : Int32)), (.ref b6), (.ref b34), (.ref b34)])) rfl (by rw [hml]; rfl) (lenOf own_pd1 rfl) rfl (by show 2 * 0 + _ ≤ _; exact Nat.le_of_eq rfl) (hb hby own_d_ad4_107)
  obtain ⟨rfl, Nq47, Kq47, Eq47, Fq47_bytes, Fq47_file, Fq47_offset, Fq47_length⟩ := hQ47
  have N47 := Fr.app N26 Nq47
  have f48 := Nat.le_trans f39 Kq47.1
  have f49 := Fld.keep f40 Kq47 (ninS ne35 nin0)
  have f50 := Fld.keep f41 Kq47 (ninS ne35 nin0)
  have f51 := Exa.keep f42 Kq47
  have f52 := own_Ia_keep Kq47 f43 (ninS ne36 nin0)
  have f53 := own_Ia_keep Kq47 f44 (ninS ne37 nin0)
  have f54 := Keep.trans f45 Kq47 (allS (Or.inr k_b34) all0)
  have f55 := own_Ia_keep Kq47 f46 (ninS ne38 nin0)
  have f56 := Exa.keep A34 Kq47
  refine st47 _ ?_
  show own_Goes p e below _ T47 (mkF m 110 #[.val (.ref a), .val (.ref xt), .val (.int (5 : Int32)), .val (.int (2 : Int32)), .val (.ref b6)] [(.ref b34)])
  refine own_retR X47 hx Bd.returns hlk rfl rfl (hb hby own_d_ad4_110) (by decide) (by decide) ?_
  exact ⟨b34, b6, (fun _ => (0 : Int32)), rfl, N47, f54, f56, Fq47_bytes, Fq47_length, f55, ne8⟩
theorem own_pd4 : parseMethodDescriptor "()[B" = some ⟨[], some (.array .byte)⟩ := by decide +kernel
theorem own_pd5 : parseMethodDescriptor "([BIIII)Z" = some ⟨[(.array .byte), .int, .int, .int, .int], some .boolean⟩ := by decide +kernel
theorem own_pd6 : parseMethodDescriptor "()I" = some ⟨[], some .int⟩ := by decide +kernel
theorem own_pd7 : parseMethodDescriptor "([B)Lcom/example/rowgate/rowgate/StoredValue;" = some ⟨[(.array .byte)], some (.object "com/example/rowgate/rowgate/StoredValue")⟩ := by decide +kernel
theorem own_pd8 : parseMethodDescriptor "([BIBIIII)Z" = some ⟨[(.array .byte), .int, .byte, .int, .int, .int, .int], some .boolean⟩ := by decide +kernel
theorem own_ef_law (m : MethodId) (qa : Int32) (x0 : Int32) (x1 : Int32) (x2 : Int32) (x3 : Int32) : entryFrame m #[(.int qa), (.int x0), (.int x1), (.int x2), (.int x3)] maxLocals = mkF m 0 #[.val (.int qa), .val (.int x0), .val (.int x1), .val (.int x2), .val (.int x3), .unset, .unset, .unset, .unset, .unset, .unset, .unset, .unset, .unset] [] := by first | (simp [entryFrame, mkF, argsToLocals, Value.category, maxLocals]; done) | rfl
def own_Q_law (Z : State) (qa : Int32) (x0 : Int32) (x1 : Int32) (x2 : Int32) (x3 : Int32) (h0 : Heap) (n0 : Nat) (v : Option Value) (h : Heap) (L : List Loc) : Prop := v = some (.int 1) ∧ Fr n0 L
set_option maxRecDepth 65536 in
set_option maxHeartbeats 40000000 in
theorem own_rm_law (l : Launch) (Z : State) (a0 : Array Value) (hw : ∀ d ∈ tables_1, d.before a0 Z = true) (ws : List Jvm.Cond) (qa : Int32) (x0 : Int32) (x1 : Int32) (x2 : Int32) (x3 : Int32) (h0 : Heap) (n0 : Nat) (Z0 : n0 ≤ h0.size) :
    MetFree l x (head1 (Jvm.Cond.code x code maxLocals ret :: ws) room_1) (fun a_ U_ => a_ = #[(.int qa), (.int x0), (.int x1), (.int x2), (.int x3)] ∧ Z.Warmed39 U_.vm ∧ U_.heap = h0) (fun _ _ _ _ _ => True) (fun _ U_ o_ U'_ => ∃ v_ L_, o_ = .returned v_ ∧ own_Q_law Z qa x0 x1 x2 x3 h0 n0 v_ U'_.heap L_ ∧ FrameEnd U_ o_ U'_ L_ room_1.cells room_1.slots) := by
  refine MetFree.of_bodySF (plainFor_of_name own_pn_com_example_rowgate_rowgate_StoredValueArrayPinLaw) hisR ?_
  intro p e s m args below meth c s₁ Bd hml0 hP hK
  obtain ⟨rfl, hZ, hh⟩ := hP
  have hx := Bd.exec
  have hby := Bd.bytes
  have hlk : meth.locks = false := BodyLoose.notSynchronized Bd
  have hml : c.maxLocals = 14 := hml0
  have hown : s.vm.findClass "com/example/rowgate/rowgate/StoredValueArrayPinLaw" = some m.cls := findClass_of_methodNamed Bd.named
  have hnm := (name_of_methodNamed Bd.named Bd.method).1
  have X0 : Stand p l e room_1 s m #[(.int qa), (.int x0), (.int x1), (.int x2), (.int x3)] below meth c s₁ [] 0 0 := Stand.of_body Bd
  have e0 : s₁.heap = h0 := by rw [← hh, Bd.state]; rfl
  have N0 := Fr.nil n0
  show own_Goes p e below (own_K (own_Q_law Z qa x0 x1 x2 x3 h0 n0) s room_1.cells room_1.slots) s₁ (entryFrame m #[(.int qa), (.int x0), (.int x1), (.int x2), (.int x3)] maxLocals)
  rw [own_ef_law]
  refine own_by (T' := s₁) (g' := (mkF m 1 #[.val (.int qa), .val (.int x0), .val (.int x1), .val (.int x2), .val (.int x3), .unset, .unset, .unset, .unset, .unset, .unset, .unset, .unset, .unset] [(.int (4 : Int32))])) (fun t_ k_ => XS.iconst X0.here hx rfl (hb hby at_0) k_) ?_
  obtain ⟨T1, h1, k1, X1, e1, E1, A1, st1⟩ := newP X0 hx hZ (hw _ (List.mem_of_getElem? (i := 0) rfl)) e0 (g := (mkF m 1 #[.val (.int qa), .val (.int x0), .val (.int x1), .val (.int x2), .val (.int x3), .unset, .unset, .unset, .unset, .unset, .unset, .unset, .unset, .unset] [(.int (4 : Int32))])) rfl (hb hby at_1) rfl (by decide) (cap := 4) (by decide) (by decide) (by decide) (by decide)
  obtain ⟨b1, g1⟩ : ∃ z, z = h0.size := ⟨_, rfl⟩
  rw [← g1] at A1 st1
  have g_b1 : n0 ≤ b1 := Nat.le_trans Z0 (Nat.le_of_eq g1.symm)
  have f2 := Nat.le_trans Z0 E1.1
  have V1 : own_Ia Z h1 b1 .byte 4 (fun _ => (0 : Int32)) := own_Ia_new A1 rfl rfl rfl
  refine own_by (T' := T1) (g' := (mkF m 3 #[.val (.int qa), .val (.int x0), .val (.int x1), .val (.int x2), .val (.int x3), .unset, .unset, .unset, .unset, .unset, .unset, .unset, .unset, .unset] [(.ref b1)])) st1 ?_
  refine own_by (T' := T1) (g' := (mkF m 5 #[.val (.int qa), .val (.int x0), .val (.int x1), .val (.int x2), .val (.int x3), .val (.ref b1), .unset, .unset, .unset, .unset, .unset, .unset, .unset, .unset] [])) (fun t_ k_ => XS.astore X1.here hx rfl (hb hby at_3) rfl rfl (l' := #[.val (.int qa), .val (.int x0), .val (.int x1), .val (.int x2), .val (.int x3), .val (.ref b1), .unset, .unset, .unset, .unset, .unset, .unset, .unset, .unset]) rfl k_) ?_
  refine own_by (T' := T1) (g' := (mkF m 7 #[.val (.int qa), .val (.int x0), .val (.int x1), .val (.int x2), .val (.int x3), .val (.ref b1), .unset, .unset, .unset, .unset, .unset, .unset, .unset, .unset] [(.ref b1)])) (fun t_ k_ => XS.aload X1.here hx rfl (hb hby at_5) rfl rfl k_) ?_
  refine own_by (T' := T1) (g' := (mkF m 8 #[.val (.int qa), .val (.int x0), .val (.int x1), .val (.int x2), .val (.int x3), .val (.ref b1), .unset, .unset, .unset, .unset, .unset, .unset, .unset, .unset] [(.int (0 : Int32)), (.ref b1)])) (fun t_ k_ => XS.iconst X1.here hx rfl (hb hby at_7) k_) ?_
  refine own_by (T' := T1) (g' := (mkF m 9 #[.val (.int qa), .val (.int x0), .val (.int x1), .val (.int x2), .val (.int x3), .val (.ref b1), .unset, .unset, .unset, .unset, .unset, .unset, .unset, .unset] [(.int x0), (.int (0 : Int32)), (.ref b1)])) (fun t_ k_ => XS.iloadN X1.here hx rfl (hb hby at_8) rfl k_) ?_
  refine own_by (T' := T1) (g' := (mkF m 10 #[.val (.int qa), .val (.int x0), .val (.int x1), .val (.int x2), .val (.int x3), .val (.ref b1), .unset, .unset, .unset, .unset, .unset, .unset, .unset, .unset] [(.int x0.toInt8.toInt32), (.int (0 : Int32)), (.ref b1)])) (fun t_ k_ => XS.i2b X1.here hx rfl (hb hby at_9) rfl k_) ?_
  obtain ⟨T3, h3, X3, e3, W3, st3⟩ := own_bas X1 hx hZ e1 V1 (j := (0 : Int32)) (by decide) (by decide) (g := (mkF m 10 #[.val (.int qa), .val (.int x0), .val (.int x1), .val (.int x2), .val (.int x3), .val (.ref b1), .unset, .unset, .unset, .unset, .unset, .unset, .unset, .unset] [(.int x0.toInt8.toInt32), (.int (0 : Int32)), (.ref b1)])) rfl rfl (hb hby at_10)
  refine own_by (T' := T3) (g' := (mkF m 11 #[.val (.int qa), .val (.int x0), .val (.int x1), .val (.int x2), .val (.int x3), .val (.ref b1), .unset, .unset, .unset, .unset, .unset, .unset, .unset, .unset] [])) st3 ?_
  have N3 := Fr.snoc X3 N0 g_b1
  have f4 := Nat.le_trans f2 (Keep.of_wr W3).1
  have V5 : own_Ia Z h3 b1 .byte 4 (fun i => if i = 0 then (nar .byte x0.toInt8.toInt32) else (fun _ => (0 : Int32)) i) := own_Ia_set W3 V1 (fits_nar_byte _)
  refine own_by (T' := T3) (g' := (mkF m 13 #[.val (.int qa), .val (.int x0), .val (.int x1), .val (.int x2), .val (.int x3), .val (.ref b1), .unset, .unset, .unset, .unset, .unset, .unset, .unset, .unset] [(.ref b1)])) (fun t_ k_ => XS.aload X3.here hx rfl (hb hby at_11) rfl rfl k_) ?_
  refine own_by (T' := T3) (g' := (mkF m 14 #[.val (.int qa), .val (.int x0), .val (.int x1), .val (.int x2), .val (.int x3), .val (.ref b1), .unset, .unset, .unset, .unset, .unset, .unset, .unset, .unset] [(.int (1 : Int32)), (.ref b1)])) (fun t_ k_ => XS.iconst X3.here hx rfl (hb hby at_13) k_) ?_
  refine own_by (T' := T3) (g' := (mkF m 15 #[.val (.int qa), .val (.int x0), .val (.int x1), .val (.int x2), .val (.int x3), .val (.ref b1), .unset, .unset, .unset, .unset, .unset, .unset, .unset, .unset] [(.int x1), (.int (1 : Int32)), (.ref b1)])) (fun t_ k_ => XS.iloadN X3.here hx rfl (hb hby at_14) rfl k_) ?_
  refine own_by (T' := T3) (g' := (mkF m 16 #[.val (.int qa), .val (.int x0), .val (.int x1), .val (.int x2), .val (.int x3), .val (.ref b1), .unset, .unset, .unset, .unset, .unset, .unset, .unset, .unset] [(.int x1.toInt8.toInt32), (.int (1 : Int32)), (.ref b1)])) (fun t_ k_ => XS.i2b X3.here hx rfl (hb hby at_15) rfl k_) ?_
  obtain ⟨T6, h6, X6, e6, W6, st6⟩ := own_bas X3 hx hZ e3 V5 (j := (1 : Int32)) (by decide) (by decide) (g := (mkF m 16 #[.val (.int qa), .val (.int x0), .val (.int x1), .val (.int x2), .val (.int x3), .val (.ref b1), .unset, .unset, .unset, .unset, .unset, .unset, .unset, .unset] [(.int x1.toInt8.toInt32), (.int (1 : Int32)), (.ref b1)])) rfl rfl (hb hby at_16)
  refine own_by (T' := T6) (g' := (mkF m 17 #[.val (.int qa), .val (.int x0), .val (.int x1), .val (.int x2), .val (.int x3), .val (.ref b1), .unset, .unset, .unset, .unset, .unset, .unset, .unset, .unset] [])) st6 ?_
  have N6 := Fr.snoc X6 N3 g_b1
  have f7 := Nat.le_trans f4 (Keep.of_wr W6).1
  have V8 : own_Ia Z h6 b1 .byte 4 (fun i => if i = 1 then (nar .byte x1.toInt8.toInt32) else (fun i => if i = 0 then (nar .byte x0.toInt8.toInt32) else (fun _ => (0 : Int32)) i) i) := own_Ia_set W6 V5 (fits_nar_byte _)
  refine own_by (T' := T6) (g' := (mkF m 19 #[.val (.int qa), .val (.int x0), .val (.int x1), .val (.int x2), .val (.int x3), .val (.ref b1), .unset, .unset, .unset, .unset, .unset, .unset, .unset, .unset] [(.ref b1)])) (fun t_ k_ => XS.aload X6.here hx rfl (hb hby at_17) rfl rfl k_) ?_
  refine own_by (T' := T6) (g' := (mkF m 20 #[.val (.int qa), .val (.int x0), .val (.int x1), .val (.int x2), .val (.int x3), .val (.ref b1), .unset, .unset, .unset, .unset, .unset, .unset, .unset, .unset] [(.int (2 : Int32)), (.ref b1)])) (fun t_ k_ => XS.iconst X6.here hx rfl (hb hby at_19) k_) ?_
  refine own_by (T' := T6) (g' := (mkF m 21 #[.val (.int qa), .val (.int x0), .val (.int x1), .val (.int x2), .val (.int x3), .val (.ref b1), .unset, .unset, .unset, .unset, .unset, .unset, .unset, .unset] [(.int x2), (.int (2 : Int32)), (.ref b1)])) (fun t_ k_ => XS.iloadN X6.here hx rfl (hb hby at_20) rfl k_) ?_
  refine own_by (T' := T6) (g' := (mkF m 22 #[.val (.int qa), .val (.int x0), .val (.int x1), .val (.int x2), .val (.int x3), .val (.ref b1), .unset, .unset, .unset, .unset, .unset, .unset, .unset, .unset] [(.int x2.toInt8.toInt32), (.int (2 : Int32)), (.ref b1)])) (fun t_ k_ => XS.i2b X6.here hx rfl (hb hby at_21) rfl k_) ?_
  obtain ⟨T9, h9, X9, e9, W9, st9⟩ := own_bas X6 hx hZ e6 V8 (j := (2 : Int32)) (by decide) (by decide) (g := (mkF m 22 #[.val (.int qa), .val (.int x0), .val (.int x1), .val (.int x2), .val (.int x3), .val (.ref b1), .unset, .unset, .unset, .unset, .unset, .unset, .unset, .unset] [(.int x2.toInt8.toInt32), (.int (2 : Int32)), (.ref b1)])) rfl rfl (hb hby at_22)
  refine own_by (T' := T9) (g' := (mkF m 23 #[.val (.int qa), .val (.int x0), .val (.int x1), .val (.int x2), .val (.int x3), .val (.ref b1), .unset, .unset, .unset, .unset, .unset, .unset, .unset, .unset] [])) st9 ?_
  have N9 := Fr.snoc X9 N6 g_b1
  have f10 := Nat.le_trans f7 (Keep.of_wr W9).1
  have V11 : own_Ia Z h9 b1 .byte 4 (fun i => if i = 2 then (nar .byte x2.toInt8.toInt32) else (fun i => if i = 1 then (nar .byte x1.toInt8.toInt32) else (fun i => if i = 0 then (nar .byte x0.toInt8.toInt32) else (fun _ => (0 : Int32)) i) i) i) := own_Ia_set W9 V8 (fits_nar_byte _)
  refine own_by (T' := T9) (g' := (mkF m 25 #[.val (.int qa), .val (.int x0), .val (.int x1), .val (.int x2), .val (.int x3), .val (.ref b1), .unset, .unset, .unset, .unset, .unset, .unset, .unset, .unset] [(.ref b1)])) (fun t_ k_ => XS.aload X9.here hx rfl (hb hby at_23) rfl rfl k_) ?_
  refine own_by (T' := T9) (g' := (mkF m 26 #[.val (.int qa), .val (.int x0), .val (.int x1), .val (.int x2), .val (.int x3), .val (.ref b1), .unset, .unset, .unset, .unset, .unset, .unset, .unset, .unset] [(.int (3 : Int32)), (.ref b1)])) (fun t_ k_ => XS.iconst X9.here hx rfl (hb hby at_25) k_) ?_
  refine own_by (T' := T9) (g' := (mkF m 28 #[.val (.int qa), .val (.int x0), .val (.int x1), .val (.int x2), .val (.int x3), .val (.ref b1), .unset, .unset, .unset, .unset, .unset, .unset, .unset, .unset] [(.int x3), (.int (3 : Int32)), (.ref b1)])) (fun t_ k_ => XS.iload X9.here hx rfl (hb hby at_26) rfl k_) ?_
  refine own_by (T' := T9) (g' := (mkF m 29 #[.val (.int qa), .val (.int x0), .val (.int x1), .val (.int x2), .val (.int x3), .val (.ref b1), .unset, .unset, .unset, .unset, .unset, .unset, .unset, .unset] [(.int x3.toInt8.toInt32), (.int (3 : Int32)), (.ref b1)])) (fun t_ k_ => XS.i2b X9.here hx rfl (hb hby at_28) rfl k_) ?_
  obtain ⟨T12, h12, X12, e12, W12, st12⟩ := own_bas X9 hx hZ e9 V11 (j := (3 : Int32)) (by decide) (by decide) (g := (mkF m 29 #[.val (.int qa), .val (.int x0), .val (.int x1), .val (.int x2), .val (.int x3), .val (.ref b1), .unset, .unset, .unset, .unset, .unset, .unset, .unset, .unset] [(.int x3.toInt8.toInt32), (.int (3 : Int32)), (.ref b1)])) rfl rfl (hb hby at_29)
  refine own_by (T' := T12) (g' := (mkF m 30 #[.val (.int qa), .val (.int x0), .val (.int x1), .val (.int x2), .val (.int x3), .val (.ref b1), .unset, .unset, .unset, .unset, .unset, .unset, .unset, .unset] [])) st12 ?_
  have N12 := Fr.snoc X12 N9 g_b1
  have f13 := Nat.le_trans f10 (Keep.of_wr W12).1
  have V14 : own_Ia Z h12 b1 .byte 4 (fun i => if i = 3 then (nar .byte x3.toInt8.toInt32) else (fun i => if i = 2 then (nar .byte x2.toInt8.toInt32) else (fun i => if i = 1 then (nar .byte x1.toInt8.toInt32) else (fun i => if i = 0 then (nar .byte x0.toInt8.toInt32) else (fun _ => (0 : Int32)) i) i) i) i) := own_Ia_set W12 V11 (fits_nar_byte _)
  have Vn := own_Ia_congr V14 (own_norm4 x0 x1 x2 x3)
  refine own_by (T' := T12) (g' := (mkF m 31 #[.val (.int qa), .val (.int x0), .val (.int x1), .val (.int x2), .val (.int x3), .val (.ref b1), .unset, .unset, .unset, .unset, .unset, .unset, .unset, .unset] [(.int qa)])) (fun t_ k_ => XS.iloadN X12.here hx rfl (hb hby at_30) rfl k_) ?_
  refine own_by (T' := T12) (g' := (mkF m 33 #[.val (.int qa), .val (.int x0), .val (.int x1), .val (.int x2), .val (.int x3), .val (.ref b1), .unset, .unset, .unset, .unset, .unset, .unset, .unset, .unset] [(.int (2147483647 : Int32)), (.int qa)])) (fun t_ k_ => X12.ldcInt hx hown (mvT hZ (hw _ (List.mem_of_getElem? (i := 1) rfl))) (g := (mkF m 31 #[.val (.int qa), .val (.int x0), .val (.int x1), .val (.int x2), .val (.int x3), .val (.ref b1), .unset, .unset, .unset, .unset, .unset, .unset, .unset, .unset] [(.int qa)])) rfl (hb hby at_31) _ k_) ?_
  refine own_by (T' := T12) (g' := (mkF m 34 #[.val (.int qa), .val (.int x0), .val (.int x1), .val (.int x2), .val (.int x3), .val (.ref b1), .unset, .unset, .unset, .unset, .unset, .unset, .unset, .unset] [(.int (qa &&& (2147483647 : Int32)))])) (fun t_ k_ => XS.iand X12.here hx rfl (hb hby at_33) rfl k_) ?_
  refine own_by (T' := T12) (g' := (mkF m 35 #[.val (.int qa), .val (.int x0), .val (.int x1), .val (.int x2), .val (.int x3), .val (.ref b1), .unset, .unset, .unset, .unset, .unset, .unset, .unset, .unset] [(.int (5 : Int32)), (.int (qa &&& (2147483647 : Int32)))])) (fun t_ k_ => XS.iconst X12.here hx rfl (hb hby at_34) k_) ?_
  refine own_by (T' := T12) (g' := (mkF m 36 #[.val (.int qa), .val (.int x0), .val (.int x1), .val (.int x2), .val (.int x3), .val (.ref b1), .unset, .unset, .unset, .unset, .unset, .unset, .unset, .unset] [(.int ((qa &&& (2147483647 : Int32)) % (5 : Int32)))])) (fun t_ k_ => Jvm.RoadKit.iremM X12 hx rfl (hb hby at_35) rfl (by decide) k_) ?_
  refine own_by (T' := T12) (g' := (mkF m 38 #[.val (.int qa), .val (.int x0), .val (.int x1), .val (.int x2), .val (.int x3), .val (.ref b1), .val (.int ((qa &&& (2147483647 : Int32)) % (5 : Int32))), .unset, .unset, .unset, .unset, .unset, .unset, .unset] [])) (fun t_ k_ => XS.istore X12.here hx rfl (hb hby at_36) rfl (l' := #[.val (.int qa), .val (.int x0), .val (.int x1), .val (.int x2), .val (.int x3), .val (.ref b1), .val (.int ((qa &&& (2147483647 : Int32)) % (5 : Int32))), .unset, .unset, .unset, .unset, .unset, .unset, .unset]) rfl k_) ?_
  rcases own_kk qa with hk | hk | hk | hk | hk
  · skip
    rw [hk]
    refine own_by (T' := T12) (g' := (mkF m 39 #[.val (.int qa), .val (.int x0), .val (.int x1), .val (.int x2), .val (.int x3), .val (.ref b1), .val (.int (0 : Int32)), .unset, .unset, .unset, .unset, .unset, .unset, .unset] [(.int qa)])) (fun t_ k_ => XS.iloadN X12.here hx rfl (hb hby at_38) rfl k_) ?_
    refine own_by (T' := T12) (g' := (mkF m 41 #[.val (.int qa), .val (.int x0), .val (.int x1), .val (.int x2), .val (.int x3), .val (.ref b1), .val (.int (0 : Int32)), .unset, .unset, .unset, .unset, .unset, .unset, .unset] [(.int (8 : Int32)), (.int qa)])) (fun t_ k_ => XS.bipush X12.here hx rfl (hb hby at_39) k_) ?_
    refine own_by (T' := T12) (g' := (mkF m 42 #[.val (.int qa), .val (.int x0), .val (.int x1), .val (.int x2), .val (.int x3), .val (.ref b1), .val (.int (0 : Int32)), .unset, .unset, .unset, .unset, .unset, .unset, .unset] [(.int (qa >>> ((8 : Int32) &&& 31)))])) (fun t_ k_ => XS.ishr X12.here hx rfl (hb hby at_41) rfl k_) ?_
    refine own_by (T' := T12) (g' := (mkF m 43 #[.val (.int qa), .val (.int x0), .val (.int x1), .val (.int x2), .val (.int x3), .val (.ref b1), .val (.int (0 : Int32)), .unset, .unset, .unset, .unset, .unset, .unset, .unset] [(.int (qa >>> ((8 : Int32) &&& 31)).toInt8.toInt32)])) (fun t_ k_ => XS.i2b X12.here hx rfl (hb hby at_42) rfl k_) ?_
    refine own_by (T' := T12) (g' := (mkF m 45 #[.val (.int qa), .val (.int x0), .val (.int x1), .val (.int x2), .val (.int x3), .val (.ref b1), .val (.int (0 : Int32)), .val (.int (qa >>> ((8 : Int32) &&& 31)).toInt8.toInt32), .unset, .unset, .unset, .unset, .unset, .unset] [])) (fun t_ k_ => XS.istore X12.here hx rfl (hb hby at_43) rfl (l' := #[.val (.int qa), .val (.int x0), .val (.int x1), .val (.int x2), .val (.int x3), .val (.ref b1), .val (.int (0 : Int32)), .val (.int (qa >>> ((8 : Int32) &&& 31)).toInt8.toInt32), .unset, .unset, .unset, .unset, .unset, .unset]) rfl k_) ?_
    obtain ⟨ad, had⟩ : ∃ z, z = (qa >>> ((8 : Int32) &&& 31)).toInt8.toInt32 := ⟨_, rfl⟩
    have hnb : nar .byte ad = ad := by rw [had]; exact own_nb _
    rw [← had]
    refine own_by (T' := T12) (g' := (mkF m 46 #[.val (.int qa), .val (.int x0), .val (.int x1), .val (.int x2), .val (.int x3), .val (.ref b1), .val (.int (0 : Int32)), .val (.int ad), .unset, .unset, .unset, .unset, .unset, .unset] [(.int (1 : Int32))])) (fun t_ k_ => XS.iconst X12.here hx rfl (hb hby at_45) k_) ?_
    obtain ⟨T15, h15, k15, X15, e15, E15, A15, st15⟩ := newP X12 hx hZ (hw _ (List.mem_of_getElem? (i := 0) rfl)) e12 (g := (mkF m 46 #[.val (.int qa), .val (.int x0), .val (.int x1), .val (.int x2), .val (.int x3), .val (.ref b1), .val (.int (0 : Int32)), .val (.int ad), .unset, .unset, .unset, .unset, .unset, .unset] [(.int (1 : Int32))])) rfl (hb hby at_46) rfl (by decide) (cap := 1) (by decide) (by decide) (by decide) (by decide)
    obtain ⟨b15, g15⟩ : ∃ z, z = h12.size := ⟨_, rfl⟩
    rw [← g15] at A15 st15
    have g_b15 : n0 ≤ b15 := Nat.le_trans f13 (Nat.le_of_eq g15.symm)
    have ne16 : b1 ≠ b15 := Nat.ne_of_lt (Nat.lt_of_lt_of_le (own_Ia_lt Vn) (Nat.le_of_eq g15.symm))
    have f17 := Nat.le_trans f13 E15.1
    have f18 := own_Ia_ext E15 Vn
    have V15 : own_Ia Z h15 b15 .byte 1 (fun _ => (0 : Int32)) := own_Ia_new A15 rfl rfl rfl
    refine own_by (T' := T15) (g' := (mkF m 48 #[.val (.int qa), .val (.int x0), .val (.int x1), .val (.int x2), .val (.int x3), .val (.ref b1), .val (.int (0 : Int32)), .val (.int ad), .unset, .unset, .unset, .unset, .unset, .unset] [(.ref b15)])) st15 ?_
    refine own_by (T' := T15) (g' := (mkF m 50 #[.val (.int qa), .val (.int x0), .val (.int x1), .val (.int x2), .val (.int x3), .val (.ref b1), .val (.int (0 : Int32)), .val (.int ad), .val (.ref b15), .unset, .unset, .unset, .unset, .unset] [])) (fun t_ k_ => XS.astore X15.here hx rfl (hb hby at_48) rfl rfl (l' := #[.val (.int qa), .val (.int x0), .val (.int x1), .val (.int x2), .val (.int x3), .val (.ref b1), .val (.int (0 : Int32)), .val (.int ad), .val (.ref b15), .unset, .unset, .unset, .unset, .unset]) rfl k_) ?_
    refine own_by (T' := T15) (g' := (mkF m 52 #[.val (.int qa), .val (.int x0), .val (.int x1), .val (.int x2), .val (.int x3), .val (.ref b1), .val (.int (0 : Int32)), .val (.int ad), .val (.ref b15), .unset, .unset, .unset, .unset, .unset] [(.ref b15)])) (fun t_ k_ => XS.aload X15.here hx rfl (hb hby at_50) rfl rfl k_) ?_
    refine own_by (T' := T15) (g' := (mkF m 53 #[.val (.int qa), .val (.int x0), .val (.int x1), .val (.int x2), .val (.int x3), .val (.ref b1), .val (.int (0 : Int32)), .val (.int ad), .val (.ref b15), .unset, .unset, .unset, .unset, .unset] [(.int (0 : Int32)), (.ref b15)])) (fun t_ k_ => XS.iconst X15.here hx rfl (hb hby at_52) k_) ?_
    refine own_by (T' := T15) (g' := (mkF m 55 #[.val (.int qa), .val (.int x0), .val (.int x1), .val (.int x2), .val (.int x3), .val (.ref b1), .val (.int (0 : Int32)), .val (.int ad), .val (.ref b15), .unset, .unset, .unset, .unset, .unset] [(.int ad), (.int (0 : Int32)), (.ref b15)])) (fun t_ k_ => XS.iload X15.here hx rfl (hb hby at_53) rfl k_) ?_
    obtain ⟨T19, h19, X19, e19, W19, st19⟩ := own_bas X15 hx hZ e15 V15 (j := (0 : Int32)) (by decide) (by decide) (g := (mkF m 55 #[.val (.int qa), .val (.int x0), .val (.int x1), .val (.int x2), .val (.int x3), .val (.ref b1), .val (.int (0 : Int32)), .val (.int ad), .val (.ref b15), .unset, .unset, .unset, .unset, .unset] [(.int ad), (.int (0 : Int32)), (.ref b15)])) rfl rfl (hb hby at_55)
    refine own_by (T' := T19) (g' := (mkF m 56 #[.val (.int qa), .val (.int x0), .val (.int x1), .val (.int x2), .val (.int x3), .val (.ref b1), .val (.int (0 : Int32)), .val (.int ad), .val (.ref b15), .unset, .unset, .unset, .unset, .unset] [])) st19 ?_
    have N19 := Fr.snoc X19 N12 g_b15
    have f20 := Nat.le_trans f17 (Keep.of_wr W19).1
    have f21 := own_Ia_other W19 f18 ne16
    have V22 : own_Ia Z h19 b15 .byte 1 (fun i => if i = 0 then (nar .byte ad) else (fun _ => (0 : Int32)) i) := own_Ia_set W19 V15 (fits_nar_byte _)
    obtain ⟨T23, h23, X23, e23, E23, A23, D23, -, st23⟩ := newO X19 hx hZ hown (hw _ (List.mem_of_getElem? (i := 2) rfl)) (hw _ (List.mem_of_getElem? (i := 3) rfl)) (hw _ (List.mem_of_getElem? (i := 4) rfl)) e19 (g := (mkF m 56 #[.val (.int qa), .val (.int x0), .val (.int x1), .val (.int x2), .val (.int x3), .val (.ref b1), .val (.int (0 : Int32)), .val (.int ad), .val (.ref b15), .unset, .unset, .unset, .unset, .unset] [])) rfl (hb hby at_56) (by decide) (by decide)
    obtain ⟨b23, g23⟩ : ∃ z, z = h19.size := ⟨_, rfl⟩
    rw [← g23] at A23 D23 st23
    have g_b23 : n0 ≤ b23 := Nat.le_trans f20 (Nat.le_of_eq g23.symm)
    have ne24 : b1 ≠ b23 := Nat.ne_of_lt (Nat.lt_of_lt_of_le (own_Ia_lt f21) (Nat.le_of_eq g23.symm))
    have ne25 : b15 ≠ b23 := Nat.ne_of_lt (Nat.lt_of_lt_of_le (own_Ia_lt V22) (Nat.le_of_eq g23.symm))
    have f26 := Nat.le_trans f20 E23.1
    have f27 := own_Ia_ext E23 f21
    have f28 := own_Ia_ext E23 V22
    have F23_bytes : Fld Z h23 b23 "com/example/rowgate/rowgate/StoredValue" "bytes" "[B" .null := D23 (Or.inr (hw _ (List.mem_of_getElem? (i := 12) rfl))) (ty := (.array .byte)) (by decide)
    have F23_file : Fld Z h23 b23 "com/example/rowgate/rowgate/StoredValue" "file" "Lcom/example/rowgate/rowgate/StoredValue$FileBytes;" .null := D23 (Or.inr (hw _ (List.mem_of_getElem? (i := 14) rfl))) (ty := (.object "com/example/rowgate/rowgate/StoredValue$FileBytes")) (by decide)
    have F23_offset : Fld Z h23 b23 "com/example/rowgate/rowgate/StoredValue" "offset" "J" (.long (0 : Int64)) := D23 (Or.inr (hw _ (List.mem_of_getElem? (i := 16) rfl))) (ty := .long) (by decide)
    have F23_length : Fld Z h23 b23 "com/example/rowgate/rowgate/StoredValue" "length" "I" (.int (0 : Int32)) := D23 (Or.inr (hw _ (List.mem_of_getElem? (i := 18) rfl))) (ty := .int) (by decide)
    refine own_by (T' := T23) (g' := (mkF m 59 #[.val (.int qa), .val (.int x0), .val (.int x1), .val (.int x2), .val (.int x3), .val (.ref b1), .val (.int (0 : Int32)), .val (.int ad), .val (.ref b15), .unset, .unset, .unset, .unset, .unset] [(.ref b23)])) st23 ?_
    refine own_by (T' := T23) (g' := (mkF m 60 #[.val (.int qa), .val (.int x0), .val (.int x1), .val (.int x2), .val (.int x3), .val (.ref b1), .val (.int (0 : Int32)), .val (.int ad), .val (.ref b15), .unset, .unset, .unset, .unset, .unset] [(.ref b23), (.ref b23)])) (fun t_ k_ => XS.dup X23.here hx rfl (hb hby at_59) rfl rfl k_) ?_
    refine own_by (T' := T23) (g' := (mkF m 62 #[.val (.int qa), .val (.int x0), .val (.int x1), .val (.int x2), .val (.int x3), .val (.ref b1), .val (.int (0 : Int32)), .val (.int ad), .val (.ref b15), .unset, .unset, .unset, .unset, .unset] [(.ref b1), (.ref b23), (.ref b23)])) (fun t_ k_ => XS.aload X23.here hx rfl (hb hby at_60) rfl rfl k_) ?_
    refine own_by (T' := T23) (g' := (mkF m 64 #[.val (.int qa), .val (.int x0), .val (.int x1), .val (.int x2), .val (.int x3), .val (.ref b1), .val (.int (0 : Int32)), .val (.int ad), .val (.ref b15), .unset, .unset, .unset, .unset, .unset] [(.int (0 : Int32)), (.ref b1), (.ref b23), (.ref b23)])) (fun t_ k_ => XS.iload X23.here hx rfl (hb hby at_62) rfl k_) ?_
    obtain ⟨_, T29, L29, X29, hQ29, st29⟩ := own_callI X23 hx hZ (y := (⟨"com/example/rowgate/rowgate/StoredValue", "<init>", "([BI)V"⟩ : MethodName)) rfl hown (hw _ (List.mem_of_getElem? (i := 5) rfl)) (hw _ (List.mem_of_getElem? (i := 6) rfl)) (hw _ (List.mem_of_getElem? (i := 4) rfl)) (hw _ (List.mem_of_getElem? (i := 7) rfl)) (by decide) (argsL := [(.ref b1), (.int (0 : Int32))]) (rest := [(.ref b23)]) (own_rm_svI l Z a0 hw [] b23 b1 (0 : Int32) h23 n0 f26 A23 g_b23 F23_bytes F23_file F23_offset F23_length) e23 (W := 1) (by decide) (by decide) (by decide) (by decide) (g := (mkF m 64 #[.val (.int qa), .val (.int x0), .val (.int x1), .val (.int x2), .val (.int x3), .val (.ref b1), .val (.int (0 : Int32)), .val (.int ad), .val (.ref b15), .unset, .unset, .unset, .unset, .unset] [(.int (0 : Int32)), (.ref b1), (.ref b23), (.ref b23)])) rfl (by rw [hml]; rfl) (lenOf own_pd1 rfl) rfl (by show 2 * 0 + _ ≤ _; exact Nat.le_of_eq rfl) (hb hby at_64)
    obtain ⟨rfl, Nq29, Kq29, Eq29, Fq29_bytes, Fq29_file, Fq29_offset, Fq29_length⟩ := hQ29
    have N29 := Fr.app N19 Nq29
    have f30 := Nat.le_trans f26 Kq29.1
    have f31 := own_Ia_keep Kq29 f27 (ninS ne24 nin0)
    have f32 := own_Ia_keep Kq29 f28 (ninS ne25 nin0)
    have f33 := Exa.keep A23 Kq29
    refine st29 _ ?_
    show own_Goes p e below _ T29 (mkF m 67 #[.val (.int qa), .val (.int x0), .val (.int x1), .val (.int x2), .val (.int x3), .val (.ref b1), .val (.int (0 : Int32)), .val (.int ad), .val (.ref b15), .unset, .unset, .unset, .unset, .unset] [(.ref b23)])
    refine own_by (T' := T29) (g' := (mkF m 69 #[.val (.int qa), .val (.int x0), .val (.int x1), .val (.int x2), .val (.int x3), .val (.ref b1), .val (.int (0 : Int32)), .val (.int ad), .val (.ref b15), .val (.ref b23), .unset, .unset, .unset, .unset] [])) (fun t_ k_ => XS.astore X29.here hx rfl (hb hby at_67) rfl rfl (l' := #[.val (.int qa), .val (.int x0), .val (.int x1), .val (.int x2), .val (.int x3), .val (.ref b1), .val (.int (0 : Int32)), .val (.int ad), .val (.ref b15), .val (.ref b23), .unset, .unset, .unset, .unset]) rfl k_) ?_
    refine own_by (T' := T29) (g' := (mkF m 71 #[.val (.int qa), .val (.int x0), .val (.int x1), .val (.int x2), .val (.int x3), .val (.ref b1), .val (.int (0 : Int32)), .val (.int ad), .val (.ref b15), .val (.ref b23), .unset, .unset, .unset, .unset] [(.ref b23)])) (fun t_ k_ => XS.aload X29.here hx rfl (hb hby at_69) rfl rfl k_) ?_
    obtain ⟨_, T34, L34, X34, hQ34, st34⟩ := own_callV X29 hx hZ (y := (⟨"com/example/rowgate/rowgate/StoredValue", "array", "()[B"⟩ : MethodName)) hown (hw _ (List.mem_of_getElem? (i := 19) rfl)) (hw _ (List.mem_of_getElem? (i := 20) rfl)) (hw _ (List.mem_of_getElem? (i := 22) rfl)) (hw _ (List.mem_of_getElem? (i := 21) rfl)) (hw _ (List.mem_of_getElem? (i := 4) rfl)) (hw _ (List.mem_of_getElem? (i := 23) rfl)) (by decide) (argsL := []) (rest := []) f33 (own_rm_ar l Z a0 hw [] b23 b1 T29.heap n0 f30 Fq29_bytes) rfl (W := 0) (by decide) (by decide) (by decide) (by decide) (g := (mkF m 71 #[.val (.int qa), .val (.int x0), .val (.int x1), .val (.int x2), .val (.int x3), .val (.ref b1), .val (.int (0 : Int32)), .val (.int ad), .val (.ref b15), .val (.ref b23), .unset, .unset, .unset, .unset] [(.ref b23)])) rfl (by rw [hml]; rfl) (lenOf own_pd4 rfl) rfl (by show 2 * 0 + _ ≤ _; exact Nat.le_of_eq rfl) (hb hby at_71)
    obtain ⟨rfl, Nq34, e34⟩ := hQ34
    have N34 := Fr.app N29 Nq34
    refine st34 _ ?_
    show own_Goes p e below _ T34 (mkF m 74 #[.val (.int qa), .val (.int x0), .val (.int x1), .val (.int x2), .val (.int x3), .val (.ref b1), .val (.int (0 : Int32)), .val (.int ad), .val (.ref b15), .val (.ref b23), .unset, .unset, .unset, .unset] [(.ref b1)])
    refine own_by (T' := T34) (g' := (mkF m 76 #[.val (.int qa), .val (.int x0), .val (.int x1), .val (.int x2), .val (.int x3), .val (.ref b1), .val (.int (0 : Int32)), .val (.int ad), .val (.ref b15), .val (.ref b23), .val (.ref b1), .unset, .unset, .unset] [])) (fun t_ k_ => XS.astore X34.here hx rfl (hb hby at_74) rfl rfl (l' := #[.val (.int qa), .val (.int x0), .val (.int x1), .val (.int x2), .val (.int x3), .val (.ref b1), .val (.int (0 : Int32)), .val (.int ad), .val (.ref b15), .val (.ref b23), .val (.ref b1), .unset, .unset, .unset]) rfl k_) ?_
    refine own_by (T' := T34) (g' := (mkF m 78 #[.val (.int qa), .val (.int x0), .val (.int x1), .val (.int x2), .val (.int x3), .val (.ref b1), .val (.int (0 : Int32)), .val (.int ad), .val (.ref b15), .val (.ref b23), .val (.ref b1), .unset, .unset, .unset] [(.ref b1)])) (fun t_ k_ => XS.aload X34.here hx rfl (hb hby at_76) rfl rfl k_) ?_
    refine own_by (T' := T34) (g' := (mkF m 80 #[.val (.int qa), .val (.int x0), .val (.int x1), .val (.int x2), .val (.int x3), .val (.ref b1), .val (.int (0 : Int32)), .val (.int ad), .val (.ref b15), .val (.ref b23), .val (.ref b1), .unset, .unset, .unset] [(.ref b1), (.ref b1)])) (fun t_ k_ => XS.aload X34.here hx rfl (hb hby at_78) rfl rfl k_) ?_
    refine own_by (T' := T34) (g' := (mkF m 83 #[.val (.int qa), .val (.int x0), .val (.int x1), .val (.int x2), .val (.int x3), .val (.ref b1), .val (.int (0 : Int32)), .val (.int ad), .val (.ref b15), .val (.ref b23), .val (.ref b1), .unset, .unset, .unset] [])) (fun t_ k_ => Jvm.RoadKit.acmp (g := (mkF m 80 #[.val (.int qa), .val (.int x0), .val (.int x1), .val (.int x2), .val (.int x3), .val (.ref b1), .val (.int (0 : Int32)), .val (.int ad), .val (.ref b15), .val (.ref b23), .val (.ref b1), .unset, .unset, .unset] [(.ref b1), (.ref b1)])) X34 hx rfl rfl rfl (pc0 := 80) (pc' := 83) (same := true) rfl (hb hby at_80) rfl (decide_eq_true rfl) (by decide) (by decide) k_) ?_
    refine own_by (T' := T34) (g' := (mkF m 85 #[.val (.int qa), .val (.int x0), .val (.int x1), .val (.int x2), .val (.int x3), .val (.ref b1), .val (.int (0 : Int32)), .val (.int ad), .val (.ref b15), .val (.ref b23), .val (.ref b1), .unset, .unset, .unset] [(.ref b1)])) (fun t_ k_ => XS.aload X34.here hx rfl (hb hby at_83) rfl rfl k_) ?_
    refine own_by (T' := T34) (g' := (mkF m 86 #[.val (.int qa), .val (.int x0), .val (.int x1), .val (.int x2), .val (.int x3), .val (.ref b1), .val (.int (0 : Int32)), .val (.int ad), .val (.ref b15), .val (.ref b23), .val (.ref b1), .unset, .unset, .unset] [(.int (4 : Int32))])) (fun t_ k_ => own_alen X34 hx hZ e34 f31 (z := (4 : Int32)) rfl (g := (mkF m 85 #[.val (.int qa), .val (.int x0), .val (.int x1), .val (.int x2), .val (.int x3), .val (.ref b1), .val (.int (0 : Int32)), .val (.int ad), .val (.ref b15), .val (.ref b23), .val (.ref b1), .unset, .unset, .unset] [(.ref b1)])) rfl rfl (hb hby at_85) _ k_) ?_
    refine own_by (T' := T34) (g' := (mkF m 87 #[.val (.int qa), .val (.int x0), .val (.int x1), .val (.int x2), .val (.int x3), .val (.ref b1), .val (.int (0 : Int32)), .val (.int ad), .val (.ref b15), .val (.ref b23), .val (.ref b1), .unset, .unset, .unset] [(.int (4 : Int32)), (.int (4 : Int32))])) (fun t_ k_ => XS.iconst X34.here hx rfl (hb hby at_86) k_) ?_
    refine own_by (T' := T34) (g' := (mkF m 90 #[.val (.int qa), .val (.int x0), .val (.int x1), .val (.int x2), .val (.int x3), .val (.ref b1), .val (.int (0 : Int32)), .val (.int ad), .val (.ref b15), .val (.ref b23), .val (.ref b1), .unset, .unset, .unset] [])) (fun t_ k_ => XS.icmpNo X34.here hx rfl (hb hby at_87) rfl (teq ((by decide) : (4 : Int32) = (4 : Int32))).2 k_) ?_
    refine own_by (T' := T34) (g' := (mkF m 92 #[.val (.int qa), .val (.int x0), .val (.int x1), .val (.int x2), .val (.int x3), .val (.ref b1), .val (.int (0 : Int32)), .val (.int ad), .val (.ref b15), .val (.ref b23), .val (.ref b1), .unset, .unset, .unset] [(.ref b1)])) (fun t_ k_ => XS.aload X34.here hx rfl (hb hby at_90) rfl rfl k_) ?_
    refine own_by (T' := T34) (g' := (mkF m 93 #[.val (.int qa), .val (.int x0), .val (.int x1), .val (.int x2), .val (.int x3), .val (.ref b1), .val (.int (0 : Int32)), .val (.int ad), .val (.ref b15), .val (.ref b23), .val (.ref b1), .unset, .unset, .unset] [(.int x0), (.ref b1)])) (fun t_ k_ => XS.iloadN X34.here hx rfl (hb hby at_92) rfl k_) ?_
    refine own_by (T' := T34) (g' := (mkF m 94 #[.val (.int qa), .val (.int x0), .val (.int x1), .val (.int x2), .val (.int x3), .val (.ref b1), .val (.int (0 : Int32)), .val (.int ad), .val (.ref b15), .val (.ref b23), .val (.ref b1), .unset, .unset, .unset] [(.int x1), (.int x0), (.ref b1)])) (fun t_ k_ => XS.iloadN X34.here hx rfl (hb hby at_93) rfl k_) ?_
    refine own_by (T' := T34) (g' := (mkF m 95 #[.val (.int qa), .val (.int x0), .val (.int x1), .val (.int x2), .val (.int x3), .val (.ref b1), .val (.int (0 : Int32)), .val (.int ad), .val (.ref b15), .val (.ref b23), .val (.ref b1), .unset, .unset, .unset] [(.int x2), (.int x1), (.int x0), (.ref b1)])) (fun t_ k_ => XS.iloadN X34.here hx rfl (hb hby at_94) rfl k_) ?_
    refine own_by (T' := T34) (g' := (mkF m 97 #[.val (.int qa), .val (.int x0), .val (.int x1), .val (.int x2), .val (.int x3), .val (.ref b1), .val (.int (0 : Int32)), .val (.int ad), .val (.ref b15), .val (.ref b23), .val (.ref b1), .unset, .unset, .unset] [(.int x3), (.int x2), (.int x1), (.int x0), (.ref b1)])) (fun t_ k_ => XS.iload X34.here hx rfl (hb hby at_95) rfl k_) ?_
    obtain ⟨_, T35, L35, X35, hQ35, st35⟩ := own_callS X34 hx hZ (y := (⟨"com/example/rowgate/rowgate/StoredValueArrayPinLaw", "same", "([BIIII)Z"⟩ : MethodName)) hown (hw _ (List.mem_of_getElem? (i := 24) rfl)) (hw _ (List.mem_of_getElem? (i := 25) rfl)) (hw _ (List.mem_of_getElem? (i := 26) rfl)) (hw _ (List.mem_of_getElem? (i := 27) rfl)) (by decide) (argsL := [(.ref b1), (.int x0), (.int x1), (.int x2), (.int x3)]) (rest := []) (own_rm_sm l Z a0 hw [] b1 x0 x1 x2 x3 4 (own_b4 x0 x1 x2 x3) T29.heap n0 f30 f31 (by decide) rfl rfl rfl rfl) e34 (W := 0) (by decide) (by decide) (by decide) (by decide) (g := (mkF m 97 #[.val (.int qa), .val (.int x0), .val (.int x1), .val (.int x2), .val (.int x3), .val (.ref b1), .val (.int (0 : Int32)), .val (.int ad), .val (.ref b15), .val (.ref b23), .val (.ref b1), .unset, .unset, .unset] [(.int x3), (.int x2), (.int x1), (.int x0), (.ref b1)])) rfl (by rw [hml]; rfl) (lenOf own_pd5 rfl) rfl (by show 2 * 0 + _ ≤ _; exact Nat.le_of_eq rfl) (hb hby at_97)
    obtain ⟨rfl, Nq35, e35⟩ := hQ35
    have N35 := Fr.app N34 Nq35
    refine st35 _ ?_
    show own_Goes p e below _ T35 (mkF m 100 #[.val (.int qa), .val (.int x0), .val (.int x1), .val (.int x2), .val (.int x3), .val (.ref b1), .val (.int (0 : Int32)), .val (.int ad), .val (.ref b15), .val (.ref b23), .val (.ref b1), .unset, .unset, .unset] [(.int (1 : Int32))])
    refine own_by (T' := T35) (g' := (mkF m 103 #[.val (.int qa), .val (.int x0), .val (.int x1), .val (.int x2), .val (.int x3), .val (.ref b1), .val (.int (0 : Int32)), .val (.int ad), .val (.ref b15), .val (.ref b23), .val (.ref b1), .unset, .unset, .unset] [])) (fun t_ k_ => XS.ifNo X35.here hx rfl (hb hby at_100) rfl ((if0 _ _).trans (feq ((by decide) : ¬ ((1 : Int32) = (0 : Int32)))).1) k_) ?_
    refine own_by (T' := T35) (g' := (mkF m 105 #[.val (.int qa), .val (.int x0), .val (.int x1), .val (.int x2), .val (.int x3), .val (.ref b1), .val (.int (0 : Int32)), .val (.int ad), .val (.ref b15), .val (.ref b23), .val (.ref b1), .unset, .unset, .unset] [(.ref b23)])) (fun t_ k_ => XS.aload X35.here hx rfl (hb hby at_103) rfl rfl k_) ?_
    obtain ⟨_, T36, L36, X36, hQ36, st36⟩ := own_callV X35 hx hZ (y := (⟨"com/example/rowgate/rowgate/StoredValue", "length", "()I"⟩ : MethodName)) hown (hw _ (List.mem_of_getElem? (i := 28) rfl)) (hw _ (List.mem_of_getElem? (i := 29) rfl)) (hw _ (List.mem_of_getElem? (i := 31) rfl)) (hw _ (List.mem_of_getElem? (i := 30) rfl)) (hw _ (List.mem_of_getElem? (i := 4) rfl)) (hw _ (List.mem_of_getElem? (i := 32) rfl)) (by decide) (argsL := []) (rest := []) f33 (own_rm_le l Z a0 hw [] b23 (0 : Int32) T29.heap n0 f30 Fq29_length) e35 (W := 0) (by decide) (by decide) (by decide) (by decide) (g := (mkF m 105 #[.val (.int qa), .val (.int x0), .val (.int x1), .val (.int x2), .val (.int x3), .val (.ref b1), .val (.int (0 : Int32)), .val (.int ad), .val (.ref b15), .val (.ref b23), .val (.ref b1), .unset, .unset, .unset] [(.ref b23)])) rfl (by rw [hml]; rfl) (lenOf own_pd6 rfl) rfl (by show 2 * 0 + _ ≤ _; exact Nat.le_of_eq rfl) (hb hby at_105)
    obtain ⟨rfl, Nq36, e36⟩ := hQ36
    have N36 := Fr.app N35 Nq36
    refine st36 _ ?_
    show own_Goes p e below _ T36 (mkF m 108 #[.val (.int qa), .val (.int x0), .val (.int x1), .val (.int x2), .val (.int x3), .val (.ref b1), .val (.int (0 : Int32)), .val (.int ad), .val (.ref b15), .val (.ref b23), .val (.ref b1), .unset, .unset, .unset] [(.int (0 : Int32))])
    refine own_by (T' := T36) (g' := (mkF m 110 #[.val (.int qa), .val (.int x0), .val (.int x1), .val (.int x2), .val (.int x3), .val (.ref b1), .val (.int (0 : Int32)), .val (.int ad), .val (.ref b15), .val (.ref b23), .val (.ref b1), .unset, .unset, .unset] [(.int (0 : Int32)), (.int (0 : Int32))])) (fun t_ k_ => XS.iload X36.here hx rfl (hb hby at_108) rfl k_) ?_
    refine own_by (T' := T36) (g' := (mkF m 113 #[.val (.int qa), .val (.int x0), .val (.int x1), .val (.int x2), .val (.int x3), .val (.ref b1), .val (.int (0 : Int32)), .val (.int ad), .val (.ref b15), .val (.ref b23), .val (.ref b1), .unset, .unset, .unset] [])) (fun t_ k_ => XS.icmpNo X36.here hx rfl (hb hby at_110) rfl (teq ((by decide) : (0 : Int32) = (0 : Int32))).2 k_) ?_
    refine own_by (T' := T36) (g' := (mkF m 114 #[.val (.int qa), .val (.int x0), .val (.int x1), .val (.int x2), .val (.int x3), .val (.ref b1), .val (.int (0 : Int32)), .val (.int ad), .val (.ref b15), .val (.ref b23), .val (.ref b1), .unset, .unset, .unset] [(.int (1 : Int32))])) (fun t_ k_ => XS.iconst X36.here hx rfl (hb hby at_113) k_) ?_
    refine own_by (T' := T36) (g' := (mkF m 118 #[.val (.int qa), .val (.int x0), .val (.int x1), .val (.int x2), .val (.int x3), .val (.ref b1), .val (.int (0 : Int32)), .val (.int ad), .val (.ref b15), .val (.ref b23), .val (.ref b1), .unset, .unset, .unset] [(.int (1 : Int32))])) (fun t_ k_ => XS.goto X36.here hx rfl (pc0 := 114) (pc' := 118) rfl (hb hby at_114) (by decide) (by decide) k_) ?_
    refine own_by (T' := T36) (g' := (mkF m 120 #[.val (.int qa), .val (.int x0), .val (.int x1), .val (.int x2), .val (.int x3), .val (.ref b1), .val (.int (0 : Int32)), .val (.int ad), .val (.ref b15), .val (.ref b23), .val (.ref b1), .val (.int (1 : Int32)), .unset, .unset] [])) (fun t_ k_ => XS.istore X36.here hx rfl (hb hby at_118) rfl (l' := #[.val (.int qa), .val (.int x0), .val (.int x1), .val (.int x2), .val (.int x3), .val (.ref b1), .val (.int (0 : Int32)), .val (.int ad), .val (.ref b15), .val (.ref b23), .val (.ref b1), .val (.int (1 : Int32)), .unset, .unset]) rfl k_) ?_
    refine own_by (T' := T36) (g' := (mkF m 122 #[.val (.int qa), .val (.int x0), .val (.int x1), .val (.int x2), .val (.int x3), .val (.ref b1), .val (.int (0 : Int32)), .val (.int ad), .val (.ref b15), .val (.ref b23), .val (.ref b1), .val (.int (1 : Int32)), .unset, .unset] [(.ref b23)])) (fun t_ k_ => XS.aload X36.here hx rfl (hb hby at_120) rfl rfl k_) ?_
    refine own_by (T' := T36) (g' := (mkF m 124 #[.val (.int qa), .val (.int x0), .val (.int x1), .val (.int x2), .val (.int x3), .val (.ref b1), .val (.int (0 : Int32)), .val (.int ad), .val (.ref b15), .val (.ref b23), .val (.ref b1), .val (.int (1 : Int32)), .unset, .unset] [(.ref b15), (.ref b23)])) (fun t_ k_ => XS.aload X36.here hx rfl (hb hby at_122) rfl rfl k_) ?_
    obtain ⟨_, T37, L37, X37, hQ37, st37⟩ := own_callV X36 hx hZ (y := (⟨"com/example/rowgate/rowgate/StoredValue", "appended", "([B)Lcom/example/rowgate/rowgate/StoredValue;"⟩ : MethodName)) hown (hw _ (List.mem_of_getElem? (i := 33) rfl)) (hw _ (List.mem_of_getElem? (i := 34) rfl)) (hw _ (List.mem_of_getElem? (i := 36) rfl)) (hw _ (List.mem_of_getElem? (i := 35) rfl)) (hw _ (List.mem_of_getElem? (i := 4) rfl)) (hw _ (List.mem_of_getElem? (i := 37) rfl)) (by decide) (argsL := [(.ref b15)]) (rest := []) f33 (own_rm_ad0 l Z a0 hw [] b23 b15 b1 (own_b4 x0 x1 x2 x3) (fun i => if i = 0 then (nar .byte ad) else (fun _ => (0 : Int32)) i) T29.heap n0 f30 Fq29_bytes Fq29_length f33 f31 f32 g_b1 (Ne.symm ne24) (Ne.symm ne16)) e36 (W := 0) (by decide) (by decide) (by decide) (by decide) (g := (mkF m 124 #[.val (.int qa), .val (.int x0), .val (.int x1), .val (.int x2), .val (.int x3), .val (.ref b1), .val (.int (0 : Int32)), .val (.int ad), .val (.ref b15), .val (.ref b23), .val (.ref b1), .val (.int (1 : Int32)), .unset, .unset] [(.ref b15), (.ref b23)])) rfl (by rw [hml]; rfl) (lenOf own_pd7 rfl) rfl (by show 2 * 0 + _ ≤ _; exact Nat.le_of_eq rfl) (hb hby at_124)
    obtain ⟨ww, rfl, Nq37, Kq37, Ew, Fw1, Fw2, Vw⟩ := hQ37
    have N37 := Fr.app N36 Nq37
    have f38 := Nat.le_trans f30 Kq37.1
    have f39 := Exa.keep f33 Kq37
    refine st37 _ ?_
    show own_Goes p e below _ T37 (mkF m 127 #[.val (.int qa), .val (.int x0), .val (.int x1), .val (.int x2), .val (.int x3), .val (.ref b1), .val (.int (0 : Int32)), .val (.int ad), .val (.ref b15), .val (.ref b23), .val (.ref b1), .val (.int (1 : Int32)), .unset, .unset] [(.ref ww)])
    refine own_by (T' := T37) (g' := (mkF m 129 #[.val (.int qa), .val (.int x0), .val (.int x1), .val (.int x2), .val (.int x3), .val (.ref b1), .val (.int (0 : Int32)), .val (.int ad), .val (.ref b15), .val (.ref b23), .val (.ref b1), .val (.int (1 : Int32)), .val (.ref ww), .unset] [])) (fun t_ k_ => XS.astore X37.here hx rfl (hb hby at_127) rfl rfl (l' := #[.val (.int qa), .val (.int x0), .val (.int x1), .val (.int x2), .val (.int x3), .val (.ref b1), .val (.int (0 : Int32)), .val (.int ad), .val (.ref b15), .val (.ref b23), .val (.ref b1), .val (.int (1 : Int32)), .val (.ref ww), .unset]) rfl k_) ?_
    refine own_by (T' := T37) (g' := (mkF m 131 #[.val (.int qa), .val (.int x0), .val (.int x1), .val (.int x2), .val (.int x3), .val (.ref b1), .val (.int (0 : Int32)), .val (.int ad), .val (.ref b15), .val (.ref b23), .val (.ref b1), .val (.int (1 : Int32)), .val (.ref ww), .unset] [(.ref ww)])) (fun t_ k_ => XS.aload X37.here hx rfl (hb hby at_129) rfl rfl k_) ?_
    obtain ⟨_, T40, L40, X40, hQ40, st40⟩ := own_callV X37 hx hZ (y := (⟨"com/example/rowgate/rowgate/StoredValue", "array", "()[B"⟩ : MethodName)) hown (hw _ (List.mem_of_getElem? (i := 19) rfl)) (hw _ (List.mem_of_getElem? (i := 20) rfl)) (hw _ (List.mem_of_getElem? (i := 22) rfl)) (hw _ (List.mem_of_getElem? (i := 21) rfl)) (hw _ (List.mem_of_getElem? (i := 4) rfl)) (hw _ (List.mem_of_getElem? (i := 23) rfl)) (by decide) (argsL := []) (rest := []) Ew (own_rm_ar l Z a0 hw [] ww b1 T37.heap n0 f38 Fw1) rfl (W := 0) (by decide) (by decide) (by decide) (by decide) (g := (mkF m 131 #[.val (.int qa), .val (.int x0), .val (.int x1), .val (.int x2), .val (.int x3), .val (.ref b1), .val (.int (0 : Int32)), .val (.int ad), .val (.ref b15), .val (.ref b23), .val (.ref b1), .val (.int (1 : Int32)), .val (.ref ww), .unset] [(.ref ww)])) rfl (by rw [hml]; rfl) (lenOf own_pd4 rfl) rfl (by show 2 * 0 + _ ≤ _; exact Nat.le_of_eq rfl) (hb hby at_131)
    obtain ⟨rfl, Nq40, e40⟩ := hQ40
    have N40 := Fr.app N37 Nq40
    refine st40 _ ?_
    show own_Goes p e below _ T40 (mkF m 134 #[.val (.int qa), .val (.int x0), .val (.int x1), .val (.int x2), .val (.int x3), .val (.ref b1), .val (.int (0 : Int32)), .val (.int ad), .val (.ref b15), .val (.ref b23), .val (.ref b1), .val (.int (1 : Int32)), .val (.ref ww), .unset] [(.ref b1)])
    refine own_by (T' := T40) (g' := (mkF m 136 #[.val (.int qa), .val (.int x0), .val (.int x1), .val (.int x2), .val (.int x3), .val (.ref b1), .val (.int (0 : Int32)), .val (.int ad), .val (.ref b15), .val (.ref b23), .val (.ref b1), .val (.int (1 : Int32)), .val (.ref ww), .val (.ref b1)] [])) (fun t_ k_ => XS.astore X40.here hx rfl (hb hby at_134) rfl rfl (l' := #[.val (.int qa), .val (.int x0), .val (.int x1), .val (.int x2), .val (.int x3), .val (.ref b1), .val (.int (0 : Int32)), .val (.int ad), .val (.ref b15), .val (.ref b23), .val (.ref b1), .val (.int (1 : Int32)), .val (.ref ww), .val (.ref b1)]) rfl k_) ?_
    refine own_by (T' := T40) (g' := (mkF m 138 #[.val (.int qa), .val (.int x0), .val (.int x1), .val (.int x2), .val (.int x3), .val (.ref b1), .val (.int (0 : Int32)), .val (.int ad), .val (.ref b15), .val (.ref b23), .val (.ref b1), .val (.int (1 : Int32)), .val (.ref ww), .val (.ref b1)] [(.int (1 : Int32))])) (fun t_ k_ => XS.iload X40.here hx rfl (hb hby at_136) rfl k_) ?_
    refine own_by (T' := T40) (g' := (mkF m 141 #[.val (.int qa), .val (.int x0), .val (.int x1), .val (.int x2), .val (.int x3), .val (.ref b1), .val (.int (0 : Int32)), .val (.int ad), .val (.ref b15), .val (.ref b23), .val (.ref b1), .val (.int (1 : Int32)), .val (.ref ww), .val (.ref b1)] [])) (fun t_ k_ => XS.ifNo X40.here hx rfl (hb hby at_138) rfl ((if0 _ _).trans (feq ((by decide) : ¬ ((1 : Int32) = (0 : Int32)))).1) k_) ?_
    refine own_by (T' := T40) (g' := (mkF m 143 #[.val (.int qa), .val (.int x0), .val (.int x1), .val (.int x2), .val (.int x3), .val (.ref b1), .val (.int (0 : Int32)), .val (.int ad), .val (.ref b15), .val (.ref b23), .val (.ref b1), .val (.int (1 : Int32)), .val (.ref ww), .val (.ref b1)] [(.ref ww)])) (fun t_ k_ => XS.aload X40.here hx rfl (hb hby at_141) rfl rfl k_) ?_
    obtain ⟨_, T41, L41, X41, hQ41, st41⟩ := own_callV X40 hx hZ (y := (⟨"com/example/rowgate/rowgate/StoredValue", "length", "()I"⟩ : MethodName)) hown (hw _ (List.mem_of_getElem? (i := 28) rfl)) (hw _ (List.mem_of_getElem? (i := 29) rfl)) (hw _ (List.mem_of_getElem? (i := 31) rfl)) (hw _ (List.mem_of_getElem? (i := 30) rfl)) (hw _ (List.mem_of_getElem? (i := 4) rfl)) (hw _ (List.mem_of_getElem? (i := 32) rfl)) (by decide) (argsL := []) (rest := []) Ew (own_rm_le l Z a0 hw [] ww (1 : Int32) T37.heap n0 f38 Fw2) e40 (W := 0) (by decide) (by decide) (by decide) (by decide) (g := (mkF m 143 #[.val (.int qa), .val (.int x0), .val (.int x1), .val (.int x2), .val (.int x3), .val (.ref b1), .val (.int (0 : Int32)), .val (.int ad), .val (.ref b15), .val (.ref b23), .val (.ref b1), .val (.int (1 : Int32)), .val (.ref ww), .val (.ref b1)] [(.ref ww)])) rfl (by rw [hml]; rfl) (lenOf own_pd6 rfl) rfl (by show 2 * 0 + _ ≤ _; exact Nat.le_of_eq rfl) (hb hby at_143)
    obtain ⟨rfl, Nq41, e41⟩ := hQ41
    have N41 := Fr.app N40 Nq41
    refine st41 _ ?_
    show own_Goes p e below _ T41 (mkF m 146 #[.val (.int qa), .val (.int x0), .val (.int x1), .val (.int x2), .val (.int x3), .val (.ref b1), .val (.int (0 : Int32)), .val (.int ad), .val (.ref b15), .val (.ref b23), .val (.ref b1), .val (.int (1 : Int32)), .val (.ref ww), .val (.ref b1)] [(.int (1 : Int32))])
    refine own_by (T' := T41) (g' := (mkF m 148 #[.val (.int qa), .val (.int x0), .val (.int x1), .val (.int x2), .val (.int x3), .val (.ref b1), .val (.int (0 : Int32)), .val (.int ad), .val (.ref b15), .val (.ref b23), .val (.ref b1), .val (.int (1 : Int32)), .val (.ref ww), .val (.ref b1)] [(.int (0 : Int32)), (.int (1 : Int32))])) (fun t_ k_ => XS.iload X41.here hx rfl (hb hby at_146) rfl k_) ?_
    refine own_by (T' := T41) (g' := (mkF m 149 #[.val (.int qa), .val (.int x0), .val (.int x1), .val (.int x2), .val (.int x3), .val (.ref b1), .val (.int (0 : Int32)), .val (.int ad), .val (.ref b15), .val (.ref b23), .val (.ref b1), .val (.int (1 : Int32)), .val (.ref ww), .val (.ref b1)] [(.int (1 : Int32)), (.int (0 : Int32)), (.int (1 : Int32))])) (fun t_ k_ => XS.iconst X41.here hx rfl (hb hby at_148) k_) ?_
    refine own_by (T' := T41) (g' := (mkF m 150 #[.val (.int qa), .val (.int x0), .val (.int x1), .val (.int x2), .val (.int x3), .val (.ref b1), .val (.int (0 : Int32)), .val (.int ad), .val (.ref b15), .val (.ref b23), .val (.ref b1), .val (.int (1 : Int32)), .val (.ref ww), .val (.ref b1)] [(.int (1 : Int32)), (.int (1 : Int32))])) (fun t_ k_ => XS.iadd X41.here hx rfl (hb hby at_149) rfl k_) ?_
    refine own_by (T' := T41) (g' := (mkF m 153 #[.val (.int qa), .val (.int x0), .val (.int x1), .val (.int x2), .val (.int x3), .val (.ref b1), .val (.int (0 : Int32)), .val (.int ad), .val (.ref b15), .val (.ref b23), .val (.ref b1), .val (.int (1 : Int32)), .val (.ref ww), .val (.ref b1)] [])) (fun t_ k_ => XS.icmpNo X41.here hx rfl (hb hby at_150) rfl (teq ((by decide) : (1 : Int32) = (1 : Int32))).2 k_) ?_
    refine own_by (T' := T41) (g' := (mkF m 154 #[.val (.int qa), .val (.int x0), .val (.int x1), .val (.int x2), .val (.int x3), .val (.ref b1), .val (.int (0 : Int32)), .val (.int ad), .val (.ref b15), .val (.ref b23), .val (.ref b1), .val (.int (1 : Int32)), .val (.ref ww), .val (.ref b1)] [(.int (1 : Int32))])) (fun t_ k_ => XS.iconst X41.here hx rfl (hb hby at_153) k_) ?_
    refine own_by (T' := T41) (g' := (mkF m 158 #[.val (.int qa), .val (.int x0), .val (.int x1), .val (.int x2), .val (.int x3), .val (.ref b1), .val (.int (0 : Int32)), .val (.int ad), .val (.ref b15), .val (.ref b23), .val (.ref b1), .val (.int (1 : Int32)), .val (.ref ww), .val (.ref b1)] [(.int (1 : Int32))])) (fun t_ k_ => XS.goto X41.here hx rfl (pc0 := 154) (pc' := 158) rfl (hb hby at_154) (by decide) (by decide) k_) ?_
    refine own_by (T' := T41) (g' := (mkF m 160 #[.val (.int qa), .val (.int x0), .val (.int x1), .val (.int x2), .val (.int x3), .val (.ref b1), .val (.int (0 : Int32)), .val (.int ad), .val (.ref b15), .val (.ref b23), .val (.ref b1), .val (.int (1 : Int32)), .val (.ref ww), .val (.ref b1)] [])) (fun t_ k_ => XS.istore X41.here hx rfl (hb hby at_158) rfl (l' := #[.val (.int qa), .val (.int x0), .val (.int x1), .val (.int x2), .val (.int x3), .val (.ref b1), .val (.int (0 : Int32)), .val (.int ad), .val (.ref b15), .val (.ref b23), .val (.ref b1), .val (.int (1 : Int32)), .val (.ref ww), .val (.ref b1)]) rfl k_) ?_
    refine own_by (T' := T41) (g' := (mkF m 162 #[.val (.int qa), .val (.int x0), .val (.int x1), .val (.int x2), .val (.int x3), .val (.ref b1), .val (.int (0 : Int32)), .val (.int ad), .val (.ref b15), .val (.ref b23), .val (.ref b1), .val (.int (1 : Int32)), .val (.ref ww), .val (.ref b1)] [(.int (0 : Int32))])) (fun t_ k_ => XS.iload X41.here hx rfl (hb hby at_160) rfl k_) ?_
    refine own_by (T' := T41) (g' := (mkF m 163 #[.val (.int qa), .val (.int x0), .val (.int x1), .val (.int x2), .val (.int x3), .val (.ref b1), .val (.int (0 : Int32)), .val (.int ad), .val (.ref b15), .val (.ref b23), .val (.ref b1), .val (.int (1 : Int32)), .val (.ref ww), .val (.ref b1)] [(.int (4 : Int32)), (.int (0 : Int32))])) (fun t_ k_ => XS.iconst X41.here hx rfl (hb hby at_162) k_) ?_
    refine own_by (T' := T41) (g' := (mkF m 166 #[.val (.int qa), .val (.int x0), .val (.int x1), .val (.int x2), .val (.int x3), .val (.ref b1), .val (.int (0 : Int32)), .val (.int ad), .val (.ref b15), .val (.ref b23), .val (.ref b1), .val (.int (1 : Int32)), .val (.ref ww), .val (.ref b1)] [])) (fun t_ k_ => XS.icmpNo X41.here hx rfl (hb hby at_163) rfl (tlt ((by decide) : (0 : Int32) < (4 : Int32))).2.1 k_) ?_
    refine own_by (T' := T41) (g' := (mkF m 168 #[.val (.int qa), .val (.int x0), .val (.int x1), .val (.int x2), .val (.int x3), .val (.ref b1), .val (.int (0 : Int32)), .val (.int ad), .val (.ref b15), .val (.ref b23), .val (.ref b1), .val (.int (1 : Int32)), .val (.ref ww), .val (.ref b1)] [(.int (1 : Int32))])) (fun t_ k_ => XS.iload X41.here hx rfl (hb hby at_166) rfl k_) ?_
    refine own_by (T' := T41) (g' := (mkF m 171 #[.val (.int qa), .val (.int x0), .val (.int x1), .val (.int x2), .val (.int x3), .val (.ref b1), .val (.int (0 : Int32)), .val (.int ad), .val (.ref b15), .val (.ref b23), .val (.ref b1), .val (.int (1 : Int32)), .val (.ref ww), .val (.ref b1)] [])) (fun t_ k_ => XS.ifNo X41.here hx rfl (hb hby at_168) rfl ((if0 _ _).trans (feq ((by decide) : ¬ ((1 : Int32) = (0 : Int32)))).1) k_) ?_
    refine own_by (T' := T41) (g' := (mkF m 173 #[.val (.int qa), .val (.int x0), .val (.int x1), .val (.int x2), .val (.int x3), .val (.ref b1), .val (.int (0 : Int32)), .val (.int ad), .val (.ref b15), .val (.ref b23), .val (.ref b1), .val (.int (1 : Int32)), .val (.ref ww), .val (.ref b1)] [(.ref b1)])) (fun t_ k_ => XS.aload X41.here hx rfl (hb hby at_171) rfl rfl k_) ?_
    refine own_by (T' := T41) (g' := (mkF m 175 #[.val (.int qa), .val (.int x0), .val (.int x1), .val (.int x2), .val (.int x3), .val (.ref b1), .val (.int (0 : Int32)), .val (.int ad), .val (.ref b15), .val (.ref b23), .val (.ref b1), .val (.int (1 : Int32)), .val (.ref ww), .val (.ref b1)] [(.ref b1), (.ref b1)])) (fun t_ k_ => XS.aload X41.here hx rfl (hb hby at_173) rfl rfl k_) ?_
    refine own_by (T' := T41) (g' := (mkF m 178 #[.val (.int qa), .val (.int x0), .val (.int x1), .val (.int x2), .val (.int x3), .val (.ref b1), .val (.int (0 : Int32)), .val (.int ad), .val (.ref b15), .val (.ref b23), .val (.ref b1), .val (.int (1 : Int32)), .val (.ref ww), .val (.ref b1)] [])) (fun t_ k_ => Jvm.RoadKit.acmp (g := (mkF m 175 #[.val (.int qa), .val (.int x0), .val (.int x1), .val (.int x2), .val (.int x3), .val (.ref b1), .val (.int (0 : Int32)), .val (.int ad), .val (.ref b15), .val (.ref b23), .val (.ref b1), .val (.int (1 : Int32)), .val (.ref ww), .val (.ref b1)] [(.ref b1), (.ref b1)])) X41 hx rfl rfl rfl (pc0 := 175) (pc' := 178) (same := true) rfl (hb hby at_175) rfl (decide_eq_true rfl) (by decide) (by decide) k_) ?_
    refine own_by (T' := T41) (g' := (mkF m 180 #[.val (.int qa), .val (.int x0), .val (.int x1), .val (.int x2), .val (.int x3), .val (.ref b1), .val (.int (0 : Int32)), .val (.int ad), .val (.ref b15), .val (.ref b23), .val (.ref b1), .val (.int (1 : Int32)), .val (.ref ww), .val (.ref b1)] [(.ref b1)])) (fun t_ k_ => XS.aload X41.here hx rfl (hb hby at_178) rfl rfl k_) ?_
    refine own_by (T' := T41) (g' := (mkF m 181 #[.val (.int qa), .val (.int x0), .val (.int x1), .val (.int x2), .val (.int x3), .val (.ref b1), .val (.int (0 : Int32)), .val (.int ad), .val (.ref b15), .val (.ref b23), .val (.ref b1), .val (.int (1 : Int32)), .val (.ref ww), .val (.ref b1)] [(.int (4 : Int32))])) (fun t_ k_ => own_alen X41 hx hZ e41 Vw (z := (4 : Int32)) rfl (g := (mkF m 180 #[.val (.int qa), .val (.int x0), .val (.int x1), .val (.int x2), .val (.int x3), .val (.ref b1), .val (.int (0 : Int32)), .val (.int ad), .val (.ref b15), .val (.ref b23), .val (.ref b1), .val (.int (1 : Int32)), .val (.ref ww), .val (.ref b1)] [(.ref b1)])) rfl rfl (hb hby at_180) _ k_) ?_
    refine own_by (T' := T41) (g' := (mkF m 182 #[.val (.int qa), .val (.int x0), .val (.int x1), .val (.int x2), .val (.int x3), .val (.ref b1), .val (.int (0 : Int32)), .val (.int ad), .val (.ref b15), .val (.ref b23), .val (.ref b1), .val (.int (1 : Int32)), .val (.ref ww), .val (.ref b1)] [(.int (4 : Int32)), (.int (4 : Int32))])) (fun t_ k_ => XS.iconst X41.here hx rfl (hb hby at_181) k_) ?_
    refine own_by (T' := T41) (g' := (mkF m 185 #[.val (.int qa), .val (.int x0), .val (.int x1), .val (.int x2), .val (.int x3), .val (.ref b1), .val (.int (0 : Int32)), .val (.int ad), .val (.ref b15), .val (.ref b23), .val (.ref b1), .val (.int (1 : Int32)), .val (.ref ww), .val (.ref b1)] [])) (fun t_ k_ => XS.icmpNo X41.here hx rfl (hb hby at_182) rfl (teq ((by decide) : (4 : Int32) = (4 : Int32))).2 k_) ?_
    refine own_by (T' := T41) (g' := (mkF m 187 #[.val (.int qa), .val (.int x0), .val (.int x1), .val (.int x2), .val (.int x3), .val (.ref b1), .val (.int (0 : Int32)), .val (.int ad), .val (.ref b15), .val (.ref b23), .val (.ref b1), .val (.int (1 : Int32)), .val (.ref ww), .val (.ref b1)] [(.ref b1)])) (fun t_ k_ => XS.aload X41.here hx rfl (hb hby at_185) rfl rfl k_) ?_
    refine own_by (T' := T41) (g' := (mkF m 189 #[.val (.int qa), .val (.int x0), .val (.int x1), .val (.int x2), .val (.int x3), .val (.ref b1), .val (.int (0 : Int32)), .val (.int ad), .val (.ref b15), .val (.ref b23), .val (.ref b1), .val (.int (1 : Int32)), .val (.ref ww), .val (.ref b1)] [(.int (0 : Int32)), (.ref b1)])) (fun t_ k_ => XS.iload X41.here hx rfl (hb hby at_187) rfl k_) ?_
    refine own_by (T' := T41) (g' := (mkF m 191 #[.val (.int qa), .val (.int x0), .val (.int x1), .val (.int x2), .val (.int x3), .val (.ref b1), .val (.int (0 : Int32)), .val (.int ad), .val (.ref b15), .val (.ref b23), .val (.ref b1), .val (.int (1 : Int32)), .val (.ref ww), .val (.ref b1)] [(.int ad), (.int (0 : Int32)), (.ref b1)])) (fun t_ k_ => XS.iload X41.here hx rfl (hb hby at_189) rfl k_) ?_
    refine own_by (T' := T41) (g' := (mkF m 192 #[.val (.int qa), .val (.int x0), .val (.int x1), .val (.int x2), .val (.int x3), .val (.ref b1), .val (.int (0 : Int32)), .val (.int ad), .val (.ref b15), .val (.ref b23), .val (.ref b1), .val (.int (1 : Int32)), .val (.ref ww), .val (.ref b1)] [(.int x0), (.int ad), (.int (0 : Int32)), (.ref b1)])) (fun t_ k_ => XS.iloadN X41.here hx rfl (hb hby at_191) rfl k_) ?_
    refine own_by (T' := T41) (g' := (mkF m 193 #[.val (.int qa), .val (.int x0), .val (.int x1), .val (.int x2), .val (.int x3), .val (.ref b1), .val (.int (0 : Int32)), .val (.int ad), .val (.ref b15), .val (.ref b23), .val (.ref b1), .val (.int (1 : Int32)), .val (.ref ww), .val (.ref b1)] [(.int x1), (.int x0), (.int ad), (.int (0 : Int32)), (.ref b1)])) (fun t_ k_ => XS.iloadN X41.here hx rfl (hb hby at_192) rfl k_) ?_
    refine own_by (T' := T41) (g' := (mkF m 194 #[.val (.int qa), .val (.int x0), .val (.int x1), .val (.int x2), .val (.int x3), .val (.ref b1), .val (.int (0 : Int32)), .val (.int ad), .val (.ref b15), .val (.ref b23), .val (.ref b1), .val (.int (1 : Int32)), .val (.ref ww), .val (.ref b1)] [(.int x2), (.int x1), (.int x0), (.int ad), (.int (0 : Int32)), (.ref b1)])) (fun t_ k_ => XS.iloadN X41.here hx rfl (hb hby at_193) rfl k_) ?_
    refine own_by (T' := T41) (g' := (mkF m 196 #[.val (.int qa), .val (.int x0), .val (.int x1), .val (.int x2), .val (.int x3), .val (.ref b1), .val (.int (0 : Int32)), .val (.int ad), .val (.ref b15), .val (.ref b23), .val (.ref b1), .val (.int (1 : Int32)), .val (.ref ww), .val (.ref b1)] [(.int x3), (.int x2), (.int x1), (.int x0), (.int ad), (.int (0 : Int32)), (.ref b1)])) (fun t_ k_ => XS.iload X41.here hx rfl (hb hby at_194) rfl k_) ?_
    obtain ⟨_, T42, L42, X42, hQ42, st42⟩ := own_callS X41 hx hZ (y := (⟨"com/example/rowgate/rowgate/StoredValueArrayPinLaw", "afterAppend", "([BIBIIII)Z"⟩ : MethodName)) hown (hw _ (List.mem_of_getElem? (i := 44) rfl)) (hw _ (List.mem_of_getElem? (i := 45) rfl)) (hw _ (List.mem_of_getElem? (i := 26) rfl)) (hw _ (List.mem_of_getElem? (i := 46) rfl)) (by decide) (argsL := [(.ref b1), (.int (0 : Int32)), (.int ad), (.int x0), (.int x1), (.int x2), (.int x3)]) (rest := []) (own_rm_ap0 l Z a0 hw [] b1 ad x0 x1 x2 x3 (fun i => if 0 ≤ i ∧ i < 1 then (fun i => if i = 0 then (nar .byte ad) else (fun _ => (0 : Int32)) i) (0 + (i - 0)) else own_b4 x0 x1 x2 x3 i) T37.heap n0 f38 Vw hnb rfl rfl rfl) e41 (W := 0) (by decide) (by decide) (by decide) (by decide) (g := (mkF m 196 #[.val (.int qa), .val (.int x0), .val (.int x1), .val (.int x2), .val (.int x3), .val (.ref b1), .val (.int (0 : Int32)), .val (.int ad), .val (.ref b15), .val (.ref b23), .val (.ref b1), .val (.int (1 : Int32)), .val (.ref ww), .val (.ref b1)] [(.int x3), (.int x2), (.int x1), (.int x0), (.int ad), (.int (0 : Int32)), (.ref b1)])) rfl (by rw [hml]; rfl) (lenOf own_pd8 rfl) rfl (by show 2 * 0 + _ ≤ _; exact Nat.le_of_eq rfl) (hb hby at_196)
    obtain ⟨rfl, Nq42, e42⟩ := hQ42
    have N42 := Fr.app N41 Nq42
    refine st42 _ ?_
    show own_Goes p e below _ T42 (mkF m 199 #[.val (.int qa), .val (.int x0), .val (.int x1), .val (.int x2), .val (.int x3), .val (.ref b1), .val (.int (0 : Int32)), .val (.int ad), .val (.ref b15), .val (.ref b23), .val (.ref b1), .val (.int (1 : Int32)), .val (.ref ww), .val (.ref b1)] [(.int (1 : Int32))])
    refine own_by (T' := T42) (g' := (mkF m 202 #[.val (.int qa), .val (.int x0), .val (.int x1), .val (.int x2), .val (.int x3), .val (.ref b1), .val (.int (0 : Int32)), .val (.int ad), .val (.ref b15), .val (.ref b23), .val (.ref b1), .val (.int (1 : Int32)), .val (.ref ww), .val (.ref b1)] [])) (fun t_ k_ => XS.ifNo X42.here hx rfl (hb hby at_199) rfl ((if0 _ _).trans (feq ((by decide) : ¬ ((1 : Int32) = (0 : Int32)))).1) k_) ?_
    refine own_by (T' := T42) (g' := (mkF m 203 #[.val (.int qa), .val (.int x0), .val (.int x1), .val (.int x2), .val (.int x3), .val (.ref b1), .val (.int (0 : Int32)), .val (.int ad), .val (.ref b15), .val (.ref b23), .val (.ref b1), .val (.int (1 : Int32)), .val (.ref ww), .val (.ref b1)] [(.int (1 : Int32))])) (fun t_ k_ => XS.iconst X42.here hx rfl (hb hby at_202) k_) ?_
    refine own_by (T' := T42) (g' := (mkF m 207 #[.val (.int qa), .val (.int x0), .val (.int x1), .val (.int x2), .val (.int x3), .val (.ref b1), .val (.int (0 : Int32)), .val (.int ad), .val (.ref b15), .val (.ref b23), .val (.ref b1), .val (.int (1 : Int32)), .val (.ref ww), .val (.ref b1)] [(.int (1 : Int32))])) (fun t_ k_ => XS.goto X42.here hx rfl (pc0 := 203) (pc' := 207) rfl (hb hby at_203) (by decide) (by decide) k_) ?_
    refine own_by (T' := T42) (g' := (mkF m 209 #[.val (.int qa), .val (.int x0), .val (.int x1), .val (.int x2), .val (.int x3), .val (.ref b1), .val (.int (0 : Int32)), .val (.int ad), .val (.ref b15), .val (.ref b23), .val (.ref b1), .val (.int (1 : Int32)), .val (.ref ww), .val (.ref b1)] [])) (fun t_ k_ => XS.istore X42.here hx rfl (hb hby at_207) rfl (l' := #[.val (.int qa), .val (.int x0), .val (.int x1), .val (.int x2), .val (.int x3), .val (.ref b1), .val (.int (0 : Int32)), .val (.int ad), .val (.ref b15), .val (.ref b23), .val (.ref b1), .val (.int (1 : Int32)), .val (.ref ww), .val (.ref b1)]) rfl k_) ?_
    refine own_by (T' := T42) (g' := (mkF m 274 #[.val (.int qa), .val (.int x0), .val (.int x1), .val (.int x2), .val (.int x3), .val (.ref b1), .val (.int (0 : Int32)), .val (.int ad), .val (.ref b15), .val (.ref b23), .val (.ref b1), .val (.int (1 : Int32)), .val (.ref ww), .val (.ref b1)] [])) (fun t_ k_ => XS.goto X42.here hx rfl (pc0 := 209) (pc' := 274) rfl (hb hby at_209) (by decide) (by decide) k_) ?_
    refine own_by (T' := T42) (g' := (mkF m 276 #[.val (.int qa), .val (.int x0), .val (.int x1), .val (.int x2), .val (.int x3), .val (.ref b1), .val (.int (0 : Int32)), .val (.int ad), .val (.ref b15), .val (.ref b23), .val (.ref b1), .val (.int (1 : Int32)), .val (.ref ww), .val (.ref b1)] [(.int (1 : Int32))])) (fun t_ k_ => XS.iload X42.here hx rfl (hb hby at_274) rfl k_) ?_
    refine own_retN X42 hx (t := .boolean) Bd.returns hlk (by simp) (hb hby at_276) (by decide) (by decide) (v := (1 : Int32)) rfl ?_
    rw [e42]
    exact ⟨rfl, N42⟩
  · skip
    rw [hk]
    refine own_by (T' := T12) (g' := (mkF m 39 #[.val (.int qa), .val (.int x0), .val (.int x1), .val (.int x2), .val (.int x3), .val (.ref b1), .val (.int (1 : Int32)), .unset, .unset, .unset, .unset, .unset, .unset, .unset] [(.int qa)])) (fun t_ k_ => XS.iloadN X12.here hx rfl (hb hby at_38) rfl k_) ?_
    refine own_by (T' := T12) (g' := (mkF m 41 #[.val (.int qa), .val (.int x0), .val (.int x1), .val (.int x2), .val (.int x3), .val (.ref b1), .val (.int (1 : Int32)), .unset, .unset, .unset, .unset, .unset, .unset, .unset] [(.int (8 : Int32)), (.int qa)])) (fun t_ k_ => XS.bipush X12.here hx rfl (hb hby at_39) k_) ?_
    refine own_by (T' := T12) (g' := (mkF m 42 #[.val (.int qa), .val (.int x0), .val (.int x1), .val (.int x2), .val (.int x3), .val (.ref b1), .val (.int (1 : Int32)), .unset, .unset, .unset, .unset, .unset, .unset, .unset] [(.int (qa >>> ((8 : Int32) &&& 31)))])) (fun t_ k_ => XS.ishr X12.here hx rfl (hb hby at_41) rfl k_) ?_
    refine own_by (T' := T12) (g' := (mkF m 43 #[.val (.int qa), .val (.int x0), .val (.int x1), .val (.int x2), .val (.int x3), .val (.ref b1), .val (.int (1 : Int32)), .unset, .unset, .unset, .unset, .unset, .unset, .unset] [(.int (qa >>> ((8 : Int32) &&& 31)).toInt8.toInt32)])) (fun t_ k_ => XS.i2b X12.here hx rfl (hb hby at_42) rfl k_) ?_
    refine own_by (T' := T12) (g' := (mkF m 45 #[.val (.int qa), .val (.int x0), .val (.int x1), .val (.int x2), .val (.int x3), .val (.ref b1), .val (.int (1 : Int32)), .val (.int (qa >>> ((8 : Int32) &&& 31)).toInt8.toInt32), .unset, .unset, .unset, .unset, .unset, .unset] [])) (fun t_ k_ => XS.istore X12.here hx rfl (hb hby at_43) rfl (l' := #[.val (.int qa), .val (.int x0), .val (.int x1), .val (.int x2), .val (.int x3), .val (.ref b1), .val (.int (1 : Int32)), .val (.int (qa >>> ((8 : Int32) &&& 31)).toInt8.toInt32), .unset, .unset, .unset, .unset, .unset, .unset]) rfl k_) ?_
    obtain ⟨ad, had⟩ : ∃ z, z = (qa >>> ((8 : Int32) &&& 31)).toInt8.toInt32 := ⟨_, rfl⟩
    have hnb : nar .byte ad = ad := by rw [had]; exact own_nb _
    rw [← had]
    refine own_by (T' := T12) (g' := (mkF m 46 #[.val (.int qa), .val (.int x0), .val (.int x1), .val (.int x2), .val (.int x3), .val (.ref b1), .val (.int (1 : Int32)), .val (.int ad), .unset, .unset, .unset, .unset, .unset, .unset] [(.int (1 : Int32))])) (fun t_ k_ => XS.iconst X12.here hx rfl (hb hby at_45) k_) ?_
    obtain ⟨T43, h43, k43, X43, e43, E43, A43, st43⟩ := newP X12 hx hZ (hw _ (List.mem_of_getElem? (i := 0) rfl)) e12 (g := (mkF m 46 #[.val (.int qa), .val (.int x0), .val (.int x1), .val (.int x2), .val (.int x3), .val (.ref b1), .val (.int (1 : Int32)), .val (.int ad), .unset, .unset, .unset, .unset, .unset, .unset] [(.int (1 : Int32))])) rfl (hb hby at_46) rfl (by decide) (cap := 1) (by decide) (by decide) (by decide) (by decide)
    obtain ⟨b43, g43⟩ : ∃ z, z = h12.size := ⟨_, rfl⟩
    rw [← g43] at A43 st43
    have g_b43 : n0 ≤ b43 := Nat.le_trans f13 (Nat.le_of_eq g43.symm)
    have ne44 : b1 ≠ b43 := Nat.ne_of_lt (Nat.lt_of_lt_of_le (own_Ia_lt Vn) (Nat.le_of_eq g43.symm))
    have f45 := Nat.le_trans f13 E43.1
    have f46 := own_Ia_ext E43 Vn
    have V43 : own_Ia Z h43 b43 .byte 1 (fun _ => (0 : Int32)) := own_Ia_new A43 rfl rfl rfl
    refine own_by (T' := T43) (g' := (mkF m 48 #[.val (.int qa), .val (.int x0), .val (.int x1), .val (.int x2), .val (.int x3), .val (.ref b1), .val (.int (1 : Int32)), .val (.int ad), .unset, .unset, .unset, .unset, .unset, .unset] [(.ref b43)])) st43 ?_
    refine own_by (T' := T43) (g' := (mkF m 50 #[.val (.int qa), .val (.int x0), .val (.int x1), .val (.int x2), .val (.int x3), .val (.ref b1), .val (.int (1 : Int32)), .val (.int ad), .val (.ref b43), .unset, .unset, .unset, .unset, .unset] [])) (fun t_ k_ => XS.astore X43.here hx rfl (hb hby at_48) rfl rfl (l' := #[.val (.int qa), .val (.int x0), .val (.int x1), .val (.int x2), .val (.int x3), .val (.ref b1), .val (.int (1 : Int32)), .val (.int ad), .val (.ref b43), .unset, .unset, .unset, .unset, .unset]) rfl k_) ?_
    refine own_by (T' := T43) (g' := (mkF m 52 #[.val (.int qa), .val (.int x0), .val (.int x1), .val (.int x2), .val (.int x3), .val (.ref b1), .val (.int (1 : Int32)), .val (.int ad), .val (.ref b43), .unset, .unset, .unset, .unset, .unset] [(.ref b43)])) (fun t_ k_ => XS.aload X43.here hx rfl (hb hby at_50) rfl rfl k_) ?_
    refine own_by (T' := T43) (g' := (mkF m 53 #[.val (.int qa), .val (.int x0), .val (.int x1), .val (.int x2), .val (.int x3), .val (.ref b1), .val (.int (1 : Int32)), .val (.int ad), .val (.ref b43), .unset, .unset, .unset, .unset, .unset] [(.int (0 : Int32)), (.ref b43)])) (fun t_ k_ => XS.iconst X43.here hx rfl (hb hby at_52) k_) ?_
    refine own_by (T' := T43) (g' := (mkF m 55 #[.val (.int qa), .val (.int x0), .val (.int x1), .val (.int x2), .val (.int x3), .val (.ref b1), .val (.int (1 : Int32)), .val (.int ad), .val (.ref b43), .unset, .unset, .unset, .unset, .unset] [(.int ad), (.int (0 : Int32)), (.ref b43)])) (fun t_ k_ => XS.iload X43.here hx rfl (hb hby at_53) rfl k_) ?_
    obtain ⟨T47, h47, X47, e47, W47, st47⟩ := own_bas X43 hx hZ e43 V43 (j := (0 : Int32)) (by decide) (by decide) (g := (mkF m 55 #[.val (.int qa), .val (.int x0), .val (.int x1), .val (.int x2), .val (.int x3), .val (.ref b1), .val (.int (1 : Int32)), .val (.int ad), .val (.ref b43), .unset, .unset, .unset, .unset, .unset] [(.int ad), (.int (0 : Int32)), (.ref b43)])) rfl rfl (hb hby at_55)
    refine own_by (T' := T47) (g' := (mkF m 56 #[.val (.int qa), .val (.int x0), .val (.int x1), .val (.int x2), .val (.int x3), .val (.ref b1), .val (.int (1 : Int32)), .val (.int ad), .val (.ref b43), .unset, .unset, .unset, .unset, .unset] [])) st47 ?_
    have N47 := Fr.snoc X47 N12 g_b43
    have f48 := Nat.le_trans f45 (Keep.of_wr W47).1
    have f49 := own_Ia_other W47 f46 ne44
    have V50 : own_Ia Z h47 b43 .byte 1 (fun i => if i = 0 then (nar .byte ad) else (fun _ => (0 : Int32)) i) := own_Ia_set W47 V43 (fits_nar_byte _)
    obtain ⟨T51, h51, X51, e51, E51, A51, D51, -, st51⟩ := newO X47 hx hZ hown (hw _ (List.mem_of_getElem? (i := 2) rfl)) (hw _ (List.mem_of_getElem? (i := 3) rfl)) (hw _ (List.mem_of_getElem? (i := 4) rfl)) e47 (g := (mkF m 56 #[.val (.int qa), .val (.int x0), .val (.int x1), .val (.int x2), .val (.int x3), .val (.ref b1), .val (.int (1 : Int32)), .val (.int ad), .val (.ref b43), .unset, .unset, .unset, .unset, .unset] [])) rfl (hb hby at_56) (by decide) (by decide)
    obtain ⟨b51, g51⟩ : ∃ z, z = h47.size := ⟨_, rfl⟩
    rw [← g51] at A51 D51 st51
    have g_b51 : n0 ≤ b51 := Nat.le_trans f48 (Nat.le_of_eq g51.symm)
    have ne52 : b1 ≠ b51 := Nat.ne_of_lt (Nat.lt_of_lt_of_le (own_Ia_lt f49) (Nat.le_of_eq g51.symm))
    have ne53 : b43 ≠ b51 := Nat.ne_of_lt (Nat.lt_of_lt_of_le (own_Ia_lt V50) (Nat.le_of_eq g51.symm))
    have f54 := Nat.le_trans f48 E51.1
    have f55 := own_Ia_ext E51 f49
    have f56 := own_Ia_ext E51 V50
    have F51_bytes : Fld Z h51 b51 "com/example/rowgate/rowgate/StoredValue" "bytes" "[B" .null := D51 (Or.inr (hw _ (List.mem_of_getElem? (i := 12) rfl))) (ty := (.array .byte)) (by decide)
    have F51_file : Fld Z h51 b51 "com/example/rowgate/rowgate/StoredValue" "file" "Lcom/example/rowgate/rowgate/StoredValue$FileBytes;" .null := D51 (Or.inr (hw _ (List.mem_of_getElem? (i := 14) rfl))) (ty := (.object "com/example/rowgate/rowgate/StoredValue$FileBytes")) (by decide)
    have F51_offset : Fld Z h51 b51 "com/example/rowgate/rowgate/StoredValue" "offset" "J" (.long (0 : Int64)) := D51 (Or.inr (hw _ (List.mem_of_getElem? (i := 16) rfl))) (ty := .long) (by decide)
    have F51_length : Fld Z h51 b51 "com/example/rowgate/rowgate/StoredValue" "length" "I" (.int (0 : Int32)) := D51 (Or.inr (hw _ (List.mem_of_getElem? (i := 18) rfl))) (ty := .int) (by decide)
    refine own_by (T' := T51) (g' := (mkF m 59 #[.val (.int qa), .val (.int x0), .val (.int x1), .val (.int x2), .val (.int x3), .val (.ref b1), .val (.int (1 : Int32)), .val (.int ad), .val (.ref b43), .unset, .unset, .unset, .unset, .unset] [(.ref b51)])) st51 ?_
    refine own_by (T' := T51) (g' := (mkF m 60 #[.val (.int qa), .val (.int x0), .val (.int x1), .val (.int x2), .val (.int x3), .val (.ref b1), .val (.int (1 : Int32)), .val (.int ad), .val (.ref b43), .unset, .unset, .unset, .unset, .unset] [(.ref b51), (.ref b51)])) (fun t_ k_ => XS.dup X51.here hx rfl (hb hby at_59) rfl rfl k_) ?_
    refine own_by (T' := T51) (g' := (mkF m 62 #[.val (.int qa), .val (.int x0), .val (.int x1), .val (.int x2), .val (.int x3), .val (.ref b1), .val (.int (1 : Int32)), .val (.int ad), .val (.ref b43), .unset, .unset, .unset, .unset, .unset] [(.ref b1), (.ref b51), (.ref b51)])) (fun t_ k_ => XS.aload X51.here hx rfl (hb hby at_60) rfl rfl k_) ?_
    refine own_by (T' := T51) (g' := (mkF m 64 #[.val (.int qa), .val (.int x0), .val (.int x1), .val (.int x2), .val (.int x3), .val (.ref b1), .val (.int (1 : Int32)), .val (.int ad), .val (.ref b43), .unset, .unset, .unset, .unset, .unset] [(.int (1 : Int32)), (.ref b1), (.ref b51), (.ref b51)])) (fun t_ k_ => XS.iload X51.here hx rfl (hb hby at_62) rfl k_) ?_
    obtain ⟨_, T57, L57, X57, hQ57, st57⟩ := own_callI X51 hx hZ (y := (⟨"com/example/rowgate/rowgate/StoredValue", "<init>", "([BI)V"⟩ : MethodName)) rfl hown (hw _ (List.mem_of_getElem? (i := 5) rfl)) (hw _ (List.mem_of_getElem? (i := 6) rfl)) (hw _ (List.mem_of_getElem? (i := 4) rfl)) (hw _ (List.mem_of_getElem? (i := 7) rfl)) (by decide) (argsL := [(.ref b1), (.int (1 : Int32))]) (rest := [(.ref b51)]) (own_rm_svI l Z a0 hw [] b51 b1 (1 : Int32) h51 n0 f54 A51 g_b51 F51_bytes F51_file F51_offset F51_length) e51 (W := 1) (by decide) (by decide) (by decide) (by decide) (g := (mkF m 64 #[.val (.int qa), .val (.int x0), .val (.int x1), .val (.int x2), .val (.int x3), .val (.ref b1), .val (.int (1 : Int32)), .val (.int ad), .val (.ref b43), .unset, .unset, .unset, .unset, .unset] [(.int (1 : Int32)), (.ref b1), (.ref b51), (.ref b51)])) rfl (by rw [hml]; rfl) (lenOf own_pd1 rfl) rfl (by show 2 * 0 + _ ≤ _; exact Nat.le_of_eq rfl) (hb hby at_64)
    obtain ⟨rfl, Nq57, Kq57, Eq57, Fq57_bytes, Fq57_file, Fq57_offset, Fq57_length⟩ := hQ57
    have N57 := Fr.app N47 Nq57
    have f58 := Nat.le_trans f54 Kq57.1
    have f59 := own_Ia_keep Kq57 f55 (ninS ne52 nin0)
    have f60 := own_Ia_keep Kq57 f56 (ninS ne53 nin0)
    have f61 := Exa.keep A51 Kq57
    refine st57 _ ?_
    show own_Goes p e below _ T57 (mkF m 67 #[.val (.int qa), .val (.int x0), .val (.int x1), .val (.int x2), .val (.int x3), .val (.ref b1), .val (.int (1 : Int32)), .val (.int ad), .val (.ref b43), .unset, .unset, .unset, .unset, .unset] [(.ref b51)])
    refine own_by (T' := T57) (g' := (mkF m 69 #[.val (.int qa), .val (.int x0), .val (.int x1), .val (.int x2), .val (.int x3), .val (.ref b1), .val (.int (1 : Int32)), .val (.int ad), .val (.ref b43), .val (.ref b51), .unset, .unset, .unset, .unset] [])) (fun t_ k_ => XS.astore X57.here hx rfl (hb hby at_67) rfl rfl (l' := #[.val (.int qa), .val (.int x0), .val (.int x1), .val (.int x2), .val (.int x3), .val (.ref b1), .val (.int (1 : Int32)), .val (.int ad), .val (.ref b43), .val (.ref b51), .unset, .unset, .unset, .unset]) rfl k_) ?_
    refine own_by (T' := T57) (g' := (mkF m 71 #[.val (.int qa), .val (.int x0), .val (.int x1), .val (.int x2), .val (.int x3), .val (.ref b1), .val (.int (1 : Int32)), .val (.int ad), .val (.ref b43), .val (.ref b51), .unset, .unset, .unset, .unset] [(.ref b51)])) (fun t_ k_ => XS.aload X57.here hx rfl (hb hby at_69) rfl rfl k_) ?_
    obtain ⟨_, T62, L62, X62, hQ62, st62⟩ := own_callV X57 hx hZ (y := (⟨"com/example/rowgate/rowgate/StoredValue", "array", "()[B"⟩ : MethodName)) hown (hw _ (List.mem_of_getElem? (i := 19) rfl)) (hw _ (List.mem_of_getElem? (i := 20) rfl)) (hw _ (List.mem_of_getElem? (i := 22) rfl)) (hw _ (List.mem_of_getElem? (i := 21) rfl)) (hw _ (List.mem_of_getElem? (i := 4) rfl)) (hw _ (List.mem_of_getElem? (i := 23) rfl)) (by decide) (argsL := []) (rest := []) f61 (own_rm_ar l Z a0 hw [] b51 b1 T57.heap n0 f58 Fq57_bytes) rfl (W := 0) (by decide) (by decide) (by decide) (by decide) (g := (mkF m 71 #[.val (.int qa), .val (.int x0), .val (.int x1), .val (.int x2), .val (.int x3), .val (.ref b1), .val (.int (1 : Int32)), .val (.int ad), .val (.ref b43), .val (.ref b51), .unset, .unset, .unset, .unset] [(.ref b51)])) rfl (by rw [hml]; rfl) (lenOf own_pd4 rfl) rfl (by show 2 * 0 + _ ≤ _; exact Nat.le_of_eq rfl) (hb hby at_71)
    obtain ⟨rfl, Nq62, e62⟩ := hQ62
    have N62 := Fr.app N57 Nq62
    refine st62 _ ?_
    show own_Goes p e below _ T62 (mkF m 74 #[.val (.int qa), .val (.int x0), .val (.int x1), .val (.int x2), .val (.int x3), .val (.ref b1), .val (.int (1 : Int32)), .val (.int ad), .val (.ref b43), .val (.ref b51), .unset, .unset, .unset, .unset] [(.ref b1)])
    refine own_by (T' := T62) (g' := (mkF m 76 #[.val (.int qa), .val (.int x0), .val (.int x1), .val (.int x2), .val (.int x3), .val (.ref b1), .val (.int (1 : Int32)), .val (.int ad), .val (.ref b43), .val (.ref b51), .val (.ref b1), .unset, .unset, .unset] [])) (fun t_ k_ => XS.astore X62.here hx rfl (hb hby at_74) rfl rfl (l' := #[.val (.int qa), .val (.int x0), .val (.int x1), .val (.int x2), .val (.int x3), .val (.ref b1), .val (.int (1 : Int32)), .val (.int ad), .val (.ref b43), .val (.ref b51), .val (.ref b1), .unset, .unset, .unset]) rfl k_) ?_
    refine own_by (T' := T62) (g' := (mkF m 78 #[.val (.int qa), .val (.int x0), .val (.int x1), .val (.int x2), .val (.int x3), .val (.ref b1), .val (.int (1 : Int32)), .val (.int ad), .val (.ref b43), .val (.ref b51), .val (.ref b1), .unset, .unset, .unset] [(.ref b1)])) (fun t_ k_ => XS.aload X62.here hx rfl (hb hby at_76) rfl rfl k_) ?_
    refine own_by (T' := T62) (g' := (mkF m 80 #[.val (.int qa), .val (.int x0), .val (.int x1), .val (.int x2), .val (.int x3), .val (.ref b1), .val (.int (1 : Int32)), .val (.int ad), .val (.ref b43), .val (.ref b51), .val (.ref b1), .unset, .unset, .unset] [(.ref b1), (.ref b1)])) (fun t_ k_ => XS.aload X62.here hx rfl (hb hby at_78) rfl rfl k_) ?_
    refine own_by (T' := T62) (g' := (mkF m 83 #[.val (.int qa), .val (.int x0), .val (.int x1), .val (.int x2), .val (.int x3), .val (.ref b1), .val (.int (1 : Int32)), .val (.int ad), .val (.ref b43), .val (.ref b51), .val (.ref b1), .unset, .unset, .unset] [])) (fun t_ k_ => Jvm.RoadKit.acmp (g := (mkF m 80 #[.val (.int qa), .val (.int x0), .val (.int x1), .val (.int x2), .val (.int x3), .val (.ref b1), .val (.int (1 : Int32)), .val (.int ad), .val (.ref b43), .val (.ref b51), .val (.ref b1), .unset, .unset, .unset] [(.ref b1), (.ref b1)])) X62 hx rfl rfl rfl (pc0 := 80) (pc' := 83) (same := true) rfl (hb hby at_80) rfl (decide_eq_true rfl) (by decide) (by decide) k_) ?_
    refine own_by (T' := T62) (g' := (mkF m 85 #[.val (.int qa), .val (.int x0), .val (.int x1), .val (.int x2), .val (.int x3), .val (.ref b1), .val (.int (1 : Int32)), .val (.int ad), .val (.ref b43), .val (.ref b51), .val (.ref b1), .unset, .unset, .unset] [(.ref b1)])) (fun t_ k_ => XS.aload X62.here hx rfl (hb hby at_83) rfl rfl k_) ?_
    refine own_by (T' := T62) (g' := (mkF m 86 #[.val (.int qa), .val (.int x0), .val (.int x1), .val (.int x2), .val (.int x3), .val (.ref b1), .val (.int (1 : Int32)), .val (.int ad), .val (.ref b43), .val (.ref b51), .val (.ref b1), .unset, .unset, .unset] [(.int (4 : Int32))])) (fun t_ k_ => own_alen X62 hx hZ e62 f59 (z := (4 : Int32)) rfl (g := (mkF m 85 #[.val (.int qa), .val (.int x0), .val (.int x1), .val (.int x2), .val (.int x3), .val (.ref b1), .val (.int (1 : Int32)), .val (.int ad), .val (.ref b43), .val (.ref b51), .val (.ref b1), .unset, .unset, .unset] [(.ref b1)])) rfl rfl (hb hby at_85) _ k_) ?_
    refine own_by (T' := T62) (g' := (mkF m 87 #[.val (.int qa), .val (.int x0), .val (.int x1), .val (.int x2), .val (.int x3), .val (.ref b1), .val (.int (1 : Int32)), .val (.int ad), .val (.ref b43), .val (.ref b51), .val (.ref b1), .unset, .unset, .unset] [(.int (4 : Int32)), (.int (4 : Int32))])) (fun t_ k_ => XS.iconst X62.here hx rfl (hb hby at_86) k_) ?_
    refine own_by (T' := T62) (g' := (mkF m 90 #[.val (.int qa), .val (.int x0), .val (.int x1), .val (.int x2), .val (.int x3), .val (.ref b1), .val (.int (1 : Int32)), .val (.int ad), .val (.ref b43), .val (.ref b51), .val (.ref b1), .unset, .unset, .unset] [])) (fun t_ k_ => XS.icmpNo X62.here hx rfl (hb hby at_87) rfl (teq ((by decide) : (4 : Int32) = (4 : Int32))).2 k_) ?_
    refine own_by (T' := T62) (g' := (mkF m 92 #[.val (.int qa), .val (.int x0), .val (.int x1), .val (.int x2), .val (.int x3), .val (.ref b1), .val (.int (1 : Int32)), .val (.int ad), .val (.ref b43), .val (.ref b51), .val (.ref b1), .unset, .unset, .unset] [(.ref b1)])) (fun t_ k_ => XS.aload X62.here hx rfl (hb hby at_90) rfl rfl k_) ?_
    refine own_by (T' := T62) (g' := (mkF m 93 #[.val (.int qa), .val (.int x0), .val (.int x1), .val (.int x2), .val (.int x3), .val (.ref b1), .val (.int (1 : Int32)), .val (.int ad), .val (.ref b43), .val (.ref b51), .val (.ref b1), .unset, .unset, .unset] [(.int x0), (.ref b1)])) (fun t_ k_ => XS.iloadN X62.here hx rfl (hb hby at_92) rfl k_) ?_
    refine own_by (T' := T62) (g' := (mkF m 94 #[.val (.int qa), .val (.int x0), .val (.int x1), .val (.int x2), .val (.int x3), .val (.ref b1), .val (.int (1 : Int32)), .val (.int ad), .val (.ref b43), .val (.ref b51), .val (.ref b1), .unset, .unset, .unset] [(.int x1), (.int x0), (.ref b1)])) (fun t_ k_ => XS.iloadN X62.here hx rfl (hb hby at_93) rfl k_) ?_
    refine own_by (T' := T62) (g' := (mkF m 95 #[.val (.int qa), .val (.int x0), .val (.int x1), .val (.int x2), .val (.int x3), .val (.ref b1), .val (.int (1 : Int32)), .val (.int ad), .val (.ref b43), .val (.ref b51), .val (.ref b1), .unset, .unset, .unset] [(.int x2), (.int x1), (.int x0), (.ref b1)])) (fun t_ k_ => XS.iloadN X62.here hx rfl (hb hby at_94) rfl k_) ?_
    refine own_by (T' := T62) (g' := (mkF m 97 #[.val (.int qa), .val (.int x0), .val (.int x1), .val (.int x2), .val (.int x3), .val (.ref b1), .val (.int (1 : Int32)), .val (.int ad), .val (.ref b43), .val (.ref b51), .val (.ref b1), .unset, .unset, .unset] [(.int x3), (.int x2), (.int x1), (.int x0), (.ref b1)])) (fun t_ k_ => XS.iload X62.here hx rfl (hb hby at_95) rfl k_) ?_
    obtain ⟨_, T63, L63, X63, hQ63, st63⟩ := own_callS X62 hx hZ (y := (⟨"com/example/rowgate/rowgate/StoredValueArrayPinLaw", "same", "([BIIII)Z"⟩ : MethodName)) hown (hw _ (List.mem_of_getElem? (i := 24) rfl)) (hw _ (List.mem_of_getElem? (i := 25) rfl)) (hw _ (List.mem_of_getElem? (i := 26) rfl)) (hw _ (List.mem_of_getElem? (i := 27) rfl)) (by decide) (argsL := [(.ref b1), (.int x0), (.int x1), (.int x2), (.int x3)]) (rest := []) (own_rm_sm l Z a0 hw [] b1 x0 x1 x2 x3 4 (own_b4 x0 x1 x2 x3) T57.heap n0 f58 f59 (by decide) rfl rfl rfl rfl) e62 (W := 0) (by decide) (by decide) (by decide) (by decide) (g := (mkF m 97 #[.val (.int qa), .val (.int x0), .val (.int x1), .val (.int x2), .val (.int x3), .val (.ref b1), .val (.int (1 : Int32)), .val (.int ad), .val (.ref b43), .val (.ref b51), .val (.ref b1), .unset, .unset, .unset] [(.int x3), (.int x2), (.int x1), (.int x0), (.ref b1)])) rfl (by rw [hml]; rfl) (lenOf own_pd5 rfl) rfl (by show 2 * 0 + _ ≤ _; exact Nat.le_of_eq rfl) (hb hby at_97)
    obtain ⟨rfl, Nq63, e63⟩ := hQ63
    have N63 := Fr.app N62 Nq63
    refine st63 _ ?_
    show own_Goes p e below _ T63 (mkF m 100 #[.val (.int qa), .val (.int x0), .val (.int x1), .val (.int x2), .val (.int x3), .val (.ref b1), .val (.int (1 : Int32)), .val (.int ad), .val (.ref b43), .val (.ref b51), .val (.ref b1), .unset, .unset, .unset] [(.int (1 : Int32))])
    refine own_by (T' := T63) (g' := (mkF m 103 #[.val (.int qa), .val (.int x0), .val (.int x1), .val (.int x2), .val (.int x3), .val (.ref b1), .val (.int (1 : Int32)), .val (.int ad), .val (.ref b43), .val (.ref b51), .val (.ref b1), .unset, .unset, .unset] [])) (fun t_ k_ => XS.ifNo X63.here hx rfl (hb hby at_100) rfl ((if0 _ _).trans (feq ((by decide) : ¬ ((1 : Int32) = (0 : Int32)))).1) k_) ?_
    refine own_by (T' := T63) (g' := (mkF m 105 #[.val (.int qa), .val (.int x0), .val (.int x1), .val (.int x2), .val (.int x3), .val (.ref b1), .val (.int (1 : Int32)), .val (.int ad), .val (.ref b43), .val (.ref b51), .val (.ref b1), .unset, .unset, .unset] [(.ref b51)])) (fun t_ k_ => XS.aload X63.here hx rfl (hb hby at_103) rfl rfl k_) ?_
    obtain ⟨_, T64, L64, X64, hQ64, st64⟩ := own_callV X63 hx hZ (y := (⟨"com/example/rowgate/rowgate/StoredValue", "length", "()I"⟩ : MethodName)) hown (hw _ (List.mem_of_getElem? (i := 28) rfl)) (hw _ (List.mem_of_getElem? (i := 29) rfl)) (hw _ (List.mem_of_getElem? (i := 31) rfl)) (hw _ (List.mem_of_getElem? (i := 30) rfl)) (hw _ (List.mem_of_getElem? (i := 4) rfl)) (hw _ (List.mem_of_getElem? (i := 32) rfl)) (by decide) (argsL := []) (rest := []) f61 (own_rm_le l Z a0 hw [] b51 (1 : Int32) T57.heap n0 f58 Fq57_length) e63 (W := 0) (by decide) (by decide) (by decide) (by decide) (g := (mkF m 105 #[.val (.int qa), .val (.int x0), .val (.int x1), .val (.int x2), .val (.int x3), .val (.ref b1), .val (.int (1 : Int32)), .val (.int ad), .val (.ref b43), .val (.ref b51), .val (.ref b1), .unset, .unset, .unset] [(.ref b51)])) rfl (by rw [hml]; rfl) (lenOf own_pd6 rfl) rfl (by show 2 * 0 + _ ≤ _; exact Nat.le_of_eq rfl) (hb hby at_105)
    obtain ⟨rfl, Nq64, e64⟩ := hQ64
    have N64 := Fr.app N63 Nq64
    refine st64 _ ?_
    show own_Goes p e below _ T64 (mkF m 108 #[.val (.int qa), .val (.int x0), .val (.int x1), .val (.int x2), .val (.int x3), .val (.ref b1), .val (.int (1 : Int32)), .val (.int ad), .val (.ref b43), .val (.ref b51), .val (.ref b1), .unset, .unset, .unset] [(.int (1 : Int32))])
    refine own_by (T' := T64) (g' := (mkF m 110 #[.val (.int qa), .val (.int x0), .val (.int x1), .val (.int x2), .val (.int x3), .val (.ref b1), .val (.int (1 : Int32)), .val (.int ad), .val (.ref b43), .val (.ref b51), .val (.ref b1), .unset, .unset, .unset] [(.int (1 : Int32)), (.int (1 : Int32))])) (fun t_ k_ => XS.iload X64.here hx rfl (hb hby at_108) rfl k_) ?_
    refine own_by (T' := T64) (g' := (mkF m 113 #[.val (.int qa), .val (.int x0), .val (.int x1), .val (.int x2), .val (.int x3), .val (.ref b1), .val (.int (1 : Int32)), .val (.int ad), .val (.ref b43), .val (.ref b51), .val (.ref b1), .unset, .unset, .unset] [])) (fun t_ k_ => XS.icmpNo X64.here hx rfl (hb hby at_110) rfl (teq ((by decide) : (1 : Int32) = (1 : Int32))).2 k_) ?_
    refine own_by (T' := T64) (g' := (mkF m 114 #[.val (.int qa), .val (.int x0), .val (.int x1), .val (.int x2), .val (.int x3), .val (.ref b1), .val (.int (1 : Int32)), .val (.int ad), .val (.ref b43), .val (.ref b51), .val (.ref b1), .unset, .unset, .unset] [(.int (1 : Int32))])) (fun t_ k_ => XS.iconst X64.here hx rfl (hb hby at_113) k_) ?_
    refine own_by (T' := T64) (g' := (mkF m 118 #[.val (.int qa), .val (.int x0), .val (.int x1), .val (.int x2), .val (.int x3), .val (.ref b1), .val (.int (1 : Int32)), .val (.int ad), .val (.ref b43), .val (.ref b51), .val (.ref b1), .unset, .unset, .unset] [(.int (1 : Int32))])) (fun t_ k_ => XS.goto X64.here hx rfl (pc0 := 114) (pc' := 118) rfl (hb hby at_114) (by decide) (by decide) k_) ?_
    refine own_by (T' := T64) (g' := (mkF m 120 #[.val (.int qa), .val (.int x0), .val (.int x1), .val (.int x2), .val (.int x3), .val (.ref b1), .val (.int (1 : Int32)), .val (.int ad), .val (.ref b43), .val (.ref b51), .val (.ref b1), .val (.int (1 : Int32)), .unset, .unset] [])) (fun t_ k_ => XS.istore X64.here hx rfl (hb hby at_118) rfl (l' := #[.val (.int qa), .val (.int x0), .val (.int x1), .val (.int x2), .val (.int x3), .val (.ref b1), .val (.int (1 : Int32)), .val (.int ad), .val (.ref b43), .val (.ref b51), .val (.ref b1), .val (.int (1 : Int32)), .unset, .unset]) rfl k_) ?_
    refine own_by (T' := T64) (g' := (mkF m 122 #[.val (.int qa), .val (.int x0), .val (.int x1), .val (.int x2), .val (.int x3), .val (.ref b1), .val (.int (1 : Int32)), .val (.int ad), .val (.ref b43), .val (.ref b51), .val (.ref b1), .val (.int (1 : Int32)), .unset, .unset] [(.ref b51)])) (fun t_ k_ => XS.aload X64.here hx rfl (hb hby at_120) rfl rfl k_) ?_
    refine own_by (T' := T64) (g' := (mkF m 124 #[.val (.int qa), .val (.int x0), .val (.int x1), .val (.int x2), .val (.int x3), .val (.ref b1), .val (.int (1 : Int32)), .val (.int ad), .val (.ref b43), .val (.ref b51), .val (.ref b1), .val (.int (1 : Int32)), .unset, .unset] [(.ref b43), (.ref b51)])) (fun t_ k_ => XS.aload X64.here hx rfl (hb hby at_122) rfl rfl k_) ?_
    obtain ⟨_, T65, L65, X65, hQ65, st65⟩ := own_callV X64 hx hZ (y := (⟨"com/example/rowgate/rowgate/StoredValue", "appended", "([B)Lcom/example/rowgate/rowgate/StoredValue;"⟩ : MethodName)) hown (hw _ (List.mem_of_getElem? (i := 33) rfl)) (hw _ (List.mem_of_getElem? (i := 34) rfl)) (hw _ (List.mem_of_getElem? (i := 36) rfl)) (hw _ (List.mem_of_getElem? (i := 35) rfl)) (hw _ (List.mem_of_getElem? (i := 4) rfl)) (hw _ (List.mem_of_getElem? (i := 37) rfl)) (by decide) (argsL := [(.ref b43)]) (rest := []) f61 (own_rm_ad1 l Z a0 hw [] b51 b43 b1 (own_b4 x0 x1 x2 x3) (fun i => if i = 0 then (nar .byte ad) else (fun _ => (0 : Int32)) i) T57.heap n0 f58 Fq57_bytes Fq57_length f61 f59 f60 g_b1 (Ne.symm ne52) (Ne.symm ne44)) e64 (W := 0) (by decide) (by decide) (by decide) (by decide) (g := (mkF m 124 #[.val (.int qa), .val (.int x0), .val (.int x1), .val (.int x2), .val (.int x3), .val (.ref b1), .val (.int (1 : Int32)), .val (.int ad), .val (.ref b43), .val (.ref b51), .val (.ref b1), .val (.int (1 : Int32)), .unset, .unset] [(.ref b43), (.ref b51)])) rfl (by rw [hml]; rfl) (lenOf own_pd7 rfl) rfl (by show 2 * 0 + _ ≤ _; exact Nat.le_of_eq rfl) (hb hby at_124)
    obtain ⟨ww, rfl, Nq65, Kq65, Ew, Fw1, Fw2, Vw⟩ := hQ65
    have N65 := Fr.app N64 Nq65
    have f66 := Nat.le_trans f58 Kq65.1
    have f67 := Exa.keep f61 Kq65
    refine st65 _ ?_
    show own_Goes p e below _ T65 (mkF m 127 #[.val (.int qa), .val (.int x0), .val (.int x1), .val (.int x2), .val (.int x3), .val (.ref b1), .val (.int (1 : Int32)), .val (.int ad), .val (.ref b43), .val (.ref b51), .val (.ref b1), .val (.int (1 : Int32)), .unset, .unset] [(.ref ww)])
    refine own_by (T' := T65) (g' := (mkF m 129 #[.val (.int qa), .val (.int x0), .val (.int x1), .val (.int x2), .val (.int x3), .val (.ref b1), .val (.int (1 : Int32)), .val (.int ad), .val (.ref b43), .val (.ref b51), .val (.ref b1), .val (.int (1 : Int32)), .val (.ref ww), .unset] [])) (fun t_ k_ => XS.astore X65.here hx rfl (hb hby at_127) rfl rfl (l' := #[.val (.int qa), .val (.int x0), .val (.int x1), .val (.int x2), .val (.int x3), .val (.ref b1), .val (.int (1 : Int32)), .val (.int ad), .val (.ref b43), .val (.ref b51), .val (.ref b1), .val (.int (1 : Int32)), .val (.ref ww), .unset]) rfl k_) ?_
    refine own_by (T' := T65) (g' := (mkF m 131 #[.val (.int qa), .val (.int x0), .val (.int x1), .val (.int x2), .val (.int x3), .val (.ref b1), .val (.int (1 : Int32)), .val (.int ad), .val (.ref b43), .val (.ref b51), .val (.ref b1), .val (.int (1 : Int32)), .val (.ref ww), .unset] [(.ref ww)])) (fun t_ k_ => XS.aload X65.here hx rfl (hb hby at_129) rfl rfl k_) ?_
    obtain ⟨_, T68, L68, X68, hQ68, st68⟩ := own_callV X65 hx hZ (y := (⟨"com/example/rowgate/rowgate/StoredValue", "array", "()[B"⟩ : MethodName)) hown (hw _ (List.mem_of_getElem? (i := 19) rfl)) (hw _ (List.mem_of_getElem? (i := 20) rfl)) (hw _ (List.mem_of_getElem? (i := 22) rfl)) (hw _ (List.mem_of_getElem? (i := 21) rfl)) (hw _ (List.mem_of_getElem? (i := 4) rfl)) (hw _ (List.mem_of_getElem? (i := 23) rfl)) (by decide) (argsL := []) (rest := []) Ew (own_rm_ar l Z a0 hw [] ww b1 T65.heap n0 f66 Fw1) rfl (W := 0) (by decide) (by decide) (by decide) (by decide) (g := (mkF m 131 #[.val (.int qa), .val (.int x0), .val (.int x1), .val (.int x2), .val (.int x3), .val (.ref b1), .val (.int (1 : Int32)), .val (.int ad), .val (.ref b43), .val (.ref b51), .val (.ref b1), .val (.int (1 : Int32)), .val (.ref ww), .unset] [(.ref ww)])) rfl (by rw [hml]; rfl) (lenOf own_pd4 rfl) rfl (by show 2 * 0 + _ ≤ _; exact Nat.le_of_eq rfl) (hb hby at_131)
    obtain ⟨rfl, Nq68, e68⟩ := hQ68
    have N68 := Fr.app N65 Nq68
    refine st68 _ ?_
    show own_Goes p e below _ T68 (mkF m 134 #[.val (.int qa), .val (.int x0), .val (.int x1), .val (.int x2), .val (.int x3), .val (.ref b1), .val (.int (1 : Int32)), .val (.int ad), .val (.ref b43), .val (.ref b51), .val (.ref b1), .val (.int (1 : Int32)), .val (.ref ww), .unset] [(.ref b1)])
    refine own_by (T' := T68) (g' := (mkF m 136 #[.val (.int qa), .val (.int x0), .val (.int x1), .val (.int x2), .val (.int x3), .val (.ref b1), .val (.int (1 : Int32)), .val (.int ad), .val (.ref b43), .val (.ref b51), .val (.ref b1), .val (.int (1 : Int32)), .val (.ref ww), .val (.ref b1)] [])) (fun t_ k_ => XS.astore X68.here hx rfl (hb hby at_134) rfl rfl (l' := #[.val (.int qa), .val (.int x0), .val (.int x1), .val (.int x2), .val (.int x3), .val (.ref b1), .val (.int (1 : Int32)), .val (.int ad), .val (.ref b43), .val (.ref b51), .val (.ref b1), .val (.int (1 : Int32)), .val (.ref ww), .val (.ref b1)]) rfl k_) ?_
    refine own_by (T' := T68) (g' := (mkF m 138 #[.val (.int qa), .val (.int x0), .val (.int x1), .val (.int x2), .val (.int x3), .val (.ref b1), .val (.int (1 : Int32)), .val (.int ad), .val (.ref b43), .val (.ref b51), .val (.ref b1), .val (.int (1 : Int32)), .val (.ref ww), .val (.ref b1)] [(.int (1 : Int32))])) (fun t_ k_ => XS.iload X68.here hx rfl (hb hby at_136) rfl k_) ?_
    refine own_by (T' := T68) (g' := (mkF m 141 #[.val (.int qa), .val (.int x0), .val (.int x1), .val (.int x2), .val (.int x3), .val (.ref b1), .val (.int (1 : Int32)), .val (.int ad), .val (.ref b43), .val (.ref b51), .val (.ref b1), .val (.int (1 : Int32)), .val (.ref ww), .val (.ref b1)] [])) (fun t_ k_ => XS.ifNo X68.here hx rfl (hb hby at_138) rfl ((if0 _ _).trans (feq ((by decide) : ¬ ((1 : Int32) = (0 : Int32)))).1) k_) ?_
    refine own_by (T' := T68) (g' := (mkF m 143 #[.val (.int qa), .val (.int x0), .val (.int x1), .val (.int x2), .val (.int x3), .val (.ref b1), .val (.int (1 : Int32)), .val (.int ad), .val (.ref b43), .val (.ref b51), .val (.ref b1), .val (.int (1 : Int32)), .val (.ref ww), .val (.ref b1)] [(.ref ww)])) (fun t_ k_ => XS.aload X68.here hx rfl (hb hby at_141) rfl rfl k_) ?_
    obtain ⟨_, T69, L69, X69, hQ69, st69⟩ := own_callV X68 hx hZ (y := (⟨"com/example/rowgate/rowgate/StoredValue", "length", "()I"⟩ : MethodName)) hown (hw _ (List.mem_of_getElem? (i := 28) rfl)) (hw _ (List.mem_of_getElem? (i := 29) rfl)) (hw _ (List.mem_of_getElem? (i := 31) rfl)) (hw _ (List.mem_of_getElem? (i := 30) rfl)) (hw _ (List.mem_of_getElem? (i := 4) rfl)) (hw _ (List.mem_of_getElem? (i := 32) rfl)) (by decide) (argsL := []) (rest := []) Ew (own_rm_le l Z a0 hw [] ww (2 : Int32) T65.heap n0 f66 Fw2) e68 (W := 0) (by decide) (by decide) (by decide) (by decide) (g := (mkF m 143 #[.val (.int qa), .val (.int x0), .val (.int x1), .val (.int x2), .val (.int x3), .val (.ref b1), .val (.int (1 : Int32)), .val (.int ad), .val (.ref b43), .val (.ref b51), .val (.ref b1), .val (.int (1 : Int32)), .val (.ref ww), .val (.ref b1)] [(.ref ww)])) rfl (by rw [hml]; rfl) (lenOf own_pd6 rfl) rfl (by show 2 * 0 + _ ≤ _; exact Nat.le_of_eq rfl) (hb hby at_143)
    obtain ⟨rfl, Nq69, e69⟩ := hQ69
    have N69 := Fr.app N68 Nq69
    refine st69 _ ?_
    show own_Goes p e below _ T69 (mkF m 146 #[.val (.int qa), .val (.int x0), .val (.int x1), .val (.int x2), .val (.int x3), .val (.ref b1), .val (.int (1 : Int32)), .val (.int ad), .val (.ref b43), .val (.ref b51), .val (.ref b1), .val (.int (1 : Int32)), .val (.ref ww), .val (.ref b1)] [(.int (2 : Int32))])
    refine own_by (T' := T69) (g' := (mkF m 148 #[.val (.int qa), .val (.int x0), .val (.int x1), .val (.int x2), .val (.int x3), .val (.ref b1), .val (.int (1 : Int32)), .val (.int ad), .val (.ref b43), .val (.ref b51), .val (.ref b1), .val (.int (1 : Int32)), .val (.ref ww), .val (.ref b1)] [(.int (1 : Int32)), (.int (2 : Int32))])) (fun t_ k_ => XS.iload X69.here hx rfl (hb hby at_146) rfl k_) ?_
    refine own_by (T' := T69) (g' := (mkF m 149 #[.val (.int qa), .val (.int x0), .val (.int x1), .val (.int x2), .val (.int x3), .val (.ref b1), .val (.int (1 : Int32)), .val (.int ad), .val (.ref b43), .val (.ref b51), .val (.ref b1), .val (.int (1 : Int32)), .val (.ref ww), .val (.ref b1)] [(.int (1 : Int32)), (.int (1 : Int32)), (.int (2 : Int32))])) (fun t_ k_ => XS.iconst X69.here hx rfl (hb hby at_148) k_) ?_
    refine own_by (T' := T69) (g' := (mkF m 150 #[.val (.int qa), .val (.int x0), .val (.int x1), .val (.int x2), .val (.int x3), .val (.ref b1), .val (.int (1 : Int32)), .val (.int ad), .val (.ref b43), .val (.ref b51), .val (.ref b1), .val (.int (1 : Int32)), .val (.ref ww), .val (.ref b1)] [(.int (2 : Int32)), (.int (2 : Int32))])) (fun t_ k_ => XS.iadd X69.here hx rfl (hb hby at_149) rfl k_) ?_
    refine own_by (T' := T69) (g' := (mkF m 153 #[.val (.int qa), .val (.int x0), .val (.int x1), .val (.int x2), .val (.int x3), .val (.ref b1), .val (.int (1 : Int32)), .val (.int ad), .val (.ref b43), .val (.ref b51), .val (.ref b1), .val (.int (1 : Int32)), .val (.ref ww), .val (.ref b1)] [])) (fun t_ k_ => XS.icmpNo X69.here hx rfl (hb hby at_150) rfl (teq ((by decide) : (2 : Int32) = (2 : Int32))).2 k_) ?_
    refine own_by (T' := T69) (g' := (mkF m 154 #[.val (.int qa), .val (.int x0), .val (.int x1), .val (.int x2), .val (.int x3), .val (.ref b1), .val (.int (1 : Int32)), .val (.int ad), .val (.ref b43), .val (.ref b51), .val (.ref b1), .val (.int (1 : Int32)), .val (.ref ww), .val (.ref b1)] [(.int (1 : Int32))])) (fun t_ k_ => XS.iconst X69.here hx rfl (hb hby at_153) k_) ?_
    refine own_by (T' := T69) (g' := (mkF m 158 #[.val (.int qa), .val (.int x0), .val (.int x1), .val (.int x2), .val (.int x3), .val (.ref b1), .val (.int (1 : Int32)), .val (.int ad), .val (.ref b43), .val (.ref b51), .val (.ref b1), .val (.int (1 : Int32)), .val (.ref ww), .val (.ref b1)] [(.int (1 : Int32))])) (fun t_ k_ => XS.goto X69.here hx rfl (pc0 := 154) (pc' := 158) rfl (hb hby at_154) (by decide) (by decide) k_) ?_
    refine own_by (T' := T69) (g' := (mkF m 160 #[.val (.int qa), .val (.int x0), .val (.int x1), .val (.int x2), .val (.int x3), .val (.ref b1), .val (.int (1 : Int32)), .val (.int ad), .val (.ref b43), .val (.ref b51), .val (.ref b1), .val (.int (1 : Int32)), .val (.ref ww), .val (.ref b1)] [])) (fun t_ k_ => XS.istore X69.here hx rfl (hb hby at_158) rfl (l' := #[.val (.int qa), .val (.int x0), .val (.int x1), .val (.int x2), .val (.int x3), .val (.ref b1), .val (.int (1 : Int32)), .val (.int ad), .val (.ref b43), .val (.ref b51), .val (.ref b1), .val (.int (1 : Int32)), .val (.ref ww), .val (.ref b1)]) rfl k_) ?_
    refine own_by (T' := T69) (g' := (mkF m 162 #[.val (.int qa), .val (.int x0), .val (.int x1), .val (.int x2), .val (.int x3), .val (.ref b1), .val (.int (1 : Int32)), .val (.int ad), .val (.ref b43), .val (.ref b51), .val (.ref b1), .val (.int (1 : Int32)), .val (.ref ww), .val (.ref b1)] [(.int (1 : Int32))])) (fun t_ k_ => XS.iload X69.here hx rfl (hb hby at_160) rfl k_) ?_
    refine own_by (T' := T69) (g' := (mkF m 163 #[.val (.int qa), .val (.int x0), .val (.int x1), .val (.int x2), .val (.int x3), .val (.ref b1), .val (.int (1 : Int32)), .val (.int ad), .val (.ref b43), .val (.ref b51), .val (.ref b1), .val (.int (1 : Int32)), .val (.ref ww), .val (.ref b1)] [(.int (4 : Int32)), (.int (1 : Int32))])) (fun t_ k_ => XS.iconst X69.here hx rfl (hb hby at_162) k_) ?_
    refine own_by (T' := T69) (g' := (mkF m 166 #[.val (.int qa), .val (.int x0), .val (.int x1), .val (.int x2), .val (.int x3), .val (.ref b1), .val (.int (1 : Int32)), .val (.int ad), .val (.ref b43), .val (.ref b51), .val (.ref b1), .val (.int (1 : Int32)), .val (.ref ww), .val (.ref b1)] [])) (fun t_ k_ => XS.icmpNo X69.here hx rfl (hb hby at_163) rfl (tlt ((by decide) : (1 : Int32) < (4 : Int32))).2.1 k_) ?_
    refine own_by (T' := T69) (g' := (mkF m 168 #[.val (.int qa), .val (.int x0), .val (.int x1), .val (.int x2), .val (.int x3), .val (.ref b1), .val (.int (1 : Int32)), .val (.int ad), .val (.ref b43), .val (.ref b51), .val (.ref b1), .val (.int (1 : Int32)), .val (.ref ww), .val (.ref b1)] [(.int (1 : Int32))])) (fun t_ k_ => XS.iload X69.here hx rfl (hb hby at_166) rfl k_) ?_
    refine own_by (T' := T69) (g' := (mkF m 171 #[.val (.int qa), .val (.int x0), .val (.int x1), .val (.int x2), .val (.int x3), .val (.ref b1), .val (.int (1 : Int32)), .val (.int ad), .val (.ref b43), .val (.ref b51), .val (.ref b1), .val (.int (1 : Int32)), .val (.ref ww), .val (.ref b1)] [])) (fun t_ k_ => XS.ifNo X69.here hx rfl (hb hby at_168) rfl ((if0 _ _).trans (feq ((by decide) : ¬ ((1 : Int32) = (0 : Int32)))).1) k_) ?_
    refine own_by (T' := T69) (g' := (mkF m 173 #[.val (.int qa), .val (.int x0), .val (.int x1), .val (.int x2), .val (.int x3), .val (.ref b1), .val (.int (1 : Int32)), .val (.int ad), .val (.ref b43), .val (.ref b51), .val (.ref b1), .val (.int (1 : Int32)), .val (.ref ww), .val (.ref b1)] [(.ref b1)])) (fun t_ k_ => XS.aload X69.here hx rfl (hb hby at_171) rfl rfl k_) ?_
    refine own_by (T' := T69) (g' := (mkF m 175 #[.val (.int qa), .val (.int x0), .val (.int x1), .val (.int x2), .val (.int x3), .val (.ref b1), .val (.int (1 : Int32)), .val (.int ad), .val (.ref b43), .val (.ref b51), .val (.ref b1), .val (.int (1 : Int32)), .val (.ref ww), .val (.ref b1)] [(.ref b1), (.ref b1)])) (fun t_ k_ => XS.aload X69.here hx rfl (hb hby at_173) rfl rfl k_) ?_
    refine own_by (T' := T69) (g' := (mkF m 178 #[.val (.int qa), .val (.int x0), .val (.int x1), .val (.int x2), .val (.int x3), .val (.ref b1), .val (.int (1 : Int32)), .val (.int ad), .val (.ref b43), .val (.ref b51), .val (.ref b1), .val (.int (1 : Int32)), .val (.ref ww), .val (.ref b1)] [])) (fun t_ k_ => Jvm.RoadKit.acmp (g := (mkF m 175 #[.val (.int qa), .val (.int x0), .val (.int x1), .val (.int x2), .val (.int x3), .val (.ref b1), .val (.int (1 : Int32)), .val (.int ad), .val (.ref b43), .val (.ref b51), .val (.ref b1), .val (.int (1 : Int32)), .val (.ref ww), .val (.ref b1)] [(.ref b1), (.ref b1)])) X69 hx rfl rfl rfl (pc0 := 175) (pc' := 178) (same := true) rfl (hb hby at_175) rfl (decide_eq_true rfl) (by decide) (by decide) k_) ?_
    refine own_by (T' := T69) (g' := (mkF m 180 #[.val (.int qa), .val (.int x0), .val (.int x1), .val (.int x2), .val (.int x3), .val (.ref b1), .val (.int (1 : Int32)), .val (.int ad), .val (.ref b43), .val (.ref b51), .val (.ref b1), .val (.int (1 : Int32)), .val (.ref ww), .val (.ref b1)] [(.ref b1)])) (fun t_ k_ => XS.aload X69.here hx rfl (hb hby at_178) rfl rfl k_) ?_
    refine own_by (T' := T69) (g' := (mkF m 181 #[.val (.int qa), .val (.int x0), .val (.int x1), .val (.int x2), .val (.int x3), .val (.ref b1), .val (.int (1 : Int32)), .val (.int ad), .val (.ref b43), .val (.ref b51), .val (.ref b1), .val (.int (1 : Int32)), .val (.ref ww), .val (.ref b1)] [(.int (4 : Int32))])) (fun t_ k_ => own_alen X69 hx hZ e69 Vw (z := (4 : Int32)) rfl (g := (mkF m 180 #[.val (.int qa), .val (.int x0), .val (.int x1), .val (.int x2), .val (.int x3), .val (.ref b1), .val (.int (1 : Int32)), .val (.int ad), .val (.ref b43), .val (.ref b51), .val (.ref b1), .val (.int (1 : Int32)), .val (.ref ww), .val (.ref b1)] [(.ref b1)])) rfl rfl (hb hby at_180) _ k_) ?_
    refine own_by (T' := T69) (g' := (mkF m 182 #[.val (.int qa), .val (.int x0), .val (.int x1), .val (.int x2), .val (.int x3), .val (.ref b1), .val (.int (1 : Int32)), .val (.int ad), .val (.ref b43), .val (.ref b51), .val (.ref b1), .val (.int (1 : Int32)), .val (.ref ww), .val (.ref b1)] [(.int (4 : Int32)), (.int (4 : Int32))])) (fun t_ k_ => XS.iconst X69.here hx rfl (hb hby at_181) k_) ?_
    refine own_by (T' := T69) (g' := (mkF m 185 #[.val (.int qa), .val (.int x0), .val (.int x1), .val (.int x2), .val (.int x3), .val (.ref b1), .val (.int (1 : Int32)), .val (.int ad), .val (.ref b43), .val (.ref b51), .val (.ref b1), .val (.int (1 : Int32)), .val (.ref ww), .val (.ref b1)] [])) (fun t_ k_ => XS.icmpNo X69.here hx rfl (hb hby at_182) rfl (teq ((by decide) : (4 : Int32) = (4 : Int32))).2 k_) ?_
    refine own_by (T' := T69) (g' := (mkF m 187 #[.val (.int qa), .val (.int x0), .val (.int x1), .val (.int x2), .val (.int x3), .val (.ref b1), .val (.int (1 : Int32)), .val (.int ad), .val (.ref b43), .val (.ref b51), .val (.ref b1), .val (.int (1 : Int32)), .val (.ref ww), .val (.ref b1)] [(.ref b1)])) (fun t_ k_ => XS.aload X69.here hx rfl (hb hby at_185) rfl rfl k_) ?_
    refine own_by (T' := T69) (g' := (mkF m 189 #[.val (.int qa), .val (.int x0), .val (.int x1), .val (.int x2), .val (.int x3), .val (.ref b1), .val (.int (1 : Int32)), .val (.int ad), .val (.ref b43), .val (.ref b51), .val (.ref b1), .val (.int (1 : Int32)), .val (.ref ww), .val (.ref b1)] [(.int (1 : Int32)), (.ref b1)])) (fun t_ k_ => XS.iload X69.here hx rfl (hb hby at_187) rfl k_) ?_
    refine own_by (T' := T69) (g' := (mkF m 191 #[.val (.int qa), .val (.int x0), .val (.int x1), .val (.int x2), .val (.int x3), .val (.ref b1), .val (.int (1 : Int32)), .val (.int ad), .val (.ref b43), .val (.ref b51), .val (.ref b1), .val (.int (1 : Int32)), .val (.ref ww), .val (.ref b1)] [(.int ad), (.int (1 : Int32)), (.ref b1)])) (fun t_ k_ => XS.iload X69.here hx rfl (hb hby at_189) rfl k_) ?_
    refine own_by (T' := T69) (g' := (mkF m 192 #[.val (.int qa), .val (.int x0), .val (.int x1), .val (.int x2), .val (.int x3), .val (.ref b1), .val (.int (1 : Int32)), .val (.int ad), .val (.ref b43), .val (.ref b51), .val (.ref b1), .val (.int (1 : Int32)), .val (.ref ww), .val (.ref b1)] [(.int x0), (.int ad), (.int (1 : Int32)), (.ref b1)])) (fun t_ k_ => XS.iloadN X69.here hx rfl (hb hby at_191) rfl k_) ?_
    refine own_by (T' := T69) (g' := (mkF m 193 #[.val (.int qa), .val (.int x0), .val (.int x1), .val (.int x2), .val (.int x3), .val (.ref b1), .val (.int (1 : Int32)), .val (.int ad), .val (.ref b43), .val (.ref b51), .val (.ref b1), .val (.int (1 : Int32)), .val (.ref ww), .val (.ref b1)] [(.int x1), (.int x0), (.int ad), (.int (1 : Int32)), (.ref b1)])) (fun t_ k_ => XS.iloadN X69.here hx rfl (hb hby at_192) rfl k_) ?_
    refine own_by (T' := T69) (g' := (mkF m 194 #[.val (.int qa), .val (.int x0), .val (.int x1), .val (.int x2), .val (.int x3), .val (.ref b1), .val (.int (1 : Int32)), .val (.int ad), .val (.ref b43), .val (.ref b51), .val (.ref b1), .val (.int (1 : Int32)), .val (.ref ww), .val (.ref b1)] [(.int x2), (.int x1), (.int x0), (.int ad), (.int (1 : Int32)), (.ref b1)])) (fun t_ k_ => XS.iloadN X69.here hx rfl (hb hby at_193) rfl k_) ?_
    refine own_by (T' := T69) (g' := (mkF m 196 #[.val (.int qa), .val (.int x0), .val (.int x1), .val (.int x2), .val (.int x3), .val (.ref b1), .val (.int (1 : Int32)), .val (.int ad), .val (.ref b43), .val (.ref b51), .val (.ref b1), .val (.int (1 : Int32)), .val (.ref ww), .val (.ref b1)] [(.int x3), (.int x2), (.int x1), (.int x0), (.int ad), (.int (1 : Int32)), (.ref b1)])) (fun t_ k_ => XS.iload X69.here hx rfl (hb hby at_194) rfl k_) ?_
    obtain ⟨_, T70, L70, X70, hQ70, st70⟩ := own_callS X69 hx hZ (y := (⟨"com/example/rowgate/rowgate/StoredValueArrayPinLaw", "afterAppend", "([BIBIIII)Z"⟩ : MethodName)) hown (hw _ (List.mem_of_getElem? (i := 44) rfl)) (hw _ (List.mem_of_getElem? (i := 45) rfl)) (hw _ (List.mem_of_getElem? (i := 26) rfl)) (hw _ (List.mem_of_getElem? (i := 46) rfl)) (by decide) (argsL := [(.ref b1), (.int (1 : Int32)), (.int ad), (.int x0), (.int x1), (.int x2), (.int x3)]) (rest := []) (own_rm_ap1 l Z a0 hw [] b1 ad x0 x1 x2 x3 (fun i => if 1 ≤ i ∧ i < 2 then (fun i => if i = 0 then (nar .byte ad) else (fun _ => (0 : Int32)) i) (0 + (i - 1)) else own_b4 x0 x1 x2 x3 i) T65.heap n0 f66 Vw rfl hnb rfl rfl) e69 (W := 0) (by decide) (by decide) (by decide) (by decide) (g := (mkF m 196 #[.val (.int qa), .val (.int x0), .val (.int x1), .val (.int x2), .val (.int x3), .val (.ref b1), .val (.int (1 : Int32)), .val (.int ad), .val (.ref b43), .val (.ref b51), .val (.ref b1), .val (.int (1 : Int32)), .val (.ref ww), .val (.ref b1)] [(.int x3), (.int x2), (.int x1), (.int x0), (.int ad), (.int (1 : Int32)), (.ref b1)])) rfl (by rw [hml]; rfl) (lenOf own_pd8 rfl) rfl (by show 2 * 0 + _ ≤ _; exact Nat.le_of_eq rfl) (hb hby at_196)
    obtain ⟨rfl, Nq70, e70⟩ := hQ70
    have N70 := Fr.app N69 Nq70
    refine st70 _ ?_
    show own_Goes p e below _ T70 (mkF m 199 #[.val (.int qa), .val (.int x0), .val (.int x1), .val (.int x2), .val (.int x3), .val (.ref b1), .val (.int (1 : Int32)), .val (.int ad), .val (.ref b43), .val (.ref b51), .val (.ref b1), .val (.int (1 : Int32)), .val (.ref ww), .val (.ref b1)] [(.int (1 : Int32))])
    refine own_by (T' := T70) (g' := (mkF m 202 #[.val (.int qa), .val (.int x0), .val (.int x1), .val (.int x2), .val (.int x3), .val (.ref b1), .val (.int (1 : Int32)), .val (.int ad), .val (.ref b43), .val (.ref b51), .val (.ref b1), .val (.int (1 : Int32)), .val (.ref ww), .val (.ref b1)] [])) (fun t_ k_ => XS.ifNo X70.here hx rfl (hb hby at_199) rfl ((if0 _ _).trans (feq ((by decide) : ¬ ((1 : Int32) = (0 : Int32)))).1) k_) ?_
    refine own_by (T' := T70) (g' := (mkF m 203 #[.val (.int qa), .val (.int x0), .val (.int x1), .val (.int x2), .val (.int x3), .val (.ref b1), .val (.int (1 : Int32)), .val (.int ad), .val (.ref b43), .val (.ref b51), .val (.ref b1), .val (.int (1 : Int32)), .val (.ref ww), .val (.ref b1)] [(.int (1 : Int32))])) (fun t_ k_ => XS.iconst X70.here hx rfl (hb hby at_202) k_) ?_
    refine own_by (T' := T70) (g' := (mkF m 207 #[.val (.int qa), .val (.int x0), .val (.int x1), .val (.int x2), .val (.int x3), .val (.ref b1), .val (.int (1 : Int32)), .val (.int ad), .val (.ref b43), .val (.ref b51), .val (.ref b1), .val (.int (1 : Int32)), .val (.ref ww), .val (.ref b1)] [(.int (1 : Int32))])) (fun t_ k_ => XS.goto X70.here hx rfl (pc0 := 203) (pc' := 207) rfl (hb hby at_203) (by decide) (by decide) k_) ?_
    refine own_by (T' := T70) (g' := (mkF m 209 #[.val (.int qa), .val (.int x0), .val (.int x1), .val (.int x2), .val (.int x3), .val (.ref b1), .val (.int (1 : Int32)), .val (.int ad), .val (.ref b43), .val (.ref b51), .val (.ref b1), .val (.int (1 : Int32)), .val (.ref ww), .val (.ref b1)] [])) (fun t_ k_ => XS.istore X70.here hx rfl (hb hby at_207) rfl (l' := #[.val (.int qa), .val (.int x0), .val (.int x1), .val (.int x2), .val (.int x3), .val (.ref b1), .val (.int (1 : Int32)), .val (.int ad), .val (.ref b43), .val (.ref b51), .val (.ref b1), .val (.int (1 : Int32)), .val (.ref ww), .val (.ref b1)]) rfl k_) ?_
    refine own_by (T' := T70) (g' := (mkF m 274 #[.val (.int qa), .val (.int x0), .val (.int x1), .val (.int x2), .val (.int x3), .val (.ref b1), .val (.int (1 : Int32)), .val (.int ad), .val (.ref b43), .val (.ref b51), .val (.ref b1), .val (.int (1 : Int32)), .val (.ref ww), .val (.ref b1)] [])) (fun t_ k_ => XS.goto X70.here hx rfl (pc0 := 209) (pc' := 274) rfl (hb hby at_209) (by decide) (by decide) k_) ?_
    refine own_by (T' := T70) (g' := (mkF m 276 #[.val (.int qa), .val (.int x0), .val (.int x1), .val (.int x2), .val (.int x3), .val (.ref b1), .val (.int (1 : Int32)), .val (.int ad), .val (.ref b43), .val (.ref b51), .val (.ref b1), .val (.int (1 : Int32)), .val (.ref ww), .val (.ref b1)] [(.int (1 : Int32))])) (fun t_ k_ => XS.iload X70.here hx rfl (hb hby at_274) rfl k_) ?_
    refine own_retN X70 hx (t := .boolean) Bd.returns hlk (by simp) (hb hby at_276) (by decide) (by decide) (v := (1 : Int32)) rfl ?_
    rw [e70]
    exact ⟨rfl, N70⟩
  · skip
    rw [hk]
    refine own_by (T' := T12) (g' := (mkF m 39 #[.val (.int qa), .val (.int x0), .val (.int x1), .val (.int x2), .val (.int x3), .val (.ref b1), .val (.int (2 : Int32)), .unset, .unset, .unset, .unset, .unset, .unset, .unset] [(.int qa)])) (fun t_ k_ => XS.iloadN X12.here hx rfl (hb hby at_38) rfl k_) ?_
    refine own_by (T' := T12) (g' := (mkF m 41 #[.val (.int qa), .val (.int x0), .val (.int x1), .val (.int x2), .val (.int x3), .val (.ref b1), .val (.int (2 : Int32)), .unset, .unset, .unset, .unset, .unset, .unset, .unset] [(.int (8 : Int32)), (.int qa)])) (fun t_ k_ => XS.bipush X12.here hx rfl (hb hby at_39) k_) ?_
    refine own_by (T' := T12) (g' := (mkF m 42 #[.val (.int qa), .val (.int x0), .val (.int x1), .val (.int x2), .val (.int x3), .val (.ref b1), .val (.int (2 : Int32)), .unset, .unset, .unset, .unset, .unset, .unset, .unset] [(.int (qa >>> ((8 : Int32) &&& 31)))])) (fun t_ k_ => XS.ishr X12.here hx rfl (hb hby at_41) rfl k_) ?_
    refine own_by (T' := T12) (g' := (mkF m 43 #[.val (.int qa), .val (.int x0), .val (.int x1), .val (.int x2), .val (.int x3), .val (.ref b1), .val (.int (2 : Int32)), .unset, .unset, .unset, .unset, .unset, .unset, .unset] [(.int (qa >>> ((8 : Int32) &&& 31)).toInt8.toInt32)])) (fun t_ k_ => XS.i2b X12.here hx rfl (hb hby at_42) rfl k_) ?_
    refine own_by (T' := T12) (g' := (mkF m 45 #[.val (.int qa), .val (.int x0), .val (.int x1), .val (.int x2), .val (.int x3), .val (.ref b1), .val (.int (2 : Int32)), .val (.int (qa >>> ((8 : Int32) &&& 31)).toInt8.toInt32), .unset, .unset, .unset, .unset, .unset, .unset] [])) (fun t_ k_ => XS.istore X12.here hx rfl (hb hby at_43) rfl (l' := #[.val (.int qa), .val (.int x0), .val (.int x1), .val (.int x2), .val (.int x3), .val (.ref b1), .val (.int (2 : Int32)), .val (.int (qa >>> ((8 : Int32) &&& 31)).toInt8.toInt32), .unset, .unset, .unset, .unset, .unset, .unset]) rfl k_) ?_
    obtain ⟨ad, had⟩ : ∃ z, z = (qa >>> ((8 : Int32) &&& 31)).toInt8.toInt32 := ⟨_, rfl⟩
    have hnb : nar .byte ad = ad := by rw [had]; exact own_nb _
    rw [← had]
    refine own_by (T' := T12) (g' := (mkF m 46 #[.val (.int qa), .val (.int x0), .val (.int x1), .val (.int x2), .val (.int x3), .val (.ref b1), .val (.int (2 : Int32)), .val (.int ad), .unset, .unset, .unset, .unset, .unset, .unset] [(.int (1 : Int32))])) (fun t_ k_ => XS.iconst X12.here hx rfl (hb hby at_45) k_) ?_
    obtain ⟨T71, h71, k71, X71, e71, E71, A71, st71⟩ := newP X12 hx hZ (hw _ (List.mem_of_getElem? (i := 0) rfl)) e12 (g := (mkF m 46 #[.val (.int qa), .val (.int x0), .val (.int x1), .val (.int x2), .val (.int x3), .val (.ref b1), .val (.int (2 : Int32)), .val (.int ad), .unset, .unset, .unset, .unset, .unset, .unset] [(.int (1 : Int32))])) rfl (hb hby at_46) rfl (by decide) (cap := 1) (by decide) (by decide) (by decide) (by decide)
    obtain ⟨b71, g71⟩ : ∃ z, z = h12.size := ⟨_, rfl⟩
    rw [← g71] at A71 st71
    have g_b71 : n0 ≤ b71 := Nat.le_trans f13 (Nat.le_of_eq g71.symm)
    have ne72 : b1 ≠ b71 := Nat.ne_of_lt (Nat.lt_of_lt_of_le (own_Ia_lt Vn) (Nat.le_of_eq g71.symm))
    have f73 := Nat.le_trans f13 E71.1
    have f74 := own_Ia_ext E71 Vn
    have V71 : own_Ia Z h71 b71 .byte 1 (fun _ => (0 : Int32)) := own_Ia_new A71 rfl rfl rfl
    refine own_by (T' := T71) (g' := (mkF m 48 #[.val (.int qa), .val (.int x0), .val (.int x1), .val (.int x2), .val (.int x3), .val (.ref b1), .val (.int (2 : Int32)), .val (.int ad), .unset, .unset, .unset, .unset, .unset, .unset] [(.ref b71)])) st71 ?_
    refine own_by (T' := T71) (g' := (mkF m 50 #[.val (.int qa), .val (.int x0), .val (.int x1), .val (.int x2), .val (.int x3), .val (.ref b1), .val (.int (2 : Int32)), .val (.int ad), .val (.ref b71), .unset, .unset, .unset, .unset, .unset] [])) (fun t_ k_ => XS.astore X71.here hx rfl (hb hby at_48) rfl rfl (l' := #[.val (.int qa), .val (.int x0), .val (.int x1), .val (.int x2), .val (.int x3), .val (.ref b1), .val (.int (2 : Int32)), .val (.int ad), .val (.ref b71), .unset, .unset, .unset, .unset, .unset]) rfl k_) ?_
    refine own_by (T' := T71) (g' := (mkF m 52 #[.val (.int qa), .val (.int x0), .val (.int x1), .val (.int x2), .val (.int x3), .val (.ref b1), .val (.int (2 : Int32)), .val (.int ad), .val (.ref b71), .unset, .unset, .unset, .unset, .unset] [(.ref b71)])) (fun t_ k_ => XS.aload X71.here hx rfl (hb hby at_50) rfl rfl k_) ?_
    refine own_by (T' := T71) (g' := (mkF m 53 #[.val (.int qa), .val (.int x0), .val (.int x1), .val (.int x2), .val (.int x3), .val (.ref b1), .val (.int (2 : Int32)), .val (.int ad), .val (.ref b71), .unset, .unset, .unset, .unset, .unset] [(.int (0 : Int32)), (.ref b71)])) (fun t_ k_ => XS.iconst X71.here hx rfl (hb hby at_52) k_) ?_
    refine own_by (T' := T71) (g' := (mkF m 55 #[.val (.int qa), .val (.int x0), .val (.int x1), .val (.int x2), .val (.int x3), .val (.ref b1), .val (.int (2 : Int32)), .val (.int ad), .val (.ref b71), .unset, .unset, .unset, .unset, .unset] [(.int ad), (.int (0 : Int32)), (.ref b71)])) (fun t_ k_ => XS.iload X71.here hx rfl (hb hby at_53) rfl k_) ?_
    obtain ⟨T75, h75, X75, e75, W75, st75⟩ := own_bas X71 hx hZ e71 V71 (j := (0 : Int32)) (by decide) (by decide) (g := (mkF m 55 #[.val (.int qa), .val (.int x0), .val (.int x1), .val (.int x2), .val (.int x3), .val (.ref b1), .val (.int (2 : Int32)), .val (.int ad), .val (.ref b71), .unset, .unset, .unset, .unset, .unset] [(.int ad), (.int (0 : Int32)), (.ref b71)])) rfl rfl (hb hby at_55)
    refine own_by (T' := T75) (g' := (mkF m 56 #[.val (.int qa), .val (.int x0), .val (.int x1), .val (.int x2), .val (.int x3), .val (.ref b1), .val (.int (2 : Int32)), .val (.int ad), .val (.ref b71), .unset, .unset, .unset, .unset, .unset] [])) st75 ?_
    have N75 := Fr.snoc X75 N12 g_b71
    have f76 := Nat.le_trans f73 (Keep.of_wr W75).1
    have f77 := own_Ia_other W75 f74 ne72
    have V78 : own_Ia Z h75 b71 .byte 1 (fun i => if i = 0 then (nar .byte ad) else (fun _ => (0 : Int32)) i) := own_Ia_set W75 V71 (fits_nar_byte _)
    obtain ⟨T79, h79, X79, e79, E79, A79, D79, -, st79⟩ := newO X75 hx hZ hown (hw _ (List.mem_of_getElem? (i := 2) rfl)) (hw _ (List.mem_of_getElem? (i := 3) rfl)) (hw _ (List.mem_of_getElem? (i := 4) rfl)) e75 (g := (mkF m 56 #[.val (.int qa), .val (.int x0), .val (.int x1), .val (.int x2), .val (.int x3), .val (.ref b1), .val (.int (2 : Int32)), .val (.int ad), .val (.ref b71), .unset, .unset, .unset, .unset, .unset] [])) rfl (hb hby at_56) (by decide) (by decide)
    obtain ⟨b79, g79⟩ : ∃ z, z = h75.size := ⟨_, rfl⟩
    rw [← g79] at A79 D79 st79
    have g_b79 : n0 ≤ b79 := Nat.le_trans f76 (Nat.le_of_eq g79.symm)
    have ne80 : b1 ≠ b79 := Nat.ne_of_lt (Nat.lt_of_lt_of_le (own_Ia_lt f77) (Nat.le_of_eq g79.symm))
    have ne81 : b71 ≠ b79 := Nat.ne_of_lt (Nat.lt_of_lt_of_le (own_Ia_lt V78) (Nat.le_of_eq g79.symm))
    have f82 := Nat.le_trans f76 E79.1
    have f83 := own_Ia_ext E79 f77
    have f84 := own_Ia_ext E79 V78
    have F79_bytes : Fld Z h79 b79 "com/example/rowgate/rowgate/StoredValue" "bytes" "[B" .null := D79 (Or.inr (hw _ (List.mem_of_getElem? (i := 12) rfl))) (ty := (.array .byte)) (by decide)
    have F79_file : Fld Z h79 b79 "com/example/rowgate/rowgate/StoredValue" "file" "Lcom/example/rowgate/rowgate/StoredValue$FileBytes;" .null := D79 (Or.inr (hw _ (List.mem_of_getElem? (i := 14) rfl))) (ty := (.object "com/example/rowgate/rowgate/StoredValue$FileBytes")) (by decide)
    have F79_offset : Fld Z h79 b79 "com/example/rowgate/rowgate/StoredValue" "offset" "J" (.long (0 : Int64)) := D79 (Or.inr (hw _ (List.mem_of_getElem? (i := 16) rfl))) (ty := .long) (by decide)
    have F79_length : Fld Z h79 b79 "com/example/rowgate/rowgate/StoredValue" "length" "I" (.int (0 : Int32)) := D79 (Or.inr (hw _ (List.mem_of_getElem? (i := 18) rfl))) (ty := .int) (by decide)
    refine own_by (T' := T79) (g' := (mkF m 59 #[.val (.int qa), .val (.int x0), .val (.int x1), .val (.int x2), .val (.int x3), .val (.ref b1), .val (.int (2 : Int32)), .val (.int ad), .val (.ref b71), .unset, .unset, .unset, .unset, .unset] [(.ref b79)])) st79 ?_
    refine own_by (T' := T79) (g' := (mkF m 60 #[.val (.int qa), .val (.int x0), .val (.int x1), .val (.int x2), .val (.int x3), .val (.ref b1), .val (.int (2 : Int32)), .val (.int ad), .val (.ref b71), .unset, .unset, .unset, .unset, .unset] [(.ref b79), (.ref b79)])) (fun t_ k_ => XS.dup X79.here hx rfl (hb hby at_59) rfl rfl k_) ?_
    refine own_by (T' := T79) (g' := (mkF m 62 #[.val (.int qa), .val (.int x0), .val (.int x1), .val (.int x2), .val (.int x3), .val (.ref b1), .val (.int (2 : Int32)), .val (.int ad), .val (.ref b71), .unset, .unset, .unset, .unset, .unset] [(.ref b1), (.ref b79), (.ref b79)])) (fun t_ k_ => XS.aload X79.here hx rfl (hb hby at_60) rfl rfl k_) ?_
    refine own_by (T' := T79) (g' := (mkF m 64 #[.val (.int qa), .val (.int x0), .val (.int x1), .val (.int x2), .val (.int x3), .val (.ref b1), .val (.int (2 : Int32)), .val (.int ad), .val (.ref b71), .unset, .unset, .unset, .unset, .unset] [(.int (2 : Int32)), (.ref b1), (.ref b79), (.ref b79)])) (fun t_ k_ => XS.iload X79.here hx rfl (hb hby at_62) rfl k_) ?_
    obtain ⟨_, T85, L85, X85, hQ85, st85⟩ := own_callI X79 hx hZ (y := (⟨"com/example/rowgate/rowgate/StoredValue", "<init>", "([BI)V"⟩ : MethodName)) rfl hown (hw _ (List.mem_of_getElem? (i := 5) rfl)) (hw _ (List.mem_of_getElem? (i := 6) rfl)) (hw _ (List.mem_of_getElem? (i := 4) rfl)) (hw _ (List.mem_of_getElem? (i := 7) rfl)) (by decide) (argsL := [(.ref b1), (.int (2 : Int32))]) (rest := [(.ref b79)]) (own_rm_svI l Z a0 hw [] b79 b1 (2 : Int32) h79 n0 f82 A79 g_b79 F79_bytes F79_file F79_offset F79_length) e79 (W := 1) (by decide) (by decide) (by decide) (by decide) (g := (mkF m 64 #[.val (.int qa), .val (.int x0), .val (.int x1), .val (.int x2), .val (.int x3), .val (.ref b1), .val (.int (2 : Int32)), .val (.int ad), .val (.ref b71), .unset, .unset, .unset, .unset, .unset] [(.int (2 : Int32)), (.ref b1), (.ref b79), (.ref b79)])) rfl (by rw [hml]; rfl) (lenOf own_pd1 rfl) rfl (by show 2 * 0 + _ ≤ _; exact Nat.le_of_eq rfl) (hb hby at_64)
    obtain ⟨rfl, Nq85, Kq85, Eq85, Fq85_bytes, Fq85_file, Fq85_offset, Fq85_length⟩ := hQ85
    have N85 := Fr.app N75 Nq85
    have f86 := Nat.le_trans f82 Kq85.1
    have f87 := own_Ia_keep Kq85 f83 (ninS ne80 nin0)
    have f88 := own_Ia_keep Kq85 f84 (ninS ne81 nin0)
    have f89 := Exa.keep A79 Kq85
    refine st85 _ ?_
    show own_Goes p e below _ T85 (mkF m 67 #[.val (.int qa), .val (.int x0), .val (.int x1), .val (.int x2), .val (.int x3), .val (.ref b1), .val (.int (2 : Int32)), .val (.int ad), .val (.ref b71), .unset, .unset, .unset, .unset, .unset] [(.ref b79)])
    refine own_by (T' := T85) (g' := (mkF m 69 #[.val (.int qa), .val (.int x0), .val (.int x1), .val (.int x2), .val (.int x3), .val (.ref b1), .val (.int (2 : Int32)), .val (.int ad), .val (.ref b71), .val (.ref b79), .unset, .unset, .unset, .unset] [])) (fun t_ k_ => XS.astore X85.here hx rfl (hb hby at_67) rfl rfl (l' := #[.val (.int qa), .val (.int x0), .val (.int x1), .val (.int x2), .val (.int x3), .val (.ref b1), .val (.int (2 : Int32)), .val (.int ad), .val (.ref b71), .val (.ref b79), .unset, .unset, .unset, .unset]) rfl k_) ?_
    refine own_by (T' := T85) (g' := (mkF m 71 #[.val (.int qa), .val (.int x0), .val (.int x1), .val (.int x2), .val (.int x3), .val (.ref b1), .val (.int (2 : Int32)), .val (.int ad), .val (.ref b71), .val (.ref b79), .unset, .unset, .unset, .unset] [(.ref b79)])) (fun t_ k_ => XS.aload X85.here hx rfl (hb hby at_69) rfl rfl k_) ?_
    obtain ⟨_, T90, L90, X90, hQ90, st90⟩ := own_callV X85 hx hZ (y := (⟨"com/example/rowgate/rowgate/StoredValue", "array", "()[B"⟩ : MethodName)) hown (hw _ (List.mem_of_getElem? (i := 19) rfl)) (hw _ (List.mem_of_getElem? (i := 20) rfl)) (hw _ (List.mem_of_getElem? (i := 22) rfl)) (hw _ (List.mem_of_getElem? (i := 21) rfl)) (hw _ (List.mem_of_getElem? (i := 4) rfl)) (hw _ (List.mem_of_getElem? (i := 23) rfl)) (by decide) (argsL := []) (rest := []) f89 (own_rm_ar l Z a0 hw [] b79 b1 T85.heap n0 f86 Fq85_bytes) rfl (W := 0) (by decide) (by decide) (by decide) (by decide) (g := (mkF m 71 #[.val (.int qa), .val (.int x0), .val (.int x1), .val (.int x2), .val (.int x3), .val (.ref b1), .val (.int (2 : Int32)), .val (.int ad), .val (.ref b71), .val (.ref b79), .unset, .unset, .unset, .unset] [(.ref b79)])) rfl (by rw [hml]; rfl) (lenOf own_pd4 rfl) rfl (by show 2 * 0 + _ ≤ _; exact Nat.le_of_eq rfl) (hb hby at_71)
    obtain ⟨rfl, Nq90, e90⟩ := hQ90
    have N90 := Fr.app N85 Nq90
    refine st90 _ ?_
    show own_Goes p e below _ T90 (mkF m 74 #[.val (.int qa), .val (.int x0), .val (.int x1), .val (.int x2), .val (.int x3), .val (.ref b1), .val (.int (2 : Int32)), .val (.int ad), .val (.ref b71), .val (.ref b79), .unset, .unset, .unset, .unset] [(.ref b1)])
    refine own_by (T' := T90) (g' := (mkF m 76 #[.val (.int qa), .val (.int x0), .val (.int x1), .val (.int x2), .val (.int x3), .val (.ref b1), .val (.int (2 : Int32)), .val (.int ad), .val (.ref b71), .val (.ref b79), .val (.ref b1), .unset, .unset, .unset] [])) (fun t_ k_ => XS.astore X90.here hx rfl (hb hby at_74) rfl rfl (l' := #[.val (.int qa), .val (.int x0), .val (.int x1), .val (.int x2), .val (.int x3), .val (.ref b1), .val (.int (2 : Int32)), .val (.int ad), .val (.ref b71), .val (.ref b79), .val (.ref b1), .unset, .unset, .unset]) rfl k_) ?_
    refine own_by (T' := T90) (g' := (mkF m 78 #[.val (.int qa), .val (.int x0), .val (.int x1), .val (.int x2), .val (.int x3), .val (.ref b1), .val (.int (2 : Int32)), .val (.int ad), .val (.ref b71), .val (.ref b79), .val (.ref b1), .unset, .unset, .unset] [(.ref b1)])) (fun t_ k_ => XS.aload X90.here hx rfl (hb hby at_76) rfl rfl k_) ?_
    refine own_by (T' := T90) (g' := (mkF m 80 #[.val (.int qa), .val (.int x0), .val (.int x1), .val (.int x2), .val (.int x3), .val (.ref b1), .val (.int (2 : Int32)), .val (.int ad), .val (.ref b71), .val (.ref b79), .val (.ref b1), .unset, .unset, .unset] [(.ref b1), (.ref b1)])) (fun t_ k_ => XS.aload X90.here hx rfl (hb hby at_78) rfl rfl k_) ?_
    refine own_by (T' := T90) (g' := (mkF m 83 #[.val (.int qa), .val (.int x0), .val (.int x1), .val (.int x2), .val (.int x3), .val (.ref b1), .val (.int (2 : Int32)), .val (.int ad), .val (.ref b71), .val (.ref b79), .val (.ref b1), .unset, .unset, .unset] [])) (fun t_ k_ => Jvm.RoadKit.acmp (g := (mkF m 80 #[.val (.int qa), .val (.int x0), .val (.int x1), .val (.int x2), .val (.int x3), .val (.ref b1), .val (.int (2 : Int32)), .val (.int ad), .val (.ref b71), .val (.ref b79), .val (.ref b1), .unset, .unset, .unset] [(.ref b1), (.ref b1)])) X90 hx rfl rfl rfl (pc0 := 80) (pc' := 83) (same := true) rfl (hb hby at_80) rfl (decide_eq_true rfl) (by decide) (by decide) k_) ?_
    refine own_by (T' := T90) (g' := (mkF m 85 #[.val (.int qa), .val (.int x0), .val (.int x1), .val (.int x2), .val (.int x3), .val (.ref b1), .val (.int (2 : Int32)), .val (.int ad), .val (.ref b71), .val (.ref b79), .val (.ref b1), .unset, .unset, .unset] [(.ref b1)])) (fun t_ k_ => XS.aload X90.here hx rfl (hb hby at_83) rfl rfl k_) ?_
    refine own_by (T' := T90) (g' := (mkF m 86 #[.val (.int qa), .val (.int x0), .val (.int x1), .val (.int x2), .val (.int x3), .val (.ref b1), .val (.int (2 : Int32)), .val (.int ad), .val (.ref b71), .val (.ref b79), .val (.ref b1), .unset, .unset, .unset] [(.int (4 : Int32))])) (fun t_ k_ => own_alen X90 hx hZ e90 f87 (z := (4 : Int32)) rfl (g := (mkF m 85 #[.val (.int qa), .val (.int x0), .val (.int x1), .val (.int x2), .val (.int x3), .val (.ref b1), .val (.int (2 : Int32)), .val (.int ad), .val (.ref b71), .val (.ref b79), .val (.ref b1), .unset, .unset, .unset] [(.ref b1)])) rfl rfl (hb hby at_85) _ k_) ?_
    refine own_by (T' := T90) (g' := (mkF m 87 #[.val (.int qa), .val (.int x0), .val (.int x1), .val (.int x2), .val (.int x3), .val (.ref b1), .val (.int (2 : Int32)), .val (.int ad), .val (.ref b71), .val (.ref b79), .val (.ref b1), .unset, .unset, .unset] [(.int (4 : Int32)), (.int (4 : Int32))])) (fun t_ k_ => XS.iconst X90.here hx rfl (hb hby at_86) k_) ?_
    refine own_by (T' := T90) (g' := (mkF m 90 #[.val (.int qa), .val (.int x0), .val (.int x1), .val (.int x2), .val (.int x3), .val (.ref b1), .val (.int (2 : Int32)), .val (.int ad), .val (.ref b71), .val (.ref b79), .val (.ref b1), .unset, .unset, .unset] [])) (fun t_ k_ => XS.icmpNo X90.here hx rfl (hb hby at_87) rfl (teq ((by decide) : (4 : Int32) = (4 : Int32))).2 k_) ?_
    refine own_by (T' := T90) (g' := (mkF m 92 #[.val (.int qa), .val (.int x0), .val (.int x1), .val (.int x2), .val (.int x3), .val (.ref b1), .val (.int (2 : Int32)), .val (.int ad), .val (.ref b71), .val (.ref b79), .val (.ref b1), .unset, .unset, .unset] [(.ref b1)])) (fun t_ k_ => XS.aload X90.here hx rfl (hb hby at_90) rfl rfl k_) ?_
    refine own_by (T' := T90) (g' := (mkF m 93 #[.val (.int qa), .val (.int x0), .val (.int x1), .val (.int x2), .val (.int x3), .val (.ref b1), .val (.int (2 : Int32)), .val (.int ad), .val (.ref b71), .val (.ref b79), .val (.ref b1), .unset, .unset, .unset] [(.int x0), (.ref b1)])) (fun t_ k_ => XS.iloadN X90.here hx rfl (hb hby at_92) rfl k_) ?_
    refine own_by (T' := T90) (g' := (mkF m 94 #[.val (.int qa), .val (.int x0), .val (.int x1), .val (.int x2), .val (.int x3), .val (.ref b1), .val (.int (2 : Int32)), .val (.int ad), .val (.ref b71), .val (.ref b79), .val (.ref b1), .unset, .unset, .unset] [(.int x1), (.int x0), (.ref b1)])) (fun t_ k_ => XS.iloadN X90.here hx rfl (hb hby at_93) rfl k_) ?_
    refine own_by (T' := T90) (g' := (mkF m 95 #[.val (.int qa), .val (.int x0), .val (.int x1), .val (.int x2), .val (.int x3), .val (.ref b1), .val (.int (2 : Int32)), .val (.int ad), .val (.ref b71), .val (.ref b79), .val (.ref b1), .unset, .unset, .unset] [(.int x2), (.int x1), (.int x0), (.ref b1)])) (fun t_ k_ => XS.iloadN X90.here hx rfl (hb hby at_94) rfl k_) ?_
    refine own_by (T' := T90) (g' := (mkF m 97 #[.val (.int qa), .val (.int x0), .val (.int x1), .val (.int x2), .val (.int x3), .val (.ref b1), .val (.int (2 : Int32)), .val (.int ad), .val (.ref b71), .val (.ref b79), .val (.ref b1), .unset, .unset, .unset] [(.int x3), (.int x2), (.int x1), (.int x0), (.ref b1)])) (fun t_ k_ => XS.iload X90.here hx rfl (hb hby at_95) rfl k_) ?_
    obtain ⟨_, T91, L91, X91, hQ91, st91⟩ := own_callS X90 hx hZ (y := (⟨"com/example/rowgate/rowgate/StoredValueArrayPinLaw", "same", "([BIIII)Z"⟩ : MethodName)) hown (hw _ (List.mem_of_getElem? (i := 24) rfl)) (hw _ (List.mem_of_getElem? (i := 25) rfl)) (hw _ (List.mem_of_getElem? (i := 26) rfl)) (hw _ (List.mem_of_getElem? (i := 27) rfl)) (by decide) (argsL := [(.ref b1), (.int x0), (.int x1), (.int x2), (.int x3)]) (rest := []) (own_rm_sm l Z a0 hw [] b1 x0 x1 x2 x3 4 (own_b4 x0 x1 x2 x3) T85.heap n0 f86 f87 (by decide) rfl rfl rfl rfl) e90 (W := 0) (by decide) (by decide) (by decide) (by decide) (g := (mkF m 97 #[.val (.int qa), .val (.int x0), .val (.int x1), .val (.int x2), .val (.int x3), .val (.ref b1), .val (.int (2 : Int32)), .val (.int ad), .val (.ref b71), .val (.ref b79), .val (.ref b1), .unset, .unset, .unset] [(.int x3), (.int x2), (.int x1), (.int x0), (.ref b1)])) rfl (by rw [hml]; rfl) (lenOf own_pd5 rfl) rfl (by show 2 * 0 + _ ≤ _; exact Nat.le_of_eq rfl) (hb hby at_97)
    obtain ⟨rfl, Nq91, e91⟩ := hQ91
    have N91 := Fr.app N90 Nq91
    refine st91 _ ?_
    show own_Goes p e below _ T91 (mkF m 100 #[.val (.int qa), .val (.int x0), .val (.int x1), .val (.int x2), .val (.int x3), .val (.ref b1), .val (.int (2 : Int32)), .val (.int ad), .val (.ref b71), .val (.ref b79), .val (.ref b1), .unset, .unset, .unset] [(.int (1 : Int32))])
    refine own_by (T' := T91) (g' := (mkF m 103 #[.val (.int qa), .val (.int x0), .val (.int x1), .val (.int x2), .val (.int x3), .val (.ref b1), .val (.int (2 : Int32)), .val (.int ad), .val (.ref b71), .val (.ref b79), .val (.ref b1), .unset, .unset, .unset] [])) (fun t_ k_ => XS.ifNo X91.here hx rfl (hb hby at_100) rfl ((if0 _ _).trans (feq ((by decide) : ¬ ((1 : Int32) = (0 : Int32)))).1) k_) ?_
    refine own_by (T' := T91) (g' := (mkF m 105 #[.val (.int qa), .val (.int x0), .val (.int x1), .val (.int x2), .val (.int x3), .val (.ref b1), .val (.int (2 : Int32)), .val (.int ad), .val (.ref b71), .val (.ref b79), .val (.ref b1), .unset, .unset, .unset] [(.ref b79)])) (fun t_ k_ => XS.aload X91.here hx rfl (hb hby at_103) rfl rfl k_) ?_
    obtain ⟨_, T92, L92, X92, hQ92, st92⟩ := own_callV X91 hx hZ (y := (⟨"com/example/rowgate/rowgate/StoredValue", "length", "()I"⟩ : MethodName)) hown (hw _ (List.mem_of_getElem? (i := 28) rfl)) (hw _ (List.mem_of_getElem? (i := 29) rfl)) (hw _ (List.mem_of_getElem? (i := 31) rfl)) (hw _ (List.mem_of_getElem? (i := 30) rfl)) (hw _ (List.mem_of_getElem? (i := 4) rfl)) (hw _ (List.mem_of_getElem? (i := 32) rfl)) (by decide) (argsL := []) (rest := []) f89 (own_rm_le l Z a0 hw [] b79 (2 : Int32) T85.heap n0 f86 Fq85_length) e91 (W := 0) (by decide) (by decide) (by decide) (by decide) (g := (mkF m 105 #[.val (.int qa), .val (.int x0), .val (.int x1), .val (.int x2), .val (.int x3), .val (.ref b1), .val (.int (2 : Int32)), .val (.int ad), .val (.ref b71), .val (.ref b79), .val (.ref b1), .unset, .unset, .unset] [(.ref b79)])) rfl (by rw [hml]; rfl) (lenOf own_pd6 rfl) rfl (by show 2 * 0 + _ ≤ _; exact Nat.le_of_eq rfl) (hb hby at_105)
    obtain ⟨rfl, Nq92, e92⟩ := hQ92
    have N92 := Fr.app N91 Nq92
    refine st92 _ ?_
    show own_Goes p e below _ T92 (mkF m 108 #[.val (.int qa), .val (.int x0), .val (.int x1), .val (.int x2), .val (.int x3), .val (.ref b1), .val (.int (2 : Int32)), .val (.int ad), .val (.ref b71), .val (.ref b79), .val (.ref b1), .unset, .unset, .unset] [(.int (2 : Int32))])
    refine own_by (T' := T92) (g' := (mkF m 110 #[.val (.int qa), .val (.int x0), .val (.int x1), .val (.int x2), .val (.int x3), .val (.ref b1), .val (.int (2 : Int32)), .val (.int ad), .val (.ref b71), .val (.ref b79), .val (.ref b1), .unset, .unset, .unset] [(.int (2 : Int32)), (.int (2 : Int32))])) (fun t_ k_ => XS.iload X92.here hx rfl (hb hby at_108) rfl k_) ?_
    refine own_by (T' := T92) (g' := (mkF m 113 #[.val (.int qa), .val (.int x0), .val (.int x1), .val (.int x2), .val (.int x3), .val (.ref b1), .val (.int (2 : Int32)), .val (.int ad), .val (.ref b71), .val (.ref b79), .val (.ref b1), .unset, .unset, .unset] [])) (fun t_ k_ => XS.icmpNo X92.here hx rfl (hb hby at_110) rfl (teq ((by decide) : (2 : Int32) = (2 : Int32))).2 k_) ?_
    refine own_by (T' := T92) (g' := (mkF m 114 #[.val (.int qa), .val (.int x0), .val (.int x1), .val (.int x2), .val (.int x3), .val (.ref b1), .val (.int (2 : Int32)), .val (.int ad), .val (.ref b71), .val (.ref b79), .val (.ref b1), .unset, .unset, .unset] [(.int (1 : Int32))])) (fun t_ k_ => XS.iconst X92.here hx rfl (hb hby at_113) k_) ?_
    refine own_by (T' := T92) (g' := (mkF m 118 #[.val (.int qa), .val (.int x0), .val (.int x1), .val (.int x2), .val (.int x3), .val (.ref b1), .val (.int (2 : Int32)), .val (.int ad), .val (.ref b71), .val (.ref b79), .val (.ref b1), .unset, .unset, .unset] [(.int (1 : Int32))])) (fun t_ k_ => XS.goto X92.here hx rfl (pc0 := 114) (pc' := 118) rfl (hb hby at_114) (by decide) (by decide) k_) ?_
    refine own_by (T' := T92) (g' := (mkF m 120 #[.val (.int qa), .val (.int x0), .val (.int x1), .val (.int x2), .val (.int x3), .val (.ref b1), .val (.int (2 : Int32)), .val (.int ad), .val (.ref b71), .val (.ref b79), .val (.ref b1), .val (.int (1 : Int32)), .unset, .unset] [])) (fun t_ k_ => XS.istore X92.here hx rfl (hb hby at_118) rfl (l' := #[.val (.int qa), .val (.int x0), .val (.int x1), .val (.int x2), .val (.int x3), .val (.ref b1), .val (.int (2 : Int32)), .val (.int ad), .val (.ref b71), .val (.ref b79), .val (.ref b1), .val (.int (1 : Int32)), .unset, .unset]) rfl k_) ?_
    refine own_by (T' := T92) (g' := (mkF m 122 #[.val (.int qa), .val (.int x0), .val (.int x1), .val (.int x2), .val (.int x3), .val (.ref b1), .val (.int (2 : Int32)), .val (.int ad), .val (.ref b71), .val (.ref b79), .val (.ref b1), .val (.int (1 : Int32)), .unset, .unset] [(.ref b79)])) (fun t_ k_ => XS.aload X92.here hx rfl (hb hby at_120) rfl rfl k_) ?_
    refine own_by (T' := T92) (g' := (mkF m 124 #[.val (.int qa), .val (.int x0), .val (.int x1), .val (.int x2), .val (.int x3), .val (.ref b1), .val (.int (2 : Int32)), .val (.int ad), .val (.ref b71), .val (.ref b79), .val (.ref b1), .val (.int (1 : Int32)), .unset, .unset] [(.ref b71), (.ref b79)])) (fun t_ k_ => XS.aload X92.here hx rfl (hb hby at_122) rfl rfl k_) ?_
    obtain ⟨_, T93, L93, X93, hQ93, st93⟩ := own_callV X92 hx hZ (y := (⟨"com/example/rowgate/rowgate/StoredValue", "appended", "([B)Lcom/example/rowgate/rowgate/StoredValue;"⟩ : MethodName)) hown (hw _ (List.mem_of_getElem? (i := 33) rfl)) (hw _ (List.mem_of_getElem? (i := 34) rfl)) (hw _ (List.mem_of_getElem? (i := 36) rfl)) (hw _ (List.mem_of_getElem? (i := 35) rfl)) (hw _ (List.mem_of_getElem? (i := 4) rfl)) (hw _ (List.mem_of_getElem? (i := 37) rfl)) (by decide) (argsL := [(.ref b71)]) (rest := []) f89 (own_rm_ad2 l Z a0 hw [] b79 b71 b1 (own_b4 x0 x1 x2 x3) (fun i => if i = 0 then (nar .byte ad) else (fun _ => (0 : Int32)) i) T85.heap n0 f86 Fq85_bytes Fq85_length f89 f87 f88 g_b1 (Ne.symm ne80) (Ne.symm ne72)) e92 (W := 0) (by decide) (by decide) (by decide) (by decide) (g := (mkF m 124 #[.val (.int qa), .val (.int x0), .val (.int x1), .val (.int x2), .val (.int x3), .val (.ref b1), .val (.int (2 : Int32)), .val (.int ad), .val (.ref b71), .val (.ref b79), .val (.ref b1), .val (.int (1 : Int32)), .unset, .unset] [(.ref b71), (.ref b79)])) rfl (by rw [hml]; rfl) (lenOf own_pd7 rfl) rfl (by show 2 * 0 + _ ≤ _; exact Nat.le_of_eq rfl) (hb hby at_124)
    obtain ⟨ww, rfl, Nq93, Kq93, Ew, Fw1, Fw2, Vw⟩ := hQ93
    have N93 := Fr.app N92 Nq93
    have f94 := Nat.le_trans f86 Kq93.1
    have f95 := Exa.keep f89 Kq93
    refine st93 _ ?_
    show own_Goes p e below _ T93 (mkF m 127 #[.val (.int qa), .val (.int x0), .val (.int x1), .val (.int x2), .val (.int x3), .val (.ref b1), .val (.int (2 : Int32)), .val (.int ad), .val (.ref b71), .val (.ref b79), .val (.ref b1), .val (.int (1 : Int32)), .unset, .unset] [(.ref ww)])
    refine own_by (T' := T93) (g' := (mkF m 129 #[.val (.int qa), .val (.int x0), .val (.int x1), .val (.int x2), .val (.int x3), .val (.ref b1), .val (.int (2 : Int32)), .val (.int ad), .val (.ref b71), .val (.ref b79), .val (.ref b1), .val (.int (1 : Int32)), .val (.ref ww), .unset] [])) (fun t_ k_ => XS.astore X93.here hx rfl (hb hby at_127) rfl rfl (l' := #[.val (.int qa), .val (.int x0), .val (.int x1), .val (.int x2), .val (.int x3), .val (.ref b1), .val (.int (2 : Int32)), .val (.int ad), .val (.ref b71), .val (.ref b79), .val (.ref b1), .val (.int (1 : Int32)), .val (.ref ww), .unset]) rfl k_) ?_
    refine own_by (T' := T93) (g' := (mkF m 131 #[.val (.int qa), .val (.int x0), .val (.int x1), .val (.int x2), .val (.int x3), .val (.ref b1), .val (.int (2 : Int32)), .val (.int ad), .val (.ref b71), .val (.ref b79), .val (.ref b1), .val (.int (1 : Int32)), .val (.ref ww), .unset] [(.ref ww)])) (fun t_ k_ => XS.aload X93.here hx rfl (hb hby at_129) rfl rfl k_) ?_
    obtain ⟨_, T96, L96, X96, hQ96, st96⟩ := own_callV X93 hx hZ (y := (⟨"com/example/rowgate/rowgate/StoredValue", "array", "()[B"⟩ : MethodName)) hown (hw _ (List.mem_of_getElem? (i := 19) rfl)) (hw _ (List.mem_of_getElem? (i := 20) rfl)) (hw _ (List.mem_of_getElem? (i := 22) rfl)) (hw _ (List.mem_of_getElem? (i := 21) rfl)) (hw _ (List.mem_of_getElem? (i := 4) rfl)) (hw _ (List.mem_of_getElem? (i := 23) rfl)) (by decide) (argsL := []) (rest := []) Ew (own_rm_ar l Z a0 hw [] ww b1 T93.heap n0 f94 Fw1) rfl (W := 0) (by decide) (by decide) (by decide) (by decide) (g := (mkF m 131 #[.val (.int qa), .val (.int x0), .val (.int x1), .val (.int x2), .val (.int x3), .val (.ref b1), .val (.int (2 : Int32)), .val (.int ad), .val (.ref b71), .val (.ref b79), .val (.ref b1), .val (.int (1 : Int32)), .val (.ref ww), .unset] [(.ref ww)])) rfl (by rw [hml]; rfl) (lenOf own_pd4 rfl) rfl (by show 2 * 0 + _ ≤ _; exact Nat.le_of_eq rfl) (hb hby at_131)
    obtain ⟨rfl, Nq96, e96⟩ := hQ96
    have N96 := Fr.app N93 Nq96
    refine st96 _ ?_
    show own_Goes p e below _ T96 (mkF m 134 #[.val (.int qa), .val (.int x0), .val (.int x1), .val (.int x2), .val (.int x3), .val (.ref b1), .val (.int (2 : Int32)), .val (.int ad), .val (.ref b71), .val (.ref b79), .val (.ref b1), .val (.int (1 : Int32)), .val (.ref ww), .unset] [(.ref b1)])
    refine own_by (T' := T96) (g' := (mkF m 136 #[.val (.int qa), .val (.int x0), .val (.int x1), .val (.int x2), .val (.int x3), .val (.ref b1), .val (.int (2 : Int32)), .val (.int ad), .val (.ref b71), .val (.ref b79), .val (.ref b1), .val (.int (1 : Int32)), .val (.ref ww), .val (.ref b1)] [])) (fun t_ k_ => XS.astore X96.here hx rfl (hb hby at_134) rfl rfl (l' := #[.val (.int qa), .val (.int x0), .val (.int x1), .val (.int x2), .val (.int x3), .val (.ref b1), .val (.int (2 : Int32)), .val (.int ad), .val (.ref b71), .val (.ref b79), .val (.ref b1), .val (.int (1 : Int32)), .val (.ref ww), .val (.ref b1)]) rfl k_) ?_
    refine own_by (T' := T96) (g' := (mkF m 138 #[.val (.int qa), .val (.int x0), .val (.int x1), .val (.int x2), .val (.int x3), .val (.ref b1), .val (.int (2 : Int32)), .val (.int ad), .val (.ref b71), .val (.ref b79), .val (.ref b1), .val (.int (1 : Int32)), .val (.ref ww), .val (.ref b1)] [(.int (1 : Int32))])) (fun t_ k_ => XS.iload X96.here hx rfl (hb hby at_136) rfl k_) ?_
    refine own_by (T' := T96) (g' := (mkF m 141 #[.val (.int qa), .val (.int x0), .val (.int x1), .val (.int x2), .val (.int x3), .val (.ref b1), .val (.int (2 : Int32)), .val (.int ad), .val (.ref b71), .val (.ref b79), .val (.ref b1), .val (.int (1 : Int32)), .val (.ref ww), .val (.ref b1)] [])) (fun t_ k_ => XS.ifNo X96.here hx rfl (hb hby at_138) rfl ((if0 _ _).trans (feq ((by decide) : ¬ ((1 : Int32) = (0 : Int32)))).1) k_) ?_
    refine own_by (T' := T96) (g' := (mkF m 143 #[.val (.int qa), .val (.int x0), .val (.int x1), .val (.int x2), .val (.int x3), .val (.ref b1), .val (.int (2 : Int32)), .val (.int ad), .val (.ref b71), .val (.ref b79), .val (.ref b1), .val (.int (1 : Int32)), .val (.ref ww), .val (.ref b1)] [(.ref ww)])) (fun t_ k_ => XS.aload X96.here hx rfl (hb hby at_141) rfl rfl k_) ?_
    obtain ⟨_, T97, L97, X97, hQ97, st97⟩ := own_callV X96 hx hZ (y := (⟨"com/example/rowgate/rowgate/StoredValue", "length", "()I"⟩ : MethodName)) hown (hw _ (List.mem_of_getElem? (i := 28) rfl)) (hw _ (List.mem_of_getElem? (i := 29) rfl)) (hw _ (List.mem_of_getElem? (i := 31) rfl)) (hw _ (List.mem_of_getElem? (i := 30) rfl)) (hw _ (List.mem_of_getElem? (i := 4) rfl)) (hw _ (List.mem_of_getElem? (i := 32) rfl)) (by decide) (argsL := []) (rest := []) Ew (own_rm_le l Z a0 hw [] ww (3 : Int32) T93.heap n0 f94 Fw2) e96 (W := 0) (by decide) (by decide) (by decide) (by decide) (g := (mkF m 143 #[.val (.int qa), .val (.int x0), .val (.int x1), .val (.int x2), .val (.int x3), .val (.ref b1), .val (.int (2 : Int32)), .val (.int ad), .val (.ref b71), .val (.ref b79), .val (.ref b1), .val (.int (1 : Int32)), .val (.ref ww), .val (.ref b1)] [(.ref ww)])) rfl (by rw [hml]; rfl) (lenOf own_pd6 rfl) rfl (by show 2 * 0 + _ ≤ _; exact Nat.le_of_eq rfl) (hb hby at_143)
    obtain ⟨rfl, Nq97, e97⟩ := hQ97
    have N97 := Fr.app N96 Nq97
    refine st97 _ ?_
    show own_Goes p e below _ T97 (mkF m 146 #[.val (.int qa), .val (.int x0), .val (.int x1), .val (.int x2), .val (.int x3), .val (.ref b1), .val (.int (2 : Int32)), .val (.int ad), .val (.ref b71), .val (.ref b79), .val (.ref b1), .val (.int (1 : Int32)), .val (.ref ww), .val (.ref b1)] [(.int (3 : Int32))])
    refine own_by (T' := T97) (g' := (mkF m 148 #[.val (.int qa), .val (.int x0), .val (.int x1), .val (.int x2), .val (.int x3), .val (.ref b1), .val (.int (2 : Int32)), .val (.int ad), .val (.ref b71), .val (.ref b79), .val (.ref b1), .val (.int (1 : Int32)), .val (.ref ww), .val (.ref b1)] [(.int (2 : Int32)), (.int (3 : Int32))])) (fun t_ k_ => XS.iload X97.here hx rfl (hb hby at_146) rfl k_) ?_
    refine own_by (T' := T97) (g' := (mkF m 149 #[.val (.int qa), .val (.int x0), .val (.int x1), .val (.int x2), .val (.int x3), .val (.ref b1), .val (.int (2 : Int32)), .val (.int ad), .val (.ref b71), .val (.ref b79), .val (.ref b1), .val (.int (1 : Int32)), .val (.ref ww), .val (.ref b1)] [(.int (1 : Int32)), (.int (2 : Int32)), (.int (3 : Int32))])) (fun t_ k_ => XS.iconst X97.here hx rfl (hb hby at_148) k_) ?_
    refine own_by (T' := T97) (g' := (mkF m 150 #[.val (.int qa), .val (.int x0), .val (.int x1), .val (.int x2), .val (.int x3), .val (.ref b1), .val (.int (2 : Int32)), .val (.int ad), .val (.ref b71), .val (.ref b79), .val (.ref b1), .val (.int (1 : Int32)), .val (.ref ww), .val (.ref b1)] [(.int (3 : Int32)), (.int (3 : Int32))])) (fun t_ k_ => XS.iadd X97.here hx rfl (hb hby at_149) rfl k_) ?_
    refine own_by (T' := T97) (g' := (mkF m 153 #[.val (.int qa), .val (.int x0), .val (.int x1), .val (.int x2), .val (.int x3), .val (.ref b1), .val (.int (2 : Int32)), .val (.int ad), .val (.ref b71), .val (.ref b79), .val (.ref b1), .val (.int (1 : Int32)), .val (.ref ww), .val (.ref b1)] [])) (fun t_ k_ => XS.icmpNo X97.here hx rfl (hb hby at_150) rfl (teq ((by decide) : (3 : Int32) = (3 : Int32))).2 k_) ?_
    refine own_by (T' := T97) (g' := (mkF m 154 #[.val (.int qa), .val (.int x0), .val (.int x1), .val (.int x2), .val (.int x3), .val (.ref b1), .val (.int (2 : Int32)), .val (.int ad), .val (.ref b71), .val (.ref b79), .val (.ref b1), .val (.int (1 : Int32)), .val (.ref ww), .val (.ref b1)] [(.int (1 : Int32))])) (fun t_ k_ => XS.iconst X97.here hx rfl (hb hby at_153) k_) ?_
    refine own_by (T' := T97) (g' := (mkF m 158 #[.val (.int qa), .val (.int x0), .val (.int x1), .val (.int x2), .val (.int x3), .val (.ref b1), .val (.int (2 : Int32)), .val (.int ad), .val (.ref b71), .val (.ref b79), .val (.ref b1), .val (.int (1 : Int32)), .val (.ref ww), .val (.ref b1)] [(.int (1 : Int32))])) (fun t_ k_ => XS.goto X97.here hx rfl (pc0 := 154) (pc' := 158) rfl (hb hby at_154) (by decide) (by decide) k_) ?_
    refine own_by (T' := T97) (g' := (mkF m 160 #[.val (.int qa), .val (.int x0), .val (.int x1), .val (.int x2), .val (.int x3), .val (.ref b1), .val (.int (2 : Int32)), .val (.int ad), .val (.ref b71), .val (.ref b79), .val (.ref b1), .val (.int (1 : Int32)), .val (.ref ww), .val (.ref b1)] [])) (fun t_ k_ => XS.istore X97.here hx rfl (hb hby at_158) rfl (l' := #[.val (.int qa), .val (.int x0), .val (.int x1), .val (.int x2), .val (.int x3), .val (.ref b1), .val (.int (2 : Int32)), .val (.int ad), .val (.ref b71), .val (.ref b79), .val (.ref b1), .val (.int (1 : Int32)), .val (.ref ww), .val (.ref b1)]) rfl k_) ?_
    refine own_by (T' := T97) (g' := (mkF m 162 #[.val (.int qa), .val (.int x0), .val (.int x1), .val (.int x2), .val (.int x3), .val (.ref b1), .val (.int (2 : Int32)), .val (.int ad), .val (.ref b71), .val (.ref b79), .val (.ref b1), .val (.int (1 : Int32)), .val (.ref ww), .val (.ref b1)] [(.int (2 : Int32))])) (fun t_ k_ => XS.iload X97.here hx rfl (hb hby at_160) rfl k_) ?_
    refine own_by (T' := T97) (g' := (mkF m 163 #[.val (.int qa), .val (.int x0), .val (.int x1), .val (.int x2), .val (.int x3), .val (.ref b1), .val (.int (2 : Int32)), .val (.int ad), .val (.ref b71), .val (.ref b79), .val (.ref b1), .val (.int (1 : Int32)), .val (.ref ww), .val (.ref b1)] [(.int (4 : Int32)), (.int (2 : Int32))])) (fun t_ k_ => XS.iconst X97.here hx rfl (hb hby at_162) k_) ?_
    refine own_by (T' := T97) (g' := (mkF m 166 #[.val (.int qa), .val (.int x0), .val (.int x1), .val (.int x2), .val (.int x3), .val (.ref b1), .val (.int (2 : Int32)), .val (.int ad), .val (.ref b71), .val (.ref b79), .val (.ref b1), .val (.int (1 : Int32)), .val (.ref ww), .val (.ref b1)] [])) (fun t_ k_ => XS.icmpNo X97.here hx rfl (hb hby at_163) rfl (tlt ((by decide) : (2 : Int32) < (4 : Int32))).2.1 k_) ?_
    refine own_by (T' := T97) (g' := (mkF m 168 #[.val (.int qa), .val (.int x0), .val (.int x1), .val (.int x2), .val (.int x3), .val (.ref b1), .val (.int (2 : Int32)), .val (.int ad), .val (.ref b71), .val (.ref b79), .val (.ref b1), .val (.int (1 : Int32)), .val (.ref ww), .val (.ref b1)] [(.int (1 : Int32))])) (fun t_ k_ => XS.iload X97.here hx rfl (hb hby at_166) rfl k_) ?_
    refine own_by (T' := T97) (g' := (mkF m 171 #[.val (.int qa), .val (.int x0), .val (.int x1), .val (.int x2), .val (.int x3), .val (.ref b1), .val (.int (2 : Int32)), .val (.int ad), .val (.ref b71), .val (.ref b79), .val (.ref b1), .val (.int (1 : Int32)), .val (.ref ww), .val (.ref b1)] [])) (fun t_ k_ => XS.ifNo X97.here hx rfl (hb hby at_168) rfl ((if0 _ _).trans (feq ((by decide) : ¬ ((1 : Int32) = (0 : Int32)))).1) k_) ?_
    refine own_by (T' := T97) (g' := (mkF m 173 #[.val (.int qa), .val (.int x0), .val (.int x1), .val (.int x2), .val (.int x3), .val (.ref b1), .val (.int (2 : Int32)), .val (.int ad), .val (.ref b71), .val (.ref b79), .val (.ref b1), .val (.int (1 : Int32)), .val (.ref ww), .val (.ref b1)] [(.ref b1)])) (fun t_ k_ => XS.aload X97.here hx rfl (hb hby at_171) rfl rfl k_) ?_
    refine own_by (T' := T97) (g' := (mkF m 175 #[.val (.int qa), .val (.int x0), .val (.int x1), .val (.int x2), .val (.int x3), .val (.ref b1), .val (.int (2 : Int32)), .val (.int ad), .val (.ref b71), .val (.ref b79), .val (.ref b1), .val (.int (1 : Int32)), .val (.ref ww), .val (.ref b1)] [(.ref b1), (.ref b1)])) (fun t_ k_ => XS.aload X97.here hx rfl (hb hby at_173) rfl rfl k_) ?_
    refine own_by (T' := T97) (g' := (mkF m 178 #[.val (.int qa), .val (.int x0), .val (.int x1), .val (.int x2), .val (.int x3), .val (.ref b1), .val (.int (2 : Int32)), .val (.int ad), .val (.ref b71), .val (.ref b79), .val (.ref b1), .val (.int (1 : Int32)), .val (.ref ww), .val (.ref b1)] [])) (fun t_ k_ => Jvm.RoadKit.acmp (g := (mkF m 175 #[.val (.int qa), .val (.int x0), .val (.int x1), .val (.int x2), .val (.int x3), .val (.ref b1), .val (.int (2 : Int32)), .val (.int ad), .val (.ref b71), .val (.ref b79), .val (.ref b1), .val (.int (1 : Int32)), .val (.ref ww), .val (.ref b1)] [(.ref b1), (.ref b1)])) X97 hx rfl rfl rfl (pc0 := 175) (pc' := 178) (same := true) rfl (hb hby at_175) rfl (decide_eq_true rfl) (by decide) (by decide) k_) ?_
    refine own_by (T' := T97) (g' := (mkF m 180 #[.val (.int qa), .val (.int x0), .val (.int x1), .val (.int x2), .val (.int x3), .val (.ref b1), .val (.int (2 : Int32)), .val (.int ad), .val (.ref b71), .val (.ref b79), .val (.ref b1), .val (.int (1 : Int32)), .val (.ref ww), .val (.ref b1)] [(.ref b1)])) (fun t_ k_ => XS.aload X97.here hx rfl (hb hby at_178) rfl rfl k_) ?_
    refine own_by (T' := T97) (g' := (mkF m 181 #[.val (.int qa), .val (.int x0), .val (.int x1), .val (.int x2), .val (.int x3), .val (.ref b1), .val (.int (2 : Int32)), .val (.int ad), .val (.ref b71), .val (.ref b79), .val (.ref b1), .val (.int (1 : Int32)), .val (.ref ww), .val (.ref b1)] [(.int (4 : Int32))])) (fun t_ k_ => own_alen X97 hx hZ e97 Vw (z := (4 : Int32)) rfl (g := (mkF m 180 #[.val (.int qa), .val (.int x0), .val (.int x1), .val (.int x2), .val (.int x3), .val (.ref b1), .val (.int (2 : Int32)), .val (.int ad), .val (.ref b71), .val (.ref b79), .val (.ref b1), .val (.int (1 : Int32)), .val (.ref ww), .val (.ref b1)] [(.ref b1)])) rfl rfl (hb hby at_180) _ k_) ?_
    refine own_by (T' := T97) (g' := (mkF m 182 #[.val (.int qa), .val (.int x0), .val (.int x1), .val (.int x2), .val (.int x3), .val (.ref b1), .val (.int (2 : Int32)), .val (.int ad), .val (.ref b71), .val (.ref b79), .val (.ref b1), .val (.int (1 : Int32)), .val (.ref ww), .val (.ref b1)] [(.int (4 : Int32)), (.int (4 : Int32))])) (fun t_ k_ => XS.iconst X97.here hx rfl (hb hby at_181) k_) ?_
    refine own_by (T' := T97) (g' := (mkF m 185 #[.val (.int qa), .val (.int x0), .val (.int x1), .val (.int x2), .val (.int x3), .val (.ref b1), .val (.int (2 : Int32)), .val (.int ad), .val (.ref b71), .val (.ref b79), .val (.ref b1), .val (.int (1 : Int32)), .val (.ref ww), .val (.ref b1)] [])) (fun t_ k_ => XS.icmpNo X97.here hx rfl (hb hby at_182) rfl (teq ((by decide) : (4 : Int32) = (4 : Int32))).2 k_) ?_
    refine own_by (T' := T97) (g' := (mkF m 187 #[.val (.int qa), .val (.int x0), .val (.int x1), .val (.int x2), .val (.int x3), .val (.ref b1), .val (.int (2 : Int32)), .val (.int ad), .val (.ref b71), .val (.ref b79), .val (.ref b1), .val (.int (1 : Int32)), .val (.ref ww), .val (.ref b1)] [(.ref b1)])) (fun t_ k_ => XS.aload X97.here hx rfl (hb hby at_185) rfl rfl k_) ?_
    refine own_by (T' := T97) (g' := (mkF m 189 #[.val (.int qa), .val (.int x0), .val (.int x1), .val (.int x2), .val (.int x3), .val (.ref b1), .val (.int (2 : Int32)), .val (.int ad), .val (.ref b71), .val (.ref b79), .val (.ref b1), .val (.int (1 : Int32)), .val (.ref ww), .val (.ref b1)] [(.int (2 : Int32)), (.ref b1)])) (fun t_ k_ => XS.iload X97.here hx rfl (hb hby at_187) rfl k_) ?_
    refine own_by (T' := T97) (g' := (mkF m 191 #[.val (.int qa), .val (.int x0), .val (.int x1), .val (.int x2), .val (.int x3), .val (.ref b1), .val (.int (2 : Int32)), .val (.int ad), .val (.ref b71), .val (.ref b79), .val (.ref b1), .val (.int (1 : Int32)), .val (.ref ww), .val (.ref b1)] [(.int ad), (.int (2 : Int32)), (.ref b1)])) (fun t_ k_ => XS.iload X97.here hx rfl (hb hby at_189) rfl k_) ?_
    refine own_by (T' := T97) (g' := (mkF m 192 #[.val (.int qa), .val (.int x0), .val (.int x1), .val (.int x2), .val (.int x3), .val (.ref b1), .val (.int (2 : Int32)), .val (.int ad), .val (.ref b71), .val (.ref b79), .val (.ref b1), .val (.int (1 : Int32)), .val (.ref ww), .val (.ref b1)] [(.int x0), (.int ad), (.int (2 : Int32)), (.ref b1)])) (fun t_ k_ => XS.iloadN X97.here hx rfl (hb hby at_191) rfl k_) ?_
    refine own_by (T' := T97) (g' := (mkF m 193 #[.val (.int qa), .val (.int x0), .val (.int x1), .val (.int x2), .val (.int x3), .val (.ref b1), .val (.int (2 : Int32)), .val (.int ad), .val (.ref b71), .val (.ref b79), .val (.ref b1), .val (.int (1 : Int32)), .val (.ref ww), .val (.ref b1)] [(.int x1), (.int x0), (.int ad), (.int (2 : Int32)), (.ref b1)])) (fun t_ k_ => XS.iloadN X97.here hx rfl (hb hby at_192) rfl k_) ?_
    refine own_by (T' := T97) (g' := (mkF m 194 #[.val (.int qa), .val (.int x0), .val (.int x1), .val (.int x2), .val (.int x3), .val (.ref b1), .val (.int (2 : Int32)), .val (.int ad), .val (.ref b71), .val (.ref b79), .val (.ref b1), .val (.int (1 : Int32)), .val (.ref ww), .val (.ref b1)] [(.int x2), (.int x1), (.int x0), (.int ad), (.int (2 : Int32)), (.ref b1)])) (fun t_ k_ => XS.iloadN X97.here hx rfl (hb hby at_193) rfl k_) ?_
    refine own_by (T' := T97) (g' := (mkF m 196 #[.val (.int qa), .val (.int x0), .val (.int x1), .val (.int x2), .val (.int x3), .val (.ref b1), .val (.int (2 : Int32)), .val (.int ad), .val (.ref b71), .val (.ref b79), .val (.ref b1), .val (.int (1 : Int32)), .val (.ref ww), .val (.ref b1)] [(.int x3), (.int x2), (.int x1), (.int x0), (.int ad), (.int (2 : Int32)), (.ref b1)])) (fun t_ k_ => XS.iload X97.here hx rfl (hb hby at_194) rfl k_) ?_
    obtain ⟨_, T98, L98, X98, hQ98, st98⟩ := own_callS X97 hx hZ (y := (⟨"com/example/rowgate/rowgate/StoredValueArrayPinLaw", "afterAppend", "([BIBIIII)Z"⟩ : MethodName)) hown (hw _ (List.mem_of_getElem? (i := 44) rfl)) (hw _ (List.mem_of_getElem? (i := 45) rfl)) (hw _ (List.mem_of_getElem? (i := 26) rfl)) (hw _ (List.mem_of_getElem? (i := 46) rfl)) (by decide) (argsL := [(.ref b1), (.int (2 : Int32)), (.int ad), (.int x0), (.int x1), (.int x2), (.int x3)]) (rest := []) (own_rm_ap2 l Z a0 hw [] b1 ad x0 x1 x2 x3 (fun i => if 2 ≤ i ∧ i < 3 then (fun i => if i = 0 then (nar .byte ad) else (fun _ => (0 : Int32)) i) (0 + (i - 2)) else own_b4 x0 x1 x2 x3 i) T93.heap n0 f94 Vw rfl rfl hnb rfl) e97 (W := 0) (by decide) (by decide) (by decide) (by decide) (g := (mkF m 196 #[.val (.int qa), .val (.int x0), .val (.int x1), .val (.int x2), .val (.int x3), .val (.ref b1), .val (.int (2 : Int32)), .val (.int ad), .val (.ref b71), .val (.ref b79), .val (.ref b1), .val (.int (1 : Int32)), .val (.ref ww), .val (.ref b1)] [(.int x3), (.int x2), (.int x1), (.int x0), (.int ad), (.int (2 : Int32)), (.ref b1)])) rfl (by rw [hml]; rfl) (lenOf own_pd8 rfl) rfl (by show 2 * 0 + _ ≤ _; exact Nat.le_of_eq rfl) (hb hby at_196)
    obtain ⟨rfl, Nq98, e98⟩ := hQ98
    have N98 := Fr.app N97 Nq98
    refine st98 _ ?_
    show own_Goes p e below _ T98 (mkF m 199 #[.val (.int qa), .val (.int x0), .val (.int x1), .val (.int x2), .val (.int x3), .val (.ref b1), .val (.int (2 : Int32)), .val (.int ad), .val (.ref b71), .val (.ref b79), .val (.ref b1), .val (.int (1 : Int32)), .val (.ref ww), .val (.ref b1)] [(.int (1 : Int32))])
    refine own_by (T' := T98) (g' := (mkF m 202 #[.val (.int qa), .val (.int x0), .val (.int x1), .val (.int x2), .val (.int x3), .val (.ref b1), .val (.int (2 : Int32)), .val (.int ad), .val (.ref b71), .val (.ref b79), .val (.ref b1), .val (.int (1 : Int32)), .val (.ref ww), .val (.ref b1)] [])) (fun t_ k_ => XS.ifNo X98.here hx rfl (hb hby at_199) rfl ((if0 _ _).trans (feq ((by decide) : ¬ ((1 : Int32) = (0 : Int32)))).1) k_) ?_
    refine own_by (T' := T98) (g' := (mkF m 203 #[.val (.int qa), .val (.int x0), .val (.int x1), .val (.int x2), .val (.int x3), .val (.ref b1), .val (.int (2 : Int32)), .val (.int ad), .val (.ref b71), .val (.ref b79), .val (.ref b1), .val (.int (1 : Int32)), .val (.ref ww), .val (.ref b1)] [(.int (1 : Int32))])) (fun t_ k_ => XS.iconst X98.here hx rfl (hb hby at_202) k_) ?_
    refine own_by (T' := T98) (g' := (mkF m 207 #[.val (.int qa), .val (.int x0), .val (.int x1), .val (.int x2), .val (.int x3), .val (.ref b1), .val (.int (2 : Int32)), .val (.int ad), .val (.ref b71), .val (.ref b79), .val (.ref b1), .val (.int (1 : Int32)), .val (.ref ww), .val (.ref b1)] [(.int (1 : Int32))])) (fun t_ k_ => XS.goto X98.here hx rfl (pc0 := 203) (pc' := 207) rfl (hb hby at_203) (by decide) (by decide) k_) ?_
    refine own_by (T' := T98) (g' := (mkF m 209 #[.val (.int qa), .val (.int x0), .val (.int x1), .val (.int x2), .val (.int x3), .val (.ref b1), .val (.int (2 : Int32)), .val (.int ad), .val (.ref b71), .val (.ref b79), .val (.ref b1), .val (.int (1 : Int32)), .val (.ref ww), .val (.ref b1)] [])) (fun t_ k_ => XS.istore X98.here hx rfl (hb hby at_207) rfl (l' := #[.val (.int qa), .val (.int x0), .val (.int x1), .val (.int x2), .val (.int x3), .val (.ref b1), .val (.int (2 : Int32)), .val (.int ad), .val (.ref b71), .val (.ref b79), .val (.ref b1), .val (.int (1 : Int32)), .val (.ref ww), .val (.ref b1)]) rfl k_) ?_
    refine own_by (T' := T98) (g' := (mkF m 274 #[.val (.int qa), .val (.int x0), .val (.int x1), .val (.int x2), .val (.int x3), .val (.ref b1), .val (.int (2 : Int32)), .val (.int ad), .val (.ref b71), .val (.ref b79), .val (.ref b1), .val (.int (1 : Int32)), .val (.ref ww), .val (.ref b1)] [])) (fun t_ k_ => XS.goto X98.here hx rfl (pc0 := 209) (pc' := 274) rfl (hb hby at_209) (by decide) (by decide) k_) ?_
    refine own_by (T' := T98) (g' := (mkF m 276 #[.val (.int qa), .val (.int x0), .val (.int x1), .val (.int x2), .val (.int x3), .val (.ref b1), .val (.int (2 : Int32)), .val (.int ad), .val (.ref b71), .val (.ref b79), .val (.ref b1), .val (.int (1 : Int32)), .val (.ref ww), .val (.ref b1)] [(.int (1 : Int32))])) (fun t_ k_ => XS.iload X98.here hx rfl (hb hby at_274) rfl k_) ?_
    refine own_retN X98 hx (t := .boolean) Bd.returns hlk (by simp) (hb hby at_276) (by decide) (by decide) (v := (1 : Int32)) rfl ?_
    rw [e98]
    exact ⟨rfl, N98⟩
  · skip
    rw [hk]
    refine own_by (T' := T12) (g' := (mkF m 39 #[.val (.int qa), .val (.int x0), .val (.int x1), .val (.int x2), .val (.int x3), .val (.ref b1), .val (.int (3 : Int32)), .unset, .unset, .unset, .unset, .unset, .unset, .unset] [(.int qa)])) (fun t_ k_ => XS.iloadN X12.here hx rfl (hb hby at_38) rfl k_) ?_
    refine own_by (T' := T12) (g' := (mkF m 41 #[.val (.int qa), .val (.int x0), .val (.int x1), .val (.int x2), .val (.int x3), .val (.ref b1), .val (.int (3 : Int32)), .unset, .unset, .unset, .unset, .unset, .unset, .unset] [(.int (8 : Int32)), (.int qa)])) (fun t_ k_ => XS.bipush X12.here hx rfl (hb hby at_39) k_) ?_
    refine own_by (T' := T12) (g' := (mkF m 42 #[.val (.int qa), .val (.int x0), .val (.int x1), .val (.int x2), .val (.int x3), .val (.ref b1), .val (.int (3 : Int32)), .unset, .unset, .unset, .unset, .unset, .unset, .unset] [(.int (qa >>> ((8 : Int32) &&& 31)))])) (fun t_ k_ => XS.ishr X12.here hx rfl (hb hby at_41) rfl k_) ?_
    refine own_by (T' := T12) (g' := (mkF m 43 #[.val (.int qa), .val (.int x0), .val (.int x1), .val (.int x2), .val (.int x3), .val (.ref b1), .val (.int (3 : Int32)), .unset, .unset, .unset, .unset, .unset, .unset, .unset] [(.int (qa >>> ((8 : Int32) &&& 31)).toInt8.toInt32)])) (fun t_ k_ => XS.i2b X12.here hx rfl (hb hby at_42) rfl k_) ?_
    refine own_by (T' := T12) (g' := (mkF m 45 #[.val (.int qa), .val (.int x0), .val (.int x1), .val (.int x2), .val (.int x3), .val (.ref b1), .val (.int (3 : Int32)), .val (.int (qa >>> ((8 : Int32) &&& 31)).toInt8.toInt32), .unset, .unset, .unset, .unset, .unset, .unset] [])) (fun t_ k_ => XS.istore X12.here hx rfl (hb hby at_43) rfl (l' := #[.val (.int qa), .val (.int x0), .val (.int x1), .val (.int x2), .val (.int x3), .val (.ref b1), .val (.int (3 : Int32)), .val (.int (qa >>> ((8 : Int32) &&& 31)).toInt8.toInt32), .unset, .unset, .unset, .unset, .unset, .unset]) rfl k_) ?_
    obtain ⟨ad, had⟩ : ∃ z, z = (qa >>> ((8 : Int32) &&& 31)).toInt8.toInt32 := ⟨_, rfl⟩
    have hnb : nar .byte ad = ad := by rw [had]; exact own_nb _
    rw [← had]
    refine own_by (T' := T12) (g' := (mkF m 46 #[.val (.int qa), .val (.int x0), .val (.int x1), .val (.int x2), .val (.int x3), .val (.ref b1), .val (.int (3 : Int32)), .val (.int ad), .unset, .unset, .unset, .unset, .unset, .unset] [(.int (1 : Int32))])) (fun t_ k_ => XS.iconst X12.here hx rfl (hb hby at_45) k_) ?_
    obtain ⟨T99, h99, k99, X99, e99, E99, A99, st99⟩ := newP X12 hx hZ (hw _ (List.mem_of_getElem? (i := 0) rfl)) e12 (g := (mkF m 46 #[.val (.int qa), .val (.int x0), .val (.int x1), .val (.int x2), .val (.int x3), .val (.ref b1), .val (.int (3 : Int32)), .val (.int ad), .unset, .unset, .unset, .unset, .unset, .unset] [(.int (1 : Int32))])) rfl (hb hby at_46) rfl (by decide) (cap := 1) (by decide) (by decide) (by decide) (by decide)
    obtain ⟨b99, g99⟩ : ∃ z, z = h12.size := ⟨_, rfl⟩
    rw [← g99] at A99 st99
    have g_b99 : n0 ≤ b99 := Nat.le_trans f13 (Nat.le_of_eq g99.symm)
    have ne100 : b1 ≠ b99 := Nat.ne_of_lt (Nat.lt_of_lt_of_le (own_Ia_lt Vn) (Nat.le_of_eq g99.symm))
    have f101 := Nat.le_trans f13 E99.1
    have f102 := own_Ia_ext E99 Vn
    have V99 : own_Ia Z h99 b99 .byte 1 (fun _ => (0 : Int32)) := own_Ia_new A99 rfl rfl rfl
    refine own_by (T' := T99) (g' := (mkF m 48 #[.val (.int qa), .val (.int x0), .val (.int x1), .val (.int x2), .val (.int x3), .val (.ref b1), .val (.int (3 : Int32)), .val (.int ad), .unset, .unset, .unset, .unset, .unset, .unset] [(.ref b99)])) st99 ?_
    refine own_by (T' := T99) (g' := (mkF m 50 #[.val (.int qa), .val (.int x0), .val (.int x1), .val (.int x2), .val (.int x3), .val (.ref b1), .val (.int (3 : Int32)), .val (.int ad), .val (.ref b99), .unset, .unset, .unset, .unset, .unset] [])) (fun t_ k_ => XS.astore X99.here hx rfl (hb hby at_48) rfl rfl (l' := #[.val (.int qa), .val (.int x0), .val (.int x1), .val (.int x2), .val (.int x3), .val (.ref b1), .val (.int (3 : Int32)), .val (.int ad), .val (.ref b99), .unset, .unset, .unset, .unset, .unset]) rfl k_) ?_
    refine own_by (T' := T99) (g' := (mkF m 52 #[.val (.int qa), .val (.int x0), .val (.int x1), .val (.int x2), .val (.int x3), .val (.ref b1), .val (.int (3 : Int32)), .val (.int ad), .val (.ref b99), .unset, .unset, .unset, .unset, .unset] [(.ref b99)])) (fun t_ k_ => XS.aload X99.here hx rfl (hb hby at_50) rfl rfl k_) ?_
    refine own_by (T' := T99) (g' := (mkF m 53 #[.val (.int qa), .val (.int x0), .val (.int x1), .val (.int x2), .val (.int x3), .val (.ref b1), .val (.int (3 : Int32)), .val (.int ad), .val (.ref b99), .unset, .unset, .unset, .unset, .unset] [(.int (0 : Int32)), (.ref b99)])) (fun t_ k_ => XS.iconst X99.here hx rfl (hb hby at_52) k_) ?_
    refine own_by (T' := T99) (g' := (mkF m 55 #[.val (.int qa), .val (.int x0), .val (.int x1), .val (.int x2), .val (.int x3), .val (.ref b1), .val (.int (3 : Int32)), .val (.int ad), .val (.ref b99), .unset, .unset, .unset, .unset, .unset] [(.int ad), (.int (0 : Int32)), (.ref b99)])) (fun t_ k_ => XS.iload X99.here hx rfl (hb hby at_53) rfl k_) ?_
    obtain ⟨T103, h103, X103, e103, W103, st103⟩ := own_bas X99 hx hZ e99 V99 (j := (0 : Int32)) (by decide) (by decide) (g := (mkF m 55 #[.val (.int qa), .val (.int x0), .val (.int x1), .val (.int x2), .val (.int x3), .val (.ref b1), .val (.int (3 : Int32)), .val (.int ad), .val (.ref b99), .unset, .unset, .unset, .unset, .unset] [(.int ad), (.int (0 : Int32)), (.ref b99)])) rfl rfl (hb hby at_55)
    refine own_by (T' := T103) (g' := (mkF m 56 #[.val (.int qa), .val (.int x0), .val (.int x1), .val (.int x2), .val (.int x3), .val (.ref b1), .val (.int (3 : Int32)), .val (.int ad), .val (.ref b99), .unset, .unset, .unset, .unset, .unset] [])) st103 ?_
    have N103 := Fr.snoc X103 N12 g_b99
    have f104 := Nat.le_trans f101 (Keep.of_wr W103).1
    have f105 := own_Ia_other W103 f102 ne100
    have V106 : own_Ia Z h103 b99 .byte 1 (fun i => if i = 0 then (nar .byte ad) else (fun _ => (0 : Int32)) i) := own_Ia_set W103 V99 (fits_nar_byte _)
    obtain ⟨T107, h107, X107, e107, E107, A107, D107, -, st107⟩ := newO X103 hx hZ hown (hw _ (List.mem_of_getElem? (i := 2) rfl)) (hw _ (List.mem_of_getElem? (i := 3) rfl)) (hw _ (List.mem_of_getElem? (i := 4) rfl)) e103 (g := (mkF m 56 #[.val (.int qa), .val (.int x0), .val (.int x1), .val (.int x2), .val (.int x3), .val (.ref b1), .val (.int (3 : Int32)), .val (.int ad), .val (.ref b99), .unset, .unset, .unset, .unset, .unset] [])) rfl (hb hby at_56) (by decide) (by decide)
    obtain ⟨b107, g107⟩ : ∃ z, z = h103.size := ⟨_, rfl⟩
    rw [← g107] at A107 D107 st107
    have g_b107 : n0 ≤ b107 := Nat.le_trans f104 (Nat.le_of_eq g107.symm)
    have ne108 : b1 ≠ b107 := Nat.ne_of_lt (Nat.lt_of_lt_of_le (own_Ia_lt f105) (Nat.le_of_eq g107.symm))
    have ne109 : b99 ≠ b107 := Nat.ne_of_lt (Nat.lt_of_lt_of_le (own_Ia_lt V106) (Nat.le_of_eq g107.symm))
    have f110 := Nat.le_trans f104 E107.1
    have f111 := own_Ia_ext E107 f105
    have f112 := own_Ia_ext E107 V106
    have F107_bytes : Fld Z h107 b107 "com/example/rowgate/rowgate/StoredValue" "bytes" "[B" .null := D107 (Or.inr (hw _ (List.mem_of_getElem? (i := 12) rfl))) (ty := (.array .byte)) (by decide)
    have F107_file : Fld Z h107 b107 "com/example/rowgate/rowgate/StoredValue" "file" "Lcom/example/rowgate/rowgate/StoredValue$FileBytes;" .null := D107 (Or.inr (hw _ (List.mem_of_getElem? (i := 14) rfl))) (ty := (.object "com/example/rowgate/rowgate/StoredValue$FileBytes")) (by decide)
    have F107_offset : Fld Z h107 b107 "com/example/rowgate/rowgate/StoredValue" "offset" "J" (.long (0 : Int64)) := D107 (Or.inr (hw _ (List.mem_of_getElem? (i := 16) rfl))) (ty := .long) (by decide)
    have F107_length : Fld Z h107 b107 "com/example/rowgate/rowgate/StoredValue" "length" "I" (.int (0 : Int32)) := D107 (Or.inr (hw _ (List.mem_of_getElem? (i := 18) rfl))) (ty := .int) (by decide)
    refine own_by (T' := T107) (g' := (mkF m 59 #[.val (.int qa), .val (.int x0), .val (.int x1), .val (.int x2), .val (.int x3), .val (.ref b1), .val (.int (3 : Int32)), .val (.int ad), .val (.ref b99), .unset, .unset, .unset, .unset, .unset] [(.ref b107)])) st107 ?_
    refine own_by (T' := T107) (g' := (mkF m 60 #[.val (.int qa), .val (.int x0), .val (.int x1), .val (.int x2), .val (.int x3), .val (.ref b1), .val (.int (3 : Int32)), .val (.int ad), .val (.ref b99), .unset, .unset, .unset, .unset, .unset] [(.ref b107), (.ref b107)])) (fun t_ k_ => XS.dup X107.here hx rfl (hb hby at_59) rfl rfl k_) ?_
    refine own_by (T' := T107) (g' := (mkF m 62 #[.val (.int qa), .val (.int x0), .val (.int x1), .val (.int x2), .val (.int x3), .val (.ref b1), .val (.int (3 : Int32)), .val (.int ad), .val (.ref b99), .unset, .unset, .unset, .unset, .unset] [(.ref b1), (.ref b107), (.ref b107)])) (fun t_ k_ => XS.aload X107.here hx rfl (hb hby at_60) rfl rfl k_) ?_
    refine own_by (T' := T107) (g' := (mkF m 64 #[.val (.int qa), .val (.int x0), .val (.int x1), .val (.int x2), .val (.int x3), .val (.ref b1), .val (.int (3 : Int32)), .val (.int ad), .val (.ref b99), .unset, .unset, .unset, .unset, .unset] [(.int (3 : Int32)), (.ref b1), (.ref b107), (.ref b107)])) (fun t_ k_ => XS.iload X107.here hx rfl (hb hby at_62) rfl k_) ?_
    obtain ⟨_, T113, L113, X113, hQ113, st113⟩ := own_callI X107 hx hZ (y := (⟨"com/example/rowgate/rowgate/StoredValue", "<init>", "([BI)V"⟩ : MethodName)) rfl hown (hw _ (List.mem_of_getElem? (i := 5) rfl)) (hw _ (List.mem_of_getElem? (i := 6) rfl)) (hw _ (List.mem_of_getElem? (i := 4) rfl)) (hw _ (List.mem_of_getElem? (i := 7) rfl)) (by decide) (argsL := [(.ref b1), (.int (3 : Int32))]) (rest := [(.ref b107)]) (own_rm_svI l Z a0 hw [] b107 b1 (3 : Int32) h107 n0 f110 A107 g_b107 F107_bytes F107_file F107_offset F107_length) e107 (W := 1) (by decide) (by decide) (by decide) (by decide) (g := (mkF m 64 #[.val (.int qa), .val (.int x0), .val (.int x1), .val (.int x2), .val (.int x3), .val (.ref b1), .val (.int (3 : Int32)), .val (.int ad), .val (.ref b99), .unset, .unset, .unset, .unset, .unset] [(.int (3 : Int32)), (.ref b1), (.ref b107), (.ref b107)])) rfl (by rw [hml]; rfl) (lenOf own_pd1 rfl) rfl (by show 2 * 0 + _ ≤ _; exact Nat.le_of_eq rfl) (hb hby at_64)
    obtain ⟨rfl, Nq113, Kq113, Eq113, Fq113_bytes, Fq113_file, Fq113_offset, Fq113_length⟩ := hQ113
    have N113 := Fr.app N103 Nq113
    have f114 := Nat.le_trans f110 Kq113.1
    have f115 := own_Ia_keep Kq113 f111 (ninS ne108 nin0)
    have f116 := own_Ia_keep Kq113 f112 (ninS ne109 nin0)
    have f117 := Exa.keep A107 Kq113
    refine st113 _ ?_
    show own_Goes p e below _ T113 (mkF m 67 #[.val (.int qa), .val (.int x0), .val (.int x1), .val (.int x2), .val (.int x3), .val (.ref b1), .val (.int (3 : Int32)), .val (.int ad), .val (.ref b99), .unset, .unset, .unset, .unset, .unset] [(.ref b107)])
    refine own_by (T' := T113) (g' := (mkF m 69 #[.val (.int qa), .val (.int x0), .val (.int x1), .val (.int x2), .val (.int x3), .val (.ref b1), .val (.int (3 : Int32)), .val (.int ad), .val (.ref b99), .val (.ref b107), .unset, .unset, .unset, .unset] [])) (fun t_ k_ => XS.astore X113.here hx rfl (hb hby at_67) rfl rfl (l' := #[.val (.int qa), .val (.int x0), .val (.int x1), .val (.int x2), .val (.int x3), .val (.ref b1), .val (.int (3 : Int32)), .val (.int ad), .val (.ref b99), .val (.ref b107), .unset, .unset, .unset, .unset]) rfl k_) ?_
    refine own_by (T' := T113) (g' := (mkF m 71 #[.val (.int qa), .val (.int x0), .val (.int x1), .val (.int x2), .val (.int x3), .val (.ref b1), .val (.int (3 : Int32)), .val (.int ad), .val (.ref b99), .val (.ref b107), .unset, .unset, .unset, .unset] [(.ref b107)])) (fun t_ k_ => XS.aload X113.here hx rfl (hb hby at_69) rfl rfl k_) ?_
    obtain ⟨_, T118, L118, X118, hQ118, st118⟩ := own_callV X113 hx hZ (y := (⟨"com/example/rowgate/rowgate/StoredValue", "array", "()[B"⟩ : MethodName)) hown (hw _ (List.mem_of_getElem? (i := 19) rfl)) (hw _ (List.mem_of_getElem? (i := 20) rfl)) (hw _ (List.mem_of_getElem? (i := 22) rfl)) (hw _ (List.mem_of_getElem? (i := 21) rfl)) (hw _ (List.mem_of_getElem? (i := 4) rfl)) (hw _ (List.mem_of_getElem? (i := 23) rfl)) (by decide) (argsL := []) (rest := []) f117 (own_rm_ar l Z a0 hw [] b107 b1 T113.heap n0 f114 Fq113_bytes) rfl (W := 0) (by decide) (by decide) (by decide) (by decide) (g := (mkF m 71 #[.val (.int qa), .val (.int x0), .val (.int x1), .val (.int x2), .val (.int x3), .val (.ref b1), .val (.int (3 : Int32)), .val (.int ad), .val (.ref b99), .val (.ref b107), .unset, .unset, .unset, .unset] [(.ref b107)])) rfl (by rw [hml]; rfl) (lenOf own_pd4 rfl) rfl (by show 2 * 0 + _ ≤ _; exact Nat.le_of_eq rfl) (hb hby at_71)
    obtain ⟨rfl, Nq118, e118⟩ := hQ118
    have N118 := Fr.app N113 Nq118
    refine st118 _ ?_
    show own_Goes p e below _ T118 (mkF m 74 #[.val (.int qa), .val (.int x0), .val (.int x1), .val (.int x2), .val (.int x3), .val (.ref b1), .val (.int (3 : Int32)), .val (.int ad), .val (.ref b99), .val (.ref b107), .unset, .unset, .unset, .unset] [(.ref b1)])
    refine own_by (T' := T118) (g' := (mkF m 76 #[.val (.int qa), .val (.int x0), .val (.int x1), .val (.int x2), .val (.int x3), .val (.ref b1), .val (.int (3 : Int32)), .val (.int ad), .val (.ref b99), .val (.ref b107), .val (.ref b1), .unset, .unset, .unset] [])) (fun t_ k_ => XS.astore X118.here hx rfl (hb hby at_74) rfl rfl (l' := #[.val (.int qa), .val (.int x0), .val (.int x1), .val (.int x2), .val (.int x3), .val (.ref b1), .val (.int (3 : Int32)), .val (.int ad), .val (.ref b99), .val (.ref b107), .val (.ref b1), .unset, .unset, .unset]) rfl k_) ?_
    refine own_by (T' := T118) (g' := (mkF m 78 #[.val (.int qa), .val (.int x0), .val (.int x1), .val (.int x2), .val (.int x3), .val (.ref b1), .val (.int (3 : Int32)), .val (.int ad), .val (.ref b99), .val (.ref b107), .val (.ref b1), .unset, .unset, .unset] [(.ref b1)])) (fun t_ k_ => XS.aload X118.here hx rfl (hb hby at_76) rfl rfl k_) ?_
    refine own_by (T' := T118) (g' := (mkF m 80 #[.val (.int qa), .val (.int x0), .val (.int x1), .val (.int x2), .val (.int x3), .val (.ref b1), .val (.int (3 : Int32)), .val (.int ad), .val (.ref b99), .val (.ref b107), .val (.ref b1), .unset, .unset, .unset] [(.ref b1), (.ref b1)])) (fun t_ k_ => XS.aload X118.here hx rfl (hb hby at_78) rfl rfl k_) ?_
    refine own_by (T' := T118) (g' := (mkF m 83 #[.val (.int qa), .val (.int x0), .val (.int x1), .val (.int x2), .val (.int x3), .val (.ref b1), .val (.int (3 : Int32)), .val (.int ad), .val (.ref b99), .val (.ref b107), .val (.ref b1), .unset, .unset, .unset] [])) (fun t_ k_ => Jvm.RoadKit.acmp (g := (mkF m 80 #[.val (.int qa), .val (.int x0), .val (.int x1), .val (.int x2), .val (.int x3), .val (.ref b1), .val (.int (3 : Int32)), .val (.int ad), .val (.ref b99), .val (.ref b107), .val (.ref b1), .unset, .unset, .unset] [(.ref b1), (.ref b1)])) X118 hx rfl rfl rfl (pc0 := 80) (pc' := 83) (same := true) rfl (hb hby at_80) rfl (decide_eq_true rfl) (by decide) (by decide) k_) ?_
    refine own_by (T' := T118) (g' := (mkF m 85 #[.val (.int qa), .val (.int x0), .val (.int x1), .val (.int x2), .val (.int x3), .val (.ref b1), .val (.int (3 : Int32)), .val (.int ad), .val (.ref b99), .val (.ref b107), .val (.ref b1), .unset, .unset, .unset] [(.ref b1)])) (fun t_ k_ => XS.aload X118.here hx rfl (hb hby at_83) rfl rfl k_) ?_
    refine own_by (T' := T118) (g' := (mkF m 86 #[.val (.int qa), .val (.int x0), .val (.int x1), .val (.int x2), .val (.int x3), .val (.ref b1), .val (.int (3 : Int32)), .val (.int ad), .val (.ref b99), .val (.ref b107), .val (.ref b1), .unset, .unset, .unset] [(.int (4 : Int32))])) (fun t_ k_ => own_alen X118 hx hZ e118 f115 (z := (4 : Int32)) rfl (g := (mkF m 85 #[.val (.int qa), .val (.int x0), .val (.int x1), .val (.int x2), .val (.int x3), .val (.ref b1), .val (.int (3 : Int32)), .val (.int ad), .val (.ref b99), .val (.ref b107), .val (.ref b1), .unset, .unset, .unset] [(.ref b1)])) rfl rfl (hb hby at_85) _ k_) ?_
    refine own_by (T' := T118) (g' := (mkF m 87 #[.val (.int qa), .val (.int x0), .val (.int x1), .val (.int x2), .val (.int x3), .val (.ref b1), .val (.int (3 : Int32)), .val (.int ad), .val (.ref b99), .val (.ref b107), .val (.ref b1), .unset, .unset, .unset] [(.int (4 : Int32)), (.int (4 : Int32))])) (fun t_ k_ => XS.iconst X118.here hx rfl (hb hby at_86) k_) ?_
    refine own_by (T' := T118) (g' := (mkF m 90 #[.val (.int qa), .val (.int x0), .val (.int x1), .val (.int x2), .val (.int x3), .val (.ref b1), .val (.int (3 : Int32)), .val (.int ad), .val (.ref b99), .val (.ref b107), .val (.ref b1), .unset, .unset, .unset] [])) (fun t_ k_ => XS.icmpNo X118.here hx rfl (hb hby at_87) rfl (teq ((by decide) : (4 : Int32) = (4 : Int32))).2 k_) ?_
    refine own_by (T' := T118) (g' := (mkF m 92 #[.val (.int qa), .val (.int x0), .val (.int x1), .val (.int x2), .val (.int x3), .val (.ref b1), .val (.int (3 : Int32)), .val (.int ad), .val (.ref b99), .val (.ref b107), .val (.ref b1), .unset, .unset, .unset] [(.ref b1)])) (fun t_ k_ => XS.aload X118.here hx rfl (hb hby at_90) rfl rfl k_) ?_
    refine own_by (T' := T118) (g' := (mkF m 93 #[.val (.int qa), .val (.int x0), .val (.int x1), .val (.int x2), .val (.int x3), .val (.ref b1), .val (.int (3 : Int32)), .val (.int ad), .val (.ref b99), .val (.ref b107), .val (.ref b1), .unset, .unset, .unset] [(.int x0), (.ref b1)])) (fun t_ k_ => XS.iloadN X118.here hx rfl (hb hby at_92) rfl k_) ?_
    refine own_by (T' := T118) (g' := (mkF m 94 #[.val (.int qa), .val (.int x0), .val (.int x1), .val (.int x2), .val (.int x3), .val (.ref b1), .val (.int (3 : Int32)), .val (.int ad), .val (.ref b99), .val (.ref b107), .val (.ref b1), .unset, .unset, .unset] [(.int x1), (.int x0), (.ref b1)])) (fun t_ k_ => XS.iloadN X118.here hx rfl (hb hby at_93) rfl k_) ?_
    refine own_by (T' := T118) (g' := (mkF m 95 #[.val (.int qa), .val (.int x0), .val (.int x1), .val (.int x2), .val (.int x3), .val (.ref b1), .val (.int (3 : Int32)), .val (.int ad), .val (.ref b99), .val (.ref b107), .val (.ref b1), .unset, .unset, .unset] [(.int x2), (.int x1), (.int x0), (.ref b1)])) (fun t_ k_ => XS.iloadN X118.here hx rfl (hb hby at_94) rfl k_) ?_
    refine own_by (T' := T118) (g' := (mkF m 97 #[.val (.int qa), .val (.int x0), .val (.int x1), .val (.int x2), .val (.int x3), .val (.ref b1), .val (.int (3 : Int32)), .val (.int ad), .val (.ref b99), .val (.ref b107), .val (.ref b1), .unset, .unset, .unset] [(.int x3), (.int x2), (.int x1), (.int x0), (.ref b1)])) (fun t_ k_ => XS.iload X118.here hx rfl (hb hby at_95) rfl k_) ?_
    obtain ⟨_, T119, L119, X119, hQ119, st119⟩ := own_callS X118 hx hZ (y := (⟨"com/example/rowgate/rowgate/StoredValueArrayPinLaw", "same", "([BIIII)Z"⟩ : MethodName)) hown (hw _ (List.mem_of_getElem? (i := 24) rfl)) (hw _ (List.mem_of_getElem? (i := 25) rfl)) (hw _ (List.mem_of_getElem? (i := 26) rfl)) (hw _ (List.mem_of_getElem? (i := 27) rfl)) (by decide) (argsL := [(.ref b1), (.int x0), (.int x1), (.int x2), (.int x3)]) (rest := []) (own_rm_sm l Z a0 hw [] b1 x0 x1 x2 x3 4 (own_b4 x0 x1 x2 x3) T113.heap n0 f114 f115 (by decide) rfl rfl rfl rfl) e118 (W := 0) (by decide) (by decide) (by decide) (by decide) (g := (mkF m 97 #[.val (.int qa), .val (.int x0), .val (.int x1), .val (.int x2), .val (.int x3), .val (.ref b1), .val (.int (3 : Int32)), .val (.int ad), .val (.ref b99), .val (.ref b107), .val (.ref b1), .unset, .unset, .unset] [(.int x3), (.int x2), (.int x1), (.int x0), (.ref b1)])) rfl (by rw [hml]; rfl) (lenOf own_pd5 rfl) rfl (by show 2 * 0 + _ ≤ _; exact Nat.le_of_eq rfl) (hb hby at_97)
    obtain ⟨rfl, Nq119, e119⟩ := hQ119
    have N119 := Fr.app N118 Nq119
    refine st119 _ ?_
    show own_Goes p e below _ T119 (mkF m 100 #[.val (.int qa), .val (.int x0), .val (.int x1), .val (.int x2), .val (.int x3), .val (.ref b1), .val (.int (3 : Int32)), .val (.int ad), .val (.ref b99), .val (.ref b107), .val (.ref b1), .unset, .unset, .unset] [(.int (1 : Int32))])
    refine own_by (T' := T119) (g' := (mkF m 103 #[.val (.int qa), .val (.int x0), .val (.int x1), .val (.int x2), .val (.int x3), .val (.ref b1), .val (.int (3 : Int32)), .val (.int ad), .val (.ref b99), .val (.ref b107), .val (.ref b1), .unset, .unset, .unset] [])) (fun t_ k_ => XS.ifNo X119.here hx rfl (hb hby at_100) rfl ((if0 _ _).trans (feq ((by decide) : ¬ ((1 : Int32) = (0 : Int32)))).1) k_) ?_
    refine own_by (T' := T119) (g' := (mkF m 105 #[.val (.int qa), .val (.int x0), .val (.int x1), .val (.int x2), .val (.int x3), .val (.ref b1), .val (.int (3 : Int32)), .val (.int ad), .val (.ref b99), .val (.ref b107), .val (.ref b1), .unset, .unset, .unset] [(.ref b107)])) (fun t_ k_ => XS.aload X119.here hx rfl (hb hby at_103) rfl rfl k_) ?_
    obtain ⟨_, T120, L120, X120, hQ120, st120⟩ := own_callV X119 hx hZ (y := (⟨"com/example/rowgate/rowgate/StoredValue", "length", "()I"⟩ : MethodName)) hown (hw _ (List.mem_of_getElem? (i := 28) rfl)) (hw _ (List.mem_of_getElem? (i := 29) rfl)) (hw _ (List.mem_of_getElem? (i := 31) rfl)) (hw _ (List.mem_of_getElem? (i := 30) rfl)) (hw _ (List.mem_of_getElem? (i := 4) rfl)) (hw _ (List.mem_of_getElem? (i := 32) rfl)) (by decide) (argsL := []) (rest := []) f117 (own_rm_le l Z a0 hw [] b107 (3 : Int32) T113.heap n0 f114 Fq113_length) e119 (W := 0) (by decide) (by decide) (by decide) (by decide) (g := (mkF m 105 #[.val (.int qa), .val (.int x0), .val (.int x1), .val (.int x2), .val (.int x3), .val (.ref b1), .val (.int (3 : Int32)), .val (.int ad), .val (.ref b99), .val (.ref b107), .val (.ref b1), .unset, .unset, .unset] [(.ref b107)])) rfl (by rw [hml]; rfl) (lenOf own_pd6 rfl) rfl (by show 2 * 0 + _ ≤ _; exact Nat.le_of_eq rfl) (hb hby at_105)
    obtain ⟨rfl, Nq120, e120⟩ := hQ120
    have N120 := Fr.app N119 Nq120
    refine st120 _ ?_
    show own_Goes p e below _ T120 (mkF m 108 #[.val (.int qa), .val (.int x0), .val (.int x1), .val (.int x2), .val (.int x3), .val (.ref b1), .val (.int (3 : Int32)), .val (.int ad), .val (.ref b99), .val (.ref b107), .val (.ref b1), .unset, .unset, .unset] [(.int (3 : Int32))])
    refine own_by (T' := T120) (g' := (mkF m 110 #[.val (.int qa), .val (.int x0), .val (.int x1), .val (.int x2), .val (.int x3), .val (.ref b1), .val (.int (3 : Int32)), .val (.int ad), .val (.ref b99), .val (.ref b107), .val (.ref b1), .unset, .unset, .unset] [(.int (3 : Int32)), (.int (3 : Int32))])) (fun t_ k_ => XS.iload X120.here hx rfl (hb hby at_108) rfl k_) ?_
    refine own_by (T' := T120) (g' := (mkF m 113 #[.val (.int qa), .val (.int x0), .val (.int x1), .val (.int x2), .val (.int x3), .val (.ref b1), .val (.int (3 : Int32)), .val (.int ad), .val (.ref b99), .val (.ref b107), .val (.ref b1), .unset, .unset, .unset] [])) (fun t_ k_ => XS.icmpNo X120.here hx rfl (hb hby at_110) rfl (teq ((by decide) : (3 : Int32) = (3 : Int32))).2 k_) ?_
    refine own_by (T' := T120) (g' := (mkF m 114 #[.val (.int qa), .val (.int x0), .val (.int x1), .val (.int x2), .val (.int x3), .val (.ref b1), .val (.int (3 : Int32)), .val (.int ad), .val (.ref b99), .val (.ref b107), .val (.ref b1), .unset, .unset, .unset] [(.int (1 : Int32))])) (fun t_ k_ => XS.iconst X120.here hx rfl (hb hby at_113) k_) ?_
    refine own_by (T' := T120) (g' := (mkF m 118 #[.val (.int qa), .val (.int x0), .val (.int x1), .val (.int x2), .val (.int x3), .val (.ref b1), .val (.int (3 : Int32)), .val (.int ad), .val (.ref b99), .val (.ref b107), .val (.ref b1), .unset, .unset, .unset] [(.int (1 : Int32))])) (fun t_ k_ => XS.goto X120.here hx rfl (pc0 := 114) (pc' := 118) rfl (hb hby at_114) (by decide) (by decide) k_) ?_
    refine own_by (T' := T120) (g' := (mkF m 120 #[.val (.int qa), .val (.int x0), .val (.int x1), .val (.int x2), .val (.int x3), .val (.ref b1), .val (.int (3 : Int32)), .val (.int ad), .val (.ref b99), .val (.ref b107), .val (.ref b1), .val (.int (1 : Int32)), .unset, .unset] [])) (fun t_ k_ => XS.istore X120.here hx rfl (hb hby at_118) rfl (l' := #[.val (.int qa), .val (.int x0), .val (.int x1), .val (.int x2), .val (.int x3), .val (.ref b1), .val (.int (3 : Int32)), .val (.int ad), .val (.ref b99), .val (.ref b107), .val (.ref b1), .val (.int (1 : Int32)), .unset, .unset]) rfl k_) ?_
    refine own_by (T' := T120) (g' := (mkF m 122 #[.val (.int qa), .val (.int x0), .val (.int x1), .val (.int x2), .val (.int x3), .val (.ref b1), .val (.int (3 : Int32)), .val (.int ad), .val (.ref b99), .val (.ref b107), .val (.ref b1), .val (.int (1 : Int32)), .unset, .unset] [(.ref b107)])) (fun t_ k_ => XS.aload X120.here hx rfl (hb hby at_120) rfl rfl k_) ?_
    refine own_by (T' := T120) (g' := (mkF m 124 #[.val (.int qa), .val (.int x0), .val (.int x1), .val (.int x2), .val (.int x3), .val (.ref b1), .val (.int (3 : Int32)), .val (.int ad), .val (.ref b99), .val (.ref b107), .val (.ref b1), .val (.int (1 : Int32)), .unset, .unset] [(.ref b99), (.ref b107)])) (fun t_ k_ => XS.aload X120.here hx rfl (hb hby at_122) rfl rfl k_) ?_
    obtain ⟨_, T121, L121, X121, hQ121, st121⟩ := own_callV X120 hx hZ (y := (⟨"com/example/rowgate/rowgate/StoredValue", "appended", "([B)Lcom/example/rowgate/rowgate/StoredValue;"⟩ : MethodName)) hown (hw _ (List.mem_of_getElem? (i := 33) rfl)) (hw _ (List.mem_of_getElem? (i := 34) rfl)) (hw _ (List.mem_of_getElem? (i := 36) rfl)) (hw _ (List.mem_of_getElem? (i := 35) rfl)) (hw _ (List.mem_of_getElem? (i := 4) rfl)) (hw _ (List.mem_of_getElem? (i := 37) rfl)) (by decide) (argsL := [(.ref b99)]) (rest := []) f117 (own_rm_ad3 l Z a0 hw [] b107 b99 b1 (own_b4 x0 x1 x2 x3) (fun i => if i = 0 then (nar .byte ad) else (fun _ => (0 : Int32)) i) T113.heap n0 f114 Fq113_bytes Fq113_length f117 f115 f116 g_b1 (Ne.symm ne108) (Ne.symm ne100)) e120 (W := 0) (by decide) (by decide) (by decide) (by decide) (g := (mkF m 124 #[.val (.int qa), .val (.int x0), .val (.int x1), .val (.int x2), .val (.int x3), .val (.ref b1), .val (.int (3 : Int32)), .val (.int ad), .val (.ref b99), .val (.ref b107), .val (.ref b1), .val (.int (1 : Int32)), .unset, .unset] [(.ref b99), (.ref b107)])) rfl (by rw [hml]; rfl) (lenOf own_pd7 rfl) rfl (by show 2 * 0 + _ ≤ _; exact Nat.le_of_eq rfl) (hb hby at_124)
    obtain ⟨ww, rfl, Nq121, Kq121, Ew, Fw1, Fw2, Vw⟩ := hQ121
    have N121 := Fr.app N120 Nq121
    have f122 := Nat.le_trans f114 Kq121.1
    have f123 := Exa.keep f117 Kq121
    refine st121 _ ?_
    show own_Goes p e below _ T121 (mkF m 127 #[.val (.int qa), .val (.int x0), .val (.int x1), .val (.int x2), .val (.int x3), .val (.ref b1), .val (.int (3 : Int32)), .val (.int ad), .val (.ref b99), .val (.ref b107), .val (.ref b1), .val (.int (1 : Int32)), .unset, .unset] [(.ref ww)])
    refine own_by (T' := T121) (g' := (mkF m 129 #[.val (.int qa), .val (.int x0), .val (.int x1), .val (.int x2), .val (.int x3), .val (.ref b1), .val (.int (3 : Int32)), .val (.int ad), .val (.ref b99), .val (.ref b107), .val (.ref b1), .val (.int (1 : Int32)), .val (.ref ww), .unset] [])) (fun t_ k_ => XS.astore X121.here hx rfl (hb hby at_127) rfl rfl (l' := #[.val (.int qa), .val (.int x0), .val (.int x1), .val (.int x2), .val (.int x3), .val (.ref b1), .val (.int (3 : Int32)), .val (.int ad), .val (.ref b99), .val (.ref b107), .val (.ref b1), .val (.int (1 : Int32)), .val (.ref ww), .unset]) rfl k_) ?_
    refine own_by (T' := T121) (g' := (mkF m 131 #[.val (.int qa), .val (.int x0), .val (.int x1), .val (.int x2), .val (.int x3), .val (.ref b1), .val (.int (3 : Int32)), .val (.int ad), .val (.ref b99), .val (.ref b107), .val (.ref b1), .val (.int (1 : Int32)), .val (.ref ww), .unset] [(.ref ww)])) (fun t_ k_ => XS.aload X121.here hx rfl (hb hby at_129) rfl rfl k_) ?_
    obtain ⟨_, T124, L124, X124, hQ124, st124⟩ := own_callV X121 hx hZ (y := (⟨"com/example/rowgate/rowgate/StoredValue", "array", "()[B"⟩ : MethodName)) hown (hw _ (List.mem_of_getElem? (i := 19) rfl)) (hw _ (List.mem_of_getElem? (i := 20) rfl)) (hw _ (List.mem_of_getElem? (i := 22) rfl)) (hw _ (List.mem_of_getElem? (i := 21) rfl)) (hw _ (List.mem_of_getElem? (i := 4) rfl)) (hw _ (List.mem_of_getElem? (i := 23) rfl)) (by decide) (argsL := []) (rest := []) Ew (own_rm_ar l Z a0 hw [] ww b1 T121.heap n0 f122 Fw1) rfl (W := 0) (by decide) (by decide) (by decide) (by decide) (g := (mkF m 131 #[.val (.int qa), .val (.int x0), .val (.int x1), .val (.int x2), .val (.int x3), .val (.ref b1), .val (.int (3 : Int32)), .val (.int ad), .val (.ref b99), .val (.ref b107), .val (.ref b1), .val (.int (1 : Int32)), .val (.ref ww), .unset] [(.ref ww)])) rfl (by rw [hml]; rfl) (lenOf own_pd4 rfl) rfl (by show 2 * 0 + _ ≤ _; exact Nat.le_of_eq rfl) (hb hby at_131)
    obtain ⟨rfl, Nq124, e124⟩ := hQ124
    have N124 := Fr.app N121 Nq124
    refine st124 _ ?_
    show own_Goes p e below _ T124 (mkF m 134 #[.val (.int qa), .val (.int x0), .val (.int x1), .val (.int x2), .val (.int x3), .val (.ref b1), .val (.int (3 : Int32)), .val (.int ad), .val (.ref b99), .val (.ref b107), .val (.ref b1), .val (.int (1 : Int32)), .val (.ref ww), .unset] [(.ref b1)])
    refine own_by (T' := T124) (g' := (mkF m 136 #[.val (.int qa), .val (.int x0), .val (.int x1), .val (.int x2), .val (.int x3), .val (.ref b1), .val (.int (3 : Int32)), .val (.int ad), .val (.ref b99), .val (.ref b107), .val (.ref b1), .val (.int (1 : Int32)), .val (.ref ww), .val (.ref b1)] [])) (fun t_ k_ => XS.astore X124.here hx rfl (hb hby at_134) rfl rfl (l' := #[.val (.int qa), .val (.int x0), .val (.int x1), .val (.int x2), .val (.int x3), .val (.ref b1), .val (.int (3 : Int32)), .val (.int ad), .val (.ref b99), .val (.ref b107), .val (.ref b1), .val (.int (1 : Int32)), .val (.ref ww), .val (.ref b1)]) rfl k_) ?_
    refine own_by (T' := T124) (g' := (mkF m 138 #[.val (.int qa), .val (.int x0), .val (.int x1), .val (.int x2), .val (.int x3), .val (.ref b1), .val (.int (3 : Int32)), .val (.int ad), .val (.ref b99), .val (.ref b107), .val (.ref b1), .val (.int (1 : Int32)), .val (.ref ww), .val (.ref b1)] [(.int (1 : Int32))])) (fun t_ k_ => XS.iload X124.here hx rfl (hb hby at_136) rfl k_) ?_
    refine own_by (T' := T124) (g' := (mkF m 141 #[.val (.int qa), .val (.int x0), .val (.int x1), .val (.int x2), .val (.int x3), .val (.ref b1), .val (.int (3 : Int32)), .val (.int ad), .val (.ref b99), .val (.ref b107), .val (.ref b1), .val (.int (1 : Int32)), .val (.ref ww), .val (.ref b1)] [])) (fun t_ k_ => XS.ifNo X124.here hx rfl (hb hby at_138) rfl ((if0 _ _).trans (feq ((by decide) : ¬ ((1 : Int32) = (0 : Int32)))).1) k_) ?_
    refine own_by (T' := T124) (g' := (mkF m 143 #[.val (.int qa), .val (.int x0), .val (.int x1), .val (.int x2), .val (.int x3), .val (.ref b1), .val (.int (3 : Int32)), .val (.int ad), .val (.ref b99), .val (.ref b107), .val (.ref b1), .val (.int (1 : Int32)), .val (.ref ww), .val (.ref b1)] [(.ref ww)])) (fun t_ k_ => XS.aload X124.here hx rfl (hb hby at_141) rfl rfl k_) ?_
    obtain ⟨_, T125, L125, X125, hQ125, st125⟩ := own_callV X124 hx hZ (y := (⟨"com/example/rowgate/rowgate/StoredValue", "length", "()I"⟩ : MethodName)) hown (hw _ (List.mem_of_getElem? (i := 28) rfl)) (hw _ (List.mem_of_getElem? (i := 29) rfl)) (hw _ (List.mem_of_getElem? (i := 31) rfl)) (hw _ (List.mem_of_getElem? (i := 30) rfl)) (hw _ (List.mem_of_getElem? (i := 4) rfl)) (hw _ (List.mem_of_getElem? (i := 32) rfl)) (by decide) (argsL := []) (rest := []) Ew (own_rm_le l Z a0 hw [] ww (4 : Int32) T121.heap n0 f122 Fw2) e124 (W := 0) (by decide) (by decide) (by decide) (by decide) (g := (mkF m 143 #[.val (.int qa), .val (.int x0), .val (.int x1), .val (.int x2), .val (.int x3), .val (.ref b1), .val (.int (3 : Int32)), .val (.int ad), .val (.ref b99), .val (.ref b107), .val (.ref b1), .val (.int (1 : Int32)), .val (.ref ww), .val (.ref b1)] [(.ref ww)])) rfl (by rw [hml]; rfl) (lenOf own_pd6 rfl) rfl (by show 2 * 0 + _ ≤ _; exact Nat.le_of_eq rfl) (hb hby at_143)
    obtain ⟨rfl, Nq125, e125⟩ := hQ125
    have N125 := Fr.app N124 Nq125
    refine st125 _ ?_
    show own_Goes p e below _ T125 (mkF m 146 #[.val (.int qa), .val (.int x0), .val (.int x1), .val (.int x2), .val (.int x3), .val (.ref b1), .val (.int (3 : Int32)), .val (.int ad), .val (.ref b99), .val (.ref b107), .val (.ref b1), .val (.int (1 : Int32)), .val (.ref ww), .val (.ref b1)] [(.int (4 : Int32))])
    refine own_by (T' := T125) (g' := (mkF m 148 #[.val (.int qa), .val (.int x0), .val (.int x1), .val (.int x2), .val (.int x3), .val (.ref b1), .val (.int (3 : Int32)), .val (.int ad), .val (.ref b99), .val (.ref b107), .val (.ref b1), .val (.int (1 : Int32)), .val (.ref ww), .val (.ref b1)] [(.int (3 : Int32)), (.int (4 : Int32))])) (fun t_ k_ => XS.iload X125.here hx rfl (hb hby at_146) rfl k_) ?_
    refine own_by (T' := T125) (g' := (mkF m 149 #[.val (.int qa), .val (.int x0), .val (.int x1), .val (.int x2), .val (.int x3), .val (.ref b1), .val (.int (3 : Int32)), .val (.int ad), .val (.ref b99), .val (.ref b107), .val (.ref b1), .val (.int (1 : Int32)), .val (.ref ww), .val (.ref b1)] [(.int (1 : Int32)), (.int (3 : Int32)), (.int (4 : Int32))])) (fun t_ k_ => XS.iconst X125.here hx rfl (hb hby at_148) k_) ?_
    refine own_by (T' := T125) (g' := (mkF m 150 #[.val (.int qa), .val (.int x0), .val (.int x1), .val (.int x2), .val (.int x3), .val (.ref b1), .val (.int (3 : Int32)), .val (.int ad), .val (.ref b99), .val (.ref b107), .val (.ref b1), .val (.int (1 : Int32)), .val (.ref ww), .val (.ref b1)] [(.int (4 : Int32)), (.int (4 : Int32))])) (fun t_ k_ => XS.iadd X125.here hx rfl (hb hby at_149) rfl k_) ?_
    refine own_by (T' := T125) (g' := (mkF m 153 #[.val (.int qa), .val (.int x0), .val (.int x1), .val (.int x2), .val (.int x3), .val (.ref b1), .val (.int (3 : Int32)), .val (.int ad), .val (.ref b99), .val (.ref b107), .val (.ref b1), .val (.int (1 : Int32)), .val (.ref ww), .val (.ref b1)] [])) (fun t_ k_ => XS.icmpNo X125.here hx rfl (hb hby at_150) rfl (teq ((by decide) : (4 : Int32) = (4 : Int32))).2 k_) ?_
    refine own_by (T' := T125) (g' := (mkF m 154 #[.val (.int qa), .val (.int x0), .val (.int x1), .val (.int x2), .val (.int x3), .val (.ref b1), .val (.int (3 : Int32)), .val (.int ad), .val (.ref b99), .val (.ref b107), .val (.ref b1), .val (.int (1 : Int32)), .val (.ref ww), .val (.ref b1)] [(.int (1 : Int32))])) (fun t_ k_ => XS.iconst X125.here hx rfl (hb hby at_153) k_) ?_
    refine own_by (T' := T125) (g' := (mkF m 158 #[.val (.int qa), .val (.int x0), .val (.int x1), .val (.int x2), .val (.int x3), .val (.ref b1), .val (.int (3 : Int32)), .val (.int ad), .val (.ref b99), .val (.ref b107), .val (.ref b1), .val (.int (1 : Int32)), .val (.ref ww), .val (.ref b1)] [(.int (1 : Int32))])) (fun t_ k_ => XS.goto X125.here hx rfl (pc0 := 154) (pc' := 158) rfl (hb hby at_154) (by decide) (by decide) k_) ?_
    refine own_by (T' := T125) (g' := (mkF m 160 #[.val (.int qa), .val (.int x0), .val (.int x1), .val (.int x2), .val (.int x3), .val (.ref b1), .val (.int (3 : Int32)), .val (.int ad), .val (.ref b99), .val (.ref b107), .val (.ref b1), .val (.int (1 : Int32)), .val (.ref ww), .val (.ref b1)] [])) (fun t_ k_ => XS.istore X125.here hx rfl (hb hby at_158) rfl (l' := #[.val (.int qa), .val (.int x0), .val (.int x1), .val (.int x2), .val (.int x3), .val (.ref b1), .val (.int (3 : Int32)), .val (.int ad), .val (.ref b99), .val (.ref b107), .val (.ref b1), .val (.int (1 : Int32)), .val (.ref ww), .val (.ref b1)]) rfl k_) ?_
    refine own_by (T' := T125) (g' := (mkF m 162 #[.val (.int qa), .val (.int x0), .val (.int x1), .val (.int x2), .val (.int x3), .val (.ref b1), .val (.int (3 : Int32)), .val (.int ad), .val (.ref b99), .val (.ref b107), .val (.ref b1), .val (.int (1 : Int32)), .val (.ref ww), .val (.ref b1)] [(.int (3 : Int32))])) (fun t_ k_ => XS.iload X125.here hx rfl (hb hby at_160) rfl k_) ?_
    refine own_by (T' := T125) (g' := (mkF m 163 #[.val (.int qa), .val (.int x0), .val (.int x1), .val (.int x2), .val (.int x3), .val (.ref b1), .val (.int (3 : Int32)), .val (.int ad), .val (.ref b99), .val (.ref b107), .val (.ref b1), .val (.int (1 : Int32)), .val (.ref ww), .val (.ref b1)] [(.int (4 : Int32)), (.int (3 : Int32))])) (fun t_ k_ => XS.iconst X125.here hx rfl (hb hby at_162) k_) ?_
    refine own_by (T' := T125) (g' := (mkF m 166 #[.val (.int qa), .val (.int x0), .val (.int x1), .val (.int x2), .val (.int x3), .val (.ref b1), .val (.int (3 : Int32)), .val (.int ad), .val (.ref b99), .val (.ref b107), .val (.ref b1), .val (.int (1 : Int32)), .val (.ref ww), .val (.ref b1)] [])) (fun t_ k_ => XS.icmpNo X125.here hx rfl (hb hby at_163) rfl (tlt ((by decide) : (3 : Int32) < (4 : Int32))).2.1 k_) ?_
    refine own_by (T' := T125) (g' := (mkF m 168 #[.val (.int qa), .val (.int x0), .val (.int x1), .val (.int x2), .val (.int x3), .val (.ref b1), .val (.int (3 : Int32)), .val (.int ad), .val (.ref b99), .val (.ref b107), .val (.ref b1), .val (.int (1 : Int32)), .val (.ref ww), .val (.ref b1)] [(.int (1 : Int32))])) (fun t_ k_ => XS.iload X125.here hx rfl (hb hby at_166) rfl k_) ?_
    refine own_by (T' := T125) (g' := (mkF m 171 #[.val (.int qa), .val (.int x0), .val (.int x1), .val (.int x2), .val (.int x3), .val (.ref b1), .val (.int (3 : Int32)), .val (.int ad), .val (.ref b99), .val (.ref b107), .val (.ref b1), .val (.int (1 : Int32)), .val (.ref ww), .val (.ref b1)] [])) (fun t_ k_ => XS.ifNo X125.here hx rfl (hb hby at_168) rfl ((if0 _ _).trans (feq ((by decide) : ¬ ((1 : Int32) = (0 : Int32)))).1) k_) ?_
    refine own_by (T' := T125) (g' := (mkF m 173 #[.val (.int qa), .val (.int x0), .val (.int x1), .val (.int x2), .val (.int x3), .val (.ref b1), .val (.int (3 : Int32)), .val (.int ad), .val (.ref b99), .val (.ref b107), .val (.ref b1), .val (.int (1 : Int32)), .val (.ref ww), .val (.ref b1)] [(.ref b1)])) (fun t_ k_ => XS.aload X125.here hx rfl (hb hby at_171) rfl rfl k_) ?_
    refine own_by (T' := T125) (g' := (mkF m 175 #[.val (.int qa), .val (.int x0), .val (.int x1), .val (.int x2), .val (.int x3), .val (.ref b1), .val (.int (3 : Int32)), .val (.int ad), .val (.ref b99), .val (.ref b107), .val (.ref b1), .val (.int (1 : Int32)), .val (.ref ww), .val (.ref b1)] [(.ref b1), (.ref b1)])) (fun t_ k_ => XS.aload X125.here hx rfl (hb hby at_173) rfl rfl k_) ?_
    refine own_by (T' := T125) (g' := (mkF m 178 #[.val (.int qa), .val (.int x0), .val (.int x1), .val (.int x2), .val (.int x3), .val (.ref b1), .val (.int (3 : Int32)), .val (.int ad), .val (.ref b99), .val (.ref b107), .val (.ref b1), .val (.int (1 : Int32)), .val (.ref ww), .val (.ref b1)] [])) (fun t_ k_ => Jvm.RoadKit.acmp (g := (mkF m 175 #[.val (.int qa), .val (.int x0), .val (.int x1), .val (.int x2), .val (.int x3), .val (.ref b1), .val (.int (3 : Int32)), .val (.int ad), .val (.ref b99), .val (.ref b107), .val (.ref b1), .val (.int (1 : Int32)), .val (.ref ww), .val (.ref b1)] [(.ref b1), (.ref b1)])) X125 hx rfl rfl rfl (pc0 := 175) (pc' := 178) (same := true) rfl (hb hby at_175) rfl (decide_eq_true rfl) (by decide) (by decide) k_) ?_
    refine own_by (T' := T125) (g' := (mkF m 180 #[.val (.int qa), .val (.int x0), .val (.int x1), .val (.int x2), .val (.int x3), .val (.ref b1), .val (.int (3 : Int32)), .val (.int ad), .val (.ref b99), .val (.ref b107), .val (.ref b1), .val (.int (1 : Int32)), .val (.ref ww), .val (.ref b1)] [(.ref b1)])) (fun t_ k_ => XS.aload X125.here hx rfl (hb hby at_178) rfl rfl k_) ?_
    refine own_by (T' := T125) (g' := (mkF m 181 #[.val (.int qa), .val (.int x0), .val (.int x1), .val (.int x2), .val (.int x3), .val (.ref b1), .val (.int (3 : Int32)), .val (.int ad), .val (.ref b99), .val (.ref b107), .val (.ref b1), .val (.int (1 : Int32)), .val (.ref ww), .val (.ref b1)] [(.int (4 : Int32))])) (fun t_ k_ => own_alen X125 hx hZ e125 Vw (z := (4 : Int32)) rfl (g := (mkF m 180 #[.val (.int qa), .val (.int x0), .val (.int x1), .val (.int x2), .val (.int x3), .val (.ref b1), .val (.int (3 : Int32)), .val (.int ad), .val (.ref b99), .val (.ref b107), .val (.ref b1), .val (.int (1 : Int32)), .val (.ref ww), .val (.ref b1)] [(.ref b1)])) rfl rfl (hb hby at_180) _ k_) ?_
    refine own_by (T' := T125) (g' := (mkF m 182 #[.val (.int qa), .val (.int x0), .val (.int x1), .val (.int x2), .val (.int x3), .val (.ref b1), .val (.int (3 : Int32)), .val (.int ad), .val (.ref b99), .val (.ref b107), .val (.ref b1), .val (.int (1 : Int32)), .val (.ref ww), .val (.ref b1)] [(.int (4 : Int32)), (.int (4 : Int32))])) (fun t_ k_ => XS.iconst X125.here hx rfl (hb hby at_181) k_) ?_
    refine own_by (T' := T125) (g' := (mkF m 185 #[.val (.int qa), .val (.int x0), .val (.int x1), .val (.int x2), .val (.int x3), .val (.ref b1), .val (.int (3 : Int32)), .val (.int ad), .val (.ref b99), .val (.ref b107), .val (.ref b1), .val (.int (1 : Int32)), .val (.ref ww), .val (.ref b1)] [])) (fun t_ k_ => XS.icmpNo X125.here hx rfl (hb hby at_182) rfl (teq ((by decide) : (4 : Int32) = (4 : Int32))).2 k_) ?_
    refine own_by (T' := T125) (g' := (mkF m 187 #[.val (.int qa), .val (.int x0), .val (.int x1), .val (.int x2), .val (.int x3), .val (.ref b1), .val (.int (3 : Int32)), .val (.int ad), .val (.ref b99), .val (.ref b107), .val (.ref b1), .val (.int (1 : Int32)), .val (.ref ww), .val (.ref b1)] [(.ref b1)])) (fun t_ k_ => XS.aload X125.here hx rfl (hb hby at_185) rfl rfl k_) ?_
    refine own_by (T' := T125) (g' := (mkF m 189 #[.val (.int qa), .val (.int x0), .val (.int x1), .val (.int x2), .val (.int x3), .val (.ref b1), .val (.int (3 : Int32)), .val (.int ad), .val (.ref b99), .val (.ref b107), .val (.ref b1), .val (.int (1 : Int32)), .val (.ref ww), .val (.ref b1)] [(.int (3 : Int32)), (.ref b1)])) (fun t_ k_ => XS.iload X125.here hx rfl (hb hby at_187) rfl k_) ?_
    refine own_by (T' := T125) (g' := (mkF m 191 #[.val (.int qa), .val (.int x0), .val (.int x1), .val (.int x2), .val (.int x3), .val (.ref b1), .val (.int (3 : Int32)), .val (.int ad), .val (.ref b99), .val (.ref b107), .val (.ref b1), .val (.int (1 : Int32)), .val (.ref ww), .val (.ref b1)] [(.int ad), (.int (3 : Int32)), (.ref b1)])) (fun t_ k_ => XS.iload X125.here hx rfl (hb hby at_189) rfl k_) ?_
    refine own_by (T' := T125) (g' := (mkF m 192 #[.val (.int qa), .val (.int x0), .val (.int x1), .val (.int x2), .val (.int x3), .val (.ref b1), .val (.int (3 : Int32)), .val (.int ad), .val (.ref b99), .val (.ref b107), .val (.ref b1), .val (.int (1 : Int32)), .val (.ref ww), .val (.ref b1)] [(.int x0), (.int ad), (.int (3 : Int32)), (.ref b1)])) (fun t_ k_ => XS.iloadN X125.here hx rfl (hb hby at_191) rfl k_) ?_
    refine own_by (T' := T125) (g' := (mkF m 193 #[.val (.int qa), .val (.int x0), .val (.int x1), .val (.int x2), .val (.int x3), .val (.ref b1), .val (.int (3 : Int32)), .val (.int ad), .val (.ref b99), .val (.ref b107), .val (.ref b1), .val (.int (1 : Int32)), .val (.ref ww), .val (.ref b1)] [(.int x1), (.int x0), (.int ad), (.int (3 : Int32)), (.ref b1)])) (fun t_ k_ => XS.iloadN X125.here hx rfl (hb hby at_192) rfl k_) ?_
    refine own_by (T' := T125) (g' := (mkF m 194 #[.val (.int qa), .val (.int x0), .val (.int x1), .val (.int x2), .val (.int x3), .val (.ref b1), .val (.int (3 : Int32)), .val (.int ad), .val (.ref b99), .val (.ref b107), .val (.ref b1), .val (.int (1 : Int32)), .val (.ref ww), .val (.ref b1)] [(.int x2), (.int x1), (.int x0), (.int ad), (.int (3 : Int32)), (.ref b1)])) (fun t_ k_ => XS.iloadN X125.here hx rfl (hb hby at_193) rfl k_) ?_
    refine own_by (T' := T125) (g' := (mkF m 196 #[.val (.int qa), .val (.int x0), .val (.int x1), .val (.int x2), .val (.int x3), .val (.ref b1), .val (.int (3 : Int32)), .val (.int ad), .val (.ref b99), .val (.ref b107), .val (.ref b1), .val (.int (1 : Int32)), .val (.ref ww), .val (.ref b1)] [(.int x3), (.int x2), (.int x1), (.int x0), (.int ad), (.int (3 : Int32)), (.ref b1)])) (fun t_ k_ => XS.iload X125.here hx rfl (hb hby at_194) rfl k_) ?_
    obtain ⟨_, T126, L126, X126, hQ126, st126⟩ := own_callS X125 hx hZ (y := (⟨"com/example/rowgate/rowgate/StoredValueArrayPinLaw", "afterAppend", "([BIBIIII)Z"⟩ : MethodName)) hown (hw _ (List.mem_of_getElem? (i := 44) rfl)) (hw _ (List.mem_of_getElem? (i := 45) rfl)) (hw _ (List.mem_of_getElem? (i := 26) rfl)) (hw _ (List.mem_of_getElem? (i := 46) rfl)) (by decide) (argsL := [(.ref b1), (.int (3 : Int32)), (.int ad), (.int x0), (.int x1), (.int x2), (.int x3)]) (rest := []) (own_rm_ap3 l Z a0 hw [] b1 ad x0 x1 x2 x3 (fun i => if 3 ≤ i ∧ i < 4 then (fun i => if i = 0 then (nar .byte ad) else (fun _ => (0 : Int32)) i) (0 + (i - 3)) else own_b4 x0 x1 x2 x3 i) T121.heap n0 f122 Vw rfl rfl rfl hnb) e125 (W := 0) (by decide) (by decide) (by decide) (by decide) (g := (mkF m 196 #[.val (.int qa), .val (.int x0), .val (.int x1), .val (.int x2), .val (.int x3), .val (.ref b1), .val (.int (3 : Int32)), .val (.int ad), .val (.ref b99), .val (.ref b107), .val (.ref b1), .val (.int (1 : Int32)), .val (.ref ww), .val (.ref b1)] [(.int x3), (.int x2), (.int x1), (.int x0), (.int ad), (.int (3 : Int32)), (.ref b1)])) rfl (by rw [hml]; rfl) (lenOf own_pd8 rfl) rfl (by show 2 * 0 + _ ≤ _; exact Nat.le_of_eq rfl) (hb hby at_196)
    obtain ⟨rfl, Nq126, e126⟩ := hQ126
    have N126 := Fr.app N125 Nq126
    refine st126 _ ?_
    show own_Goes p e below _ T126 (mkF m 199 #[.val (.int qa), .val (.int x0), .val (.int x1), .val (.int x2), .val (.int x3), .val (.ref b1), .val (.int (3 : Int32)), .val (.int ad), .val (.ref b99), .val (.ref b107), .val (.ref b1), .val (.int (1 : Int32)), .val (.ref ww), .val (.ref b1)] [(.int (1 : Int32))])
    refine own_by (T' := T126) (g' := (mkF m 202 #[.val (.int qa), .val (.int x0), .val (.int x1), .val (.int x2), .val (.int x3), .val (.ref b1), .val (.int (3 : Int32)), .val (.int ad), .val (.ref b99), .val (.ref b107), .val (.ref b1), .val (.int (1 : Int32)), .val (.ref ww), .val (.ref b1)] [])) (fun t_ k_ => XS.ifNo X126.here hx rfl (hb hby at_199) rfl ((if0 _ _).trans (feq ((by decide) : ¬ ((1 : Int32) = (0 : Int32)))).1) k_) ?_
    refine own_by (T' := T126) (g' := (mkF m 203 #[.val (.int qa), .val (.int x0), .val (.int x1), .val (.int x2), .val (.int x3), .val (.ref b1), .val (.int (3 : Int32)), .val (.int ad), .val (.ref b99), .val (.ref b107), .val (.ref b1), .val (.int (1 : Int32)), .val (.ref ww), .val (.ref b1)] [(.int (1 : Int32))])) (fun t_ k_ => XS.iconst X126.here hx rfl (hb hby at_202) k_) ?_
    refine own_by (T' := T126) (g' := (mkF m 207 #[.val (.int qa), .val (.int x0), .val (.int x1), .val (.int x2), .val (.int x3), .val (.ref b1), .val (.int (3 : Int32)), .val (.int ad), .val (.ref b99), .val (.ref b107), .val (.ref b1), .val (.int (1 : Int32)), .val (.ref ww), .val (.ref b1)] [(.int (1 : Int32))])) (fun t_ k_ => XS.goto X126.here hx rfl (pc0 := 203) (pc' := 207) rfl (hb hby at_203) (by decide) (by decide) k_) ?_
    refine own_by (T' := T126) (g' := (mkF m 209 #[.val (.int qa), .val (.int x0), .val (.int x1), .val (.int x2), .val (.int x3), .val (.ref b1), .val (.int (3 : Int32)), .val (.int ad), .val (.ref b99), .val (.ref b107), .val (.ref b1), .val (.int (1 : Int32)), .val (.ref ww), .val (.ref b1)] [])) (fun t_ k_ => XS.istore X126.here hx rfl (hb hby at_207) rfl (l' := #[.val (.int qa), .val (.int x0), .val (.int x1), .val (.int x2), .val (.int x3), .val (.ref b1), .val (.int (3 : Int32)), .val (.int ad), .val (.ref b99), .val (.ref b107), .val (.ref b1), .val (.int (1 : Int32)), .val (.ref ww), .val (.ref b1)]) rfl k_) ?_
    refine own_by (T' := T126) (g' := (mkF m 274 #[.val (.int qa), .val (.int x0), .val (.int x1), .val (.int x2), .val (.int x3), .val (.ref b1), .val (.int (3 : Int32)), .val (.int ad), .val (.ref b99), .val (.ref b107), .val (.ref b1), .val (.int (1 : Int32)), .val (.ref ww), .val (.ref b1)] [])) (fun t_ k_ => XS.goto X126.here hx rfl (pc0 := 209) (pc' := 274) rfl (hb hby at_209) (by decide) (by decide) k_) ?_
    refine own_by (T' := T126) (g' := (mkF m 276 #[.val (.int qa), .val (.int x0), .val (.int x1), .val (.int x2), .val (.int x3), .val (.ref b1), .val (.int (3 : Int32)), .val (.int ad), .val (.ref b99), .val (.ref b107), .val (.ref b1), .val (.int (1 : Int32)), .val (.ref ww), .val (.ref b1)] [(.int (1 : Int32))])) (fun t_ k_ => XS.iload X126.here hx rfl (hb hby at_274) rfl k_) ?_
    refine own_retN X126 hx (t := .boolean) Bd.returns hlk (by simp) (hb hby at_276) (by decide) (by decide) (v := (1 : Int32)) rfl ?_
    rw [e126]
    exact ⟨rfl, N126⟩
  · skip
    rw [hk]
    refine own_by (T' := T12) (g' := (mkF m 39 #[.val (.int qa), .val (.int x0), .val (.int x1), .val (.int x2), .val (.int x3), .val (.ref b1), .val (.int (4 : Int32)), .unset, .unset, .unset, .unset, .unset, .unset, .unset] [(.int qa)])) (fun t_ k_ => XS.iloadN X12.here hx rfl (hb hby at_38) rfl k_) ?_
    refine own_by (T' := T12) (g' := (mkF m 41 #[.val (.int qa), .val (.int x0), .val (.int x1), .val (.int x2), .val (.int x3), .val (.ref b1), .val (.int (4 : Int32)), .unset, .unset, .unset, .unset, .unset, .unset, .unset] [(.int (8 : Int32)), (.int qa)])) (fun t_ k_ => XS.bipush X12.here hx rfl (hb hby at_39) k_) ?_
    refine own_by (T' := T12) (g' := (mkF m 42 #[.val (.int qa), .val (.int x0), .val (.int x1), .val (.int x2), .val (.int x3), .val (.ref b1), .val (.int (4 : Int32)), .unset, .unset, .unset, .unset, .unset, .unset, .unset] [(.int (qa >>> ((8 : Int32) &&& 31)))])) (fun t_ k_ => XS.ishr X12.here hx rfl (hb hby at_41) rfl k_) ?_
    refine own_by (T' := T12) (g' := (mkF m 43 #[.val (.int qa), .val (.int x0), .val (.int x1), .val (.int x2), .val (.int x3), .val (.ref b1), .val (.int (4 : Int32)), .unset, .unset, .unset, .unset, .unset, .unset, .unset] [(.int (qa >>> ((8 : Int32) &&& 31)).toInt8.toInt32)])) (fun t_ k_ => XS.i2b X12.here hx rfl (hb hby at_42) rfl k_) ?_
    refine own_by (T' := T12) (g' := (mkF m 45 #[.val (.int qa), .val (.int x0), .val (.int x1), .val (.int x2), .val (.int x3), .val (.ref b1), .val (.int (4 : Int32)), .val (.int (qa >>> ((8 : Int32) &&& 31)).toInt8.toInt32), .unset, .unset, .unset, .unset, .unset, .unset] [])) (fun t_ k_ => XS.istore X12.here hx rfl (hb hby at_43) rfl (l' := #[.val (.int qa), .val (.int x0), .val (.int x1), .val (.int x2), .val (.int x3), .val (.ref b1), .val (.int (4 : Int32)), .val (.int (qa >>> ((8 : Int32) &&& 31)).toInt8.toInt32), .unset, .unset, .unset, .unset, .unset, .unset]) rfl k_) ?_
    obtain ⟨ad, had⟩ : ∃ z, z = (qa >>> ((8 : Int32) &&& 31)).toInt8.toInt32 := ⟨_, rfl⟩
    have hnb : nar .byte ad = ad := by rw [had]; exact own_nb _
    rw [← had]
    refine own_by (T' := T12) (g' := (mkF m 46 #[.val (.int qa), .val (.int x0), .val (.int x1), .val (.int x2), .val (.int x3), .val (.ref b1), .val (.int (4 : Int32)), .val (.int ad), .unset, .unset, .unset, .unset, .unset, .unset] [(.int (1 : Int32))])) (fun t_ k_ => XS.iconst X12.here hx rfl (hb hby at_45) k_) ?_
    obtain ⟨T127, h127, k127, X127, e127, E127, A127, st127⟩ := newP X12 hx hZ (hw _ (List.mem_of_getElem? (i := 0) rfl)) e12 (g := (mkF m 46 #[.val (.int qa), .val (.int x0), .val (.int x1), .val (.int x2), .val (.int x3), .val (.ref b1), .val (.int (4 : Int32)), .val (.int ad), .unset, .unset, .unset, .unset, .unset, .unset] [(.int (1 : Int32))])) rfl (hb hby at_46) rfl (by decide) (cap := 1) (by decide) (by decide) (by decide) (by decide)
    obtain ⟨b127, g127⟩ : ∃ z, z = h12.size := ⟨_, rfl⟩
    rw [← g127] at A127 st127
    have g_b127 : n0 ≤ b127 := Nat.le_trans f13 (Nat.le_of_eq g127.symm)
    have ne128 : b1 ≠ b127 := Nat.ne_of_lt (Nat.lt_of_lt_of_le (own_Ia_lt Vn) (Nat.le_of_eq g127.symm))
    have f129 := Nat.le_trans f13 E127.1
    have f130 := own_Ia_ext E127 Vn
    have V127 : own_Ia Z h127 b127 .byte 1 (fun _ => (0 : Int32)) := own_Ia_new A127 rfl rfl rfl
    refine own_by (T' := T127) (g' := (mkF m 48 #[.val (.int qa), .val (.int x0), .val (.int x1), .val (.int x2), .val (.int x3), .val (.ref b1), .val (.int (4 : Int32)), .val (.int ad), .unset, .unset, .unset, .unset, .unset, .unset] [(.ref b127)])) st127 ?_
    refine own_by (T' := T127) (g' := (mkF m 50 #[.val (.int qa), .val (.int x0), .val (.int x1), .val (.int x2), .val (.int x3), .val (.ref b1), .val (.int (4 : Int32)), .val (.int ad), .val (.ref b127), .unset, .unset, .unset, .unset, .unset] [])) (fun t_ k_ => XS.astore X127.here hx rfl (hb hby at_48) rfl rfl (l' := #[.val (.int qa), .val (.int x0), .val (.int x1), .val (.int x2), .val (.int x3), .val (.ref b1), .val (.int (4 : Int32)), .val (.int ad), .val (.ref b127), .unset, .unset, .unset, .unset, .unset]) rfl k_) ?_
    refine own_by (T' := T127) (g' := (mkF m 52 #[.val (.int qa), .val (.int x0), .val (.int x1), .val (.int x2), .val (.int x3), .val (.ref b1), .val (.int (4 : Int32)), .val (.int ad), .val (.ref b127), .unset, .unset, .unset, .unset, .unset] [(.ref b127)])) (fun t_ k_ => XS.aload X127.here hx rfl (hb hby at_50) rfl rfl k_) ?_
    refine own_by (T' := T127) (g' := (mkF m 53 #[.val (.int qa), .val (.int x0), .val (.int x1), .val (.int x2), .val (.int x3), .val (.ref b1), .val (.int (4 : Int32)), .val (.int ad), .val (.ref b127), .unset, .unset, .unset, .unset, .unset] [(.int (0 : Int32)), (.ref b127)])) (fun t_ k_ => XS.iconst X127.here hx rfl (hb hby at_52) k_) ?_
    refine own_by (T' := T127) (g' := (mkF m 55 #[.val (.int qa), .val (.int x0), .val (.int x1), .val (.int x2), .val (.int x3), .val (.ref b1), .val (.int (4 : Int32)), .val (.int ad), .val (.ref b127), .unset, .unset, .unset, .unset, .unset] [(.int ad), (.int (0 : Int32)), (.ref b127)])) (fun t_ k_ => XS.iload X127.here hx rfl (hb hby at_53) rfl k_) ?_
    obtain ⟨T131, h131, X131, e131, W131, st131⟩ := own_bas X127 hx hZ e127 V127 (j := (0 : Int32)) (by decide) (by decide) (g := (mkF m 55 #[.val (.int qa), .val (.int x0), .val (.int x1), .val (.int x2), .val (.int x3), .val (.ref b1), .val (.int (4 : Int32)), .val (.int ad), .val (.ref b127), .unset, .unset, .unset, .unset, .unset] [(.int ad), (.int (0 : Int32)), (.ref b127)])) rfl rfl (hb hby at_55)
    refine own_by (T' := T131) (g' := (mkF m 56 #[.val (.int qa), .val (.int x0), .val (.int x1), .val (.int x2), .val (.int x3), .val (.ref b1), .val (.int (4 : Int32)), .val (.int ad), .val (.ref b127), .unset, .unset, .unset, .unset, .unset] [])) st131 ?_
    have N131 := Fr.snoc X131 N12 g_b127
    have f132 := Nat.le_trans f129 (Keep.of_wr W131).1
    have f133 := own_Ia_other W131 f130 ne128
    have V134 : own_Ia Z h131 b127 .byte 1 (fun i => if i = 0 then (nar .byte ad) else (fun _ => (0 : Int32)) i) := own_Ia_set W131 V127 (fits_nar_byte _)
    obtain ⟨T135, h135, X135, e135, E135, A135, D135, -, st135⟩ := newO X131 hx hZ hown (hw _ (List.mem_of_getElem? (i := 2) rfl)) (hw _ (List.mem_of_getElem? (i := 3) rfl)) (hw _ (List.mem_of_getElem? (i := 4) rfl)) e131 (g := (mkF m 56 #[.val (.int qa), .val (.int x0), .val (.int x1), .val (.int x2), .val (.int x3), .val (.ref b1), .val (.int (4 : Int32)), .val (.int ad), .val (.ref b127), .unset, .unset, .unset, .unset, .unset] [])) rfl (hb hby at_56) (by decide) (by decide)
    obtain ⟨b135, g135⟩ : ∃ z, z = h131.size := ⟨_, rfl⟩
    rw [← g135] at A135 D135 st135
    have g_b135 : n0 ≤ b135 := Nat.le_trans f132 (Nat.le_of_eq g135.symm)
    have ne136 : b1 ≠ b135 := Nat.ne_of_lt (Nat.lt_of_lt_of_le (own_Ia_lt f133) (Nat.le_of_eq g135.symm))
    have ne137 : b127 ≠ b135 := Nat.ne_of_lt (Nat.lt_of_lt_of_le (own_Ia_lt V134) (Nat.le_of_eq g135.symm))
    have f138 := Nat.le_trans f132 E135.1
    have f139 := own_Ia_ext E135 f133
    have f140 := own_Ia_ext E135 V134
    have F135_bytes : Fld Z h135 b135 "com/example/rowgate/rowgate/StoredValue" "bytes" "[B" .null := D135 (Or.inr (hw _ (List.mem_of_getElem? (i := 12) rfl))) (ty := (.array .byte)) (by decide)
    have F135_file : Fld Z h135 b135 "com/example/rowgate/rowgate/StoredValue" "file" "Lcom/example/rowgate/rowgate/StoredValue$FileBytes;" .null := D135 (Or.inr (hw _ (List.mem_of_getElem? (i := 14) rfl))) (ty := (.object "com/example/rowgate/rowgate/StoredValue$FileBytes")) (by decide)
    have F135_offset : Fld Z h135 b135 "com/example/rowgate/rowgate/StoredValue" "offset" "J" (.long (0 : Int64)) := D135 (Or.inr (hw _ (List.mem_of_getElem? (i := 16) rfl))) (ty := .long) (by decide)
    have F135_length : Fld Z h135 b135 "com/example/rowgate/rowgate/StoredValue" "length" "I" (.int (0 : Int32)) := D135 (Or.inr (hw _ (List.mem_of_getElem? (i := 18) rfl))) (ty := .int) (by decide)
    refine own_by (T' := T135) (g' := (mkF m 59 #[.val (.int qa), .val (.int x0), .val (.int x1), .val (.int x2), .val (.int x3), .val (.ref b1), .val (.int (4 : Int32)), .val (.int ad), .val (.ref b127), .unset, .unset, .unset, .unset, .unset] [(.ref b135)])) st135 ?_
    refine own_by (T' := T135) (g' := (mkF m 60 #[.val (.int qa), .val (.int x0), .val (.int x1), .val (.int x2), .val (.int x3), .val (.ref b1), .val (.int (4 : Int32)), .val (.int ad), .val (.ref b127), .unset, .unset, .unset, .unset, .unset] [(.ref b135), (.ref b135)])) (fun t_ k_ => XS.dup X135.here hx rfl (hb hby at_59) rfl rfl k_) ?_
    refine own_by (T' := T135) (g' := (mkF m 62 #[.val (.int qa), .val (.int x0), .val (.int x1), .val (.int x2), .val (.int x3), .val (.ref b1), .val (.int (4 : Int32)), .val (.int ad), .val (.ref b127), .unset, .unset, .unset, .unset, .unset] [(.ref b1), (.ref b135), (.ref b135)])) (fun t_ k_ => XS.aload X135.here hx rfl (hb hby at_60) rfl rfl k_) ?_
    refine own_by (T' := T135) (g' := (mkF m 64 #[.val (.int qa), .val (.int x0), .val (.int x1), .val (.int x2), .val (.int x3), .val (.ref b1), .val (.int (4 : Int32)), .val (.int ad), .val (.ref b127), .unset, .unset, .unset, .unset, .unset] [(.int (4 : Int32)), (.ref b1), (.ref b135), (.ref b135)])) (fun t_ k_ => XS.iload X135.here hx rfl (hb hby at_62) rfl k_) ?_
    obtain ⟨_, T141, L141, X141, hQ141, st141⟩ := own_callI X135 hx hZ (y := (⟨"com/example/rowgate/rowgate/StoredValue", "<init>", "([BI)V"⟩ : MethodName)) rfl hown (hw _ (List.mem_of_getElem? (i := 5) rfl)) (hw _ (List.mem_of_getElem? (i := 6) rfl)) (hw _ (List.mem_of_getElem? (i := 4) rfl)) (hw _ (List.mem_of_getElem? (i := 7) rfl)) (by decide) (argsL := [(.ref b1), (.int (4 : Int32))]) (rest := [(.ref b135)]) (own_rm_svI l Z a0 hw [] b135 b1 (4 : Int32) h135 n0 f138 A135 g_b135 F135_bytes F135_file F135_offset F135_length) e135 (W := 1) (by decide) (by decide) (by decide) (by decide) (g := (mkF m 64 #[.val (.int qa), .val (.int x0), .val (.int x1), .val (.int x2), .val (.int x3), .val (.ref b1), .val (.int (4 : Int32)), .val (.int ad), .val (.ref b127), .unset, .unset, .unset, .unset, .unset] [(.int (4 : Int32)), (.ref b1), (.ref b135), (.ref b135)])) rfl (by rw [hml]; rfl) (lenOf own_pd1 rfl) rfl (by show 2 * 0 + _ ≤ _; exact Nat.le_of_eq rfl) (hb hby at_64)
    obtain ⟨rfl, Nq141, Kq141, Eq141, Fq141_bytes, Fq141_file, Fq141_offset, Fq141_length⟩ := hQ141
    have N141 := Fr.app N131 Nq141
    have f142 := Nat.le_trans f138 Kq141.1
    have f143 := own_Ia_keep Kq141 f139 (ninS ne136 nin0)
    have f144 := own_Ia_keep Kq141 f140 (ninS ne137 nin0)
    have f145 := Exa.keep A135 Kq141
    refine st141 _ ?_
    show own_Goes p e below _ T141 (mkF m 67 #[.val (.int qa), .val (.int x0), .val (.int x1), .val (.int x2), .val (.int x3), .val (.ref b1), .val (.int (4 : Int32)), .val (.int ad), .val (.ref b127), .unset, .unset, .unset, .unset, .unset] [(.ref b135)])
    refine own_by (T' := T141) (g' := (mkF m 69 #[.val (.int qa), .val (.int x0), .val (.int x1), .val (.int x2), .val (.int x3), .val (.ref b1), .val (.int (4 : Int32)), .val (.int ad), .val (.ref b127), .val (.ref b135), .unset, .unset, .unset, .unset] [])) (fun t_ k_ => XS.astore X141.here hx rfl (hb hby at_67) rfl rfl (l' := #[.val (.int qa), .val (.int x0), .val (.int x1), .val (.int x2), .val (.int x3), .val (.ref b1), .val (.int (4 : Int32)), .val (.int ad), .val (.ref b127), .val (.ref b135), .unset, .unset, .unset, .unset]) rfl k_) ?_
    refine own_by (T' := T141) (g' := (mkF m 71 #[.val (.int qa), .val (.int x0), .val (.int x1), .val (.int x2), .val (.int x3), .val (.ref b1), .val (.int (4 : Int32)), .val (.int ad), .val (.ref b127), .val (.ref b135), .unset, .unset, .unset, .unset] [(.ref b135)])) (fun t_ k_ => XS.aload X141.here hx rfl (hb hby at_69) rfl rfl k_) ?_
    obtain ⟨_, T146, L146, X146, hQ146, st146⟩ := own_callV X141 hx hZ (y := (⟨"com/example/rowgate/rowgate/StoredValue", "array", "()[B"⟩ : MethodName)) hown (hw _ (List.mem_of_getElem? (i := 19) rfl)) (hw _ (List.mem_of_getElem? (i := 20) rfl)) (hw _ (List.mem_of_getElem? (i := 22) rfl)) (hw _ (List.mem_of_getElem? (i := 21) rfl)) (hw _ (List.mem_of_getElem? (i := 4) rfl)) (hw _ (List.mem_of_getElem? (i := 23) rfl)) (by decide) (argsL := []) (rest := []) f145 (own_rm_ar l Z a0 hw [] b135 b1 T141.heap n0 f142 Fq141_bytes) rfl (W := 0) (by decide) (by decide) (by decide) (by decide) (g := (mkF m 71 #[.val (.int qa), .val (.int x0), .val (.int x1), .val (.int x2), .val (.int x3), .val (.ref b1), .val (.int (4 : Int32)), .val (.int ad), .val (.ref b127), .val (.ref b135), .unset, .unset, .unset, .unset] [(.ref b135)])) rfl (by rw [hml]; rfl) (lenOf own_pd4 rfl) rfl (by show 2 * 0 + _ ≤ _; exact Nat.le_of_eq rfl) (hb hby at_71)
    obtain ⟨rfl, Nq146, e146⟩ := hQ146
    have N146 := Fr.app N141 Nq146
    refine st146 _ ?_
    show own_Goes p e below _ T146 (mkF m 74 #[.val (.int qa), .val (.int x0), .val (.int x1), .val (.int x2), .val (.int x3), .val (.ref b1), .val (.int (4 : Int32)), .val (.int ad), .val (.ref b127), .val (.ref b135), .unset, .unset, .unset, .unset] [(.ref b1)])
    refine own_by (T' := T146) (g' := (mkF m 76 #[.val (.int qa), .val (.int x0), .val (.int x1), .val (.int x2), .val (.int x3), .val (.ref b1), .val (.int (4 : Int32)), .val (.int ad), .val (.ref b127), .val (.ref b135), .val (.ref b1), .unset, .unset, .unset] [])) (fun t_ k_ => XS.astore X146.here hx rfl (hb hby at_74) rfl rfl (l' := #[.val (.int qa), .val (.int x0), .val (.int x1), .val (.int x2), .val (.int x3), .val (.ref b1), .val (.int (4 : Int32)), .val (.int ad), .val (.ref b127), .val (.ref b135), .val (.ref b1), .unset, .unset, .unset]) rfl k_) ?_
    refine own_by (T' := T146) (g' := (mkF m 78 #[.val (.int qa), .val (.int x0), .val (.int x1), .val (.int x2), .val (.int x3), .val (.ref b1), .val (.int (4 : Int32)), .val (.int ad), .val (.ref b127), .val (.ref b135), .val (.ref b1), .unset, .unset, .unset] [(.ref b1)])) (fun t_ k_ => XS.aload X146.here hx rfl (hb hby at_76) rfl rfl k_) ?_
    refine own_by (T' := T146) (g' := (mkF m 80 #[.val (.int qa), .val (.int x0), .val (.int x1), .val (.int x2), .val (.int x3), .val (.ref b1), .val (.int (4 : Int32)), .val (.int ad), .val (.ref b127), .val (.ref b135), .val (.ref b1), .unset, .unset, .unset] [(.ref b1), (.ref b1)])) (fun t_ k_ => XS.aload X146.here hx rfl (hb hby at_78) rfl rfl k_) ?_
    refine own_by (T' := T146) (g' := (mkF m 83 #[.val (.int qa), .val (.int x0), .val (.int x1), .val (.int x2), .val (.int x3), .val (.ref b1), .val (.int (4 : Int32)), .val (.int ad), .val (.ref b127), .val (.ref b135), .val (.ref b1), .unset, .unset, .unset] [])) (fun t_ k_ => Jvm.RoadKit.acmp (g := (mkF m 80 #[.val (.int qa), .val (.int x0), .val (.int x1), .val (.int x2), .val (.int x3), .val (.ref b1), .val (.int (4 : Int32)), .val (.int ad), .val (.ref b127), .val (.ref b135), .val (.ref b1), .unset, .unset, .unset] [(.ref b1), (.ref b1)])) X146 hx rfl rfl rfl (pc0 := 80) (pc' := 83) (same := true) rfl (hb hby at_80) rfl (decide_eq_true rfl) (by decide) (by decide) k_) ?_
    refine own_by (T' := T146) (g' := (mkF m 85 #[.val (.int qa), .val (.int x0), .val (.int x1), .val (.int x2), .val (.int x3), .val (.ref b1), .val (.int (4 : Int32)), .val (.int ad), .val (.ref b127), .val (.ref b135), .val (.ref b1), .unset, .unset, .unset] [(.ref b1)])) (fun t_ k_ => XS.aload X146.here hx rfl (hb hby at_83) rfl rfl k_) ?_
    refine own_by (T' := T146) (g' := (mkF m 86 #[.val (.int qa), .val (.int x0), .val (.int x1), .val (.int x2), .val (.int x3), .val (.ref b1), .val (.int (4 : Int32)), .val (.int ad), .val (.ref b127), .val (.ref b135), .val (.ref b1), .unset, .unset, .unset] [(.int (4 : Int32))])) (fun t_ k_ => own_alen X146 hx hZ e146 f143 (z := (4 : Int32)) rfl (g := (mkF m 85 #[.val (.int qa), .val (.int x0), .val (.int x1), .val (.int x2), .val (.int x3), .val (.ref b1), .val (.int (4 : Int32)), .val (.int ad), .val (.ref b127), .val (.ref b135), .val (.ref b1), .unset, .unset, .unset] [(.ref b1)])) rfl rfl (hb hby at_85) _ k_) ?_
    refine own_by (T' := T146) (g' := (mkF m 87 #[.val (.int qa), .val (.int x0), .val (.int x1), .val (.int x2), .val (.int x3), .val (.ref b1), .val (.int (4 : Int32)), .val (.int ad), .val (.ref b127), .val (.ref b135), .val (.ref b1), .unset, .unset, .unset] [(.int (4 : Int32)), (.int (4 : Int32))])) (fun t_ k_ => XS.iconst X146.here hx rfl (hb hby at_86) k_) ?_
    refine own_by (T' := T146) (g' := (mkF m 90 #[.val (.int qa), .val (.int x0), .val (.int x1), .val (.int x2), .val (.int x3), .val (.ref b1), .val (.int (4 : Int32)), .val (.int ad), .val (.ref b127), .val (.ref b135), .val (.ref b1), .unset, .unset, .unset] [])) (fun t_ k_ => XS.icmpNo X146.here hx rfl (hb hby at_87) rfl (teq ((by decide) : (4 : Int32) = (4 : Int32))).2 k_) ?_
    refine own_by (T' := T146) (g' := (mkF m 92 #[.val (.int qa), .val (.int x0), .val (.int x1), .val (.int x2), .val (.int x3), .val (.ref b1), .val (.int (4 : Int32)), .val (.int ad), .val (.ref b127), .val (.ref b135), .val (.ref b1), .unset, .unset, .unset] [(.ref b1)])) (fun t_ k_ => XS.aload X146.here hx rfl (hb hby at_90) rfl rfl k_) ?_
    refine own_by (T' := T146) (g' := (mkF m 93 #[.val (.int qa), .val (.int x0), .val (.int x1), .val (.int x2), .val (.int x3), .val (.ref b1), .val (.int (4 : Int32)), .val (.int ad), .val (.ref b127), .val (.ref b135), .val (.ref b1), .unset, .unset, .unset] [(.int x0), (.ref b1)])) (fun t_ k_ => XS.iloadN X146.here hx rfl (hb hby at_92) rfl k_) ?_
    refine own_by (T' := T146) (g' := (mkF m 94 #[.val (.int qa), .val (.int x0), .val (.int x1), .val (.int x2), .val (.int x3), .val (.ref b1), .val (.int (4 : Int32)), .val (.int ad), .val (.ref b127), .val (.ref b135), .val (.ref b1), .unset, .unset, .unset] [(.int x1), (.int x0), (.ref b1)])) (fun t_ k_ => XS.iloadN X146.here hx rfl (hb hby at_93) rfl k_) ?_
    refine own_by (T' := T146) (g' := (mkF m 95 #[.val (.int qa), .val (.int x0), .val (.int x1), .val (.int x2), .val (.int x3), .val (.ref b1), .val (.int (4 : Int32)), .val (.int ad), .val (.ref b127), .val (.ref b135), .val (.ref b1), .unset, .unset, .unset] [(.int x2), (.int x1), (.int x0), (.ref b1)])) (fun t_ k_ => XS.iloadN X146.here hx rfl (hb hby at_94) rfl k_) ?_
    refine own_by (T' := T146) (g' := (mkF m 97 #[.val (.int qa), .val (.int x0), .val (.int x1), .val (.int x2), .val (.int x3), .val (.ref b1), .val (.int (4 : Int32)), .val (.int ad), .val (.ref b127), .val (.ref b135), .val (.ref b1), .unset, .unset, .unset] [(.int x3), (.int x2), (.int x1), (.int x0), (.ref b1)])) (fun t_ k_ => XS.iload X146.here hx rfl (hb hby at_95) rfl k_) ?_
    obtain ⟨_, T147, L147, X147, hQ147, st147⟩ := own_callS X146 hx hZ (y := (⟨"com/example/rowgate/rowgate/StoredValueArrayPinLaw", "same", "([BIIII)Z"⟩ : MethodName)) hown (hw _ (List.mem_of_getElem? (i := 24) rfl)) (hw _ (List.mem_of_getElem? (i := 25) rfl)) (hw _ (List.mem_of_getElem? (i := 26) rfl)) (hw _ (List.mem_of_getElem? (i := 27) rfl)) (by decide) (argsL := [(.ref b1), (.int x0), (.int x1), (.int x2), (.int x3)]) (rest := []) (own_rm_sm l Z a0 hw [] b1 x0 x1 x2 x3 4 (own_b4 x0 x1 x2 x3) T141.heap n0 f142 f143 (by decide) rfl rfl rfl rfl) e146 (W := 0) (by decide) (by decide) (by decide) (by decide) (g := (mkF m 97 #[.val (.int qa), .val (.int x0), .val (.int x1), .val (.int x2), .val (.int x3), .val (.ref b1), .val (.int (4 : Int32)), .val (.int ad), .val (.ref b127), .val (.ref b135), .val (.ref b1), .unset, .unset, .unset] [(.int x3), (.int x2), (.int x1), (.int x0), (.ref b1)])) rfl (by rw [hml]; rfl) (lenOf own_pd5 rfl) rfl (by show 2 * 0 + _ ≤ _; exact Nat.le_of_eq rfl) (hb hby at_97)
    obtain ⟨rfl, Nq147, e147⟩ := hQ147
    have N147 := Fr.app N146 Nq147
    refine st147 _ ?_
    show own_Goes p e below _ T147 (mkF m 100 #[.val (.int qa), .val (.int x0), .val (.int x1), .val (.int x2), .val (.int x3), .val (.ref b1), .val (.int (4 : Int32)), .val (.int ad), .val (.ref b127), .val (.ref b135), .val (.ref b1), .unset, .unset, .unset] [(.int (1 : Int32))])
    refine own_by (T' := T147) (g' := (mkF m 103 #[.val (.int qa), .val (.int x0), .val (.int x1), .val (.int x2), .val (.int x3), .val (.ref b1), .val (.int (4 : Int32)), .val (.int ad), .val (.ref b127), .val (.ref b135), .val (.ref b1), .unset, .unset, .unset] [])) (fun t_ k_ => XS.ifNo X147.here hx rfl (hb hby at_100) rfl ((if0 _ _).trans (feq ((by decide) : ¬ ((1 : Int32) = (0 : Int32)))).1) k_) ?_
    refine own_by (T' := T147) (g' := (mkF m 105 #[.val (.int qa), .val (.int x0), .val (.int x1), .val (.int x2), .val (.int x3), .val (.ref b1), .val (.int (4 : Int32)), .val (.int ad), .val (.ref b127), .val (.ref b135), .val (.ref b1), .unset, .unset, .unset] [(.ref b135)])) (fun t_ k_ => XS.aload X147.here hx rfl (hb hby at_103) rfl rfl k_) ?_
    obtain ⟨_, T148, L148, X148, hQ148, st148⟩ := own_callV X147 hx hZ (y := (⟨"com/example/rowgate/rowgate/StoredValue", "length", "()I"⟩ : MethodName)) hown (hw _ (List.mem_of_getElem? (i := 28) rfl)) (hw _ (List.mem_of_getElem? (i := 29) rfl)) (hw _ (List.mem_of_getElem? (i := 31) rfl)) (hw _ (List.mem_of_getElem? (i := 30) rfl)) (hw _ (List.mem_of_getElem? (i := 4) rfl)) (hw _ (List.mem_of_getElem? (i := 32) rfl)) (by decide) (argsL := []) (rest := []) f145 (own_rm_le l Z a0 hw [] b135 (4 : Int32) T141.heap n0 f142 Fq141_length) e147 (W := 0) (by decide) (by decide) (by decide) (by decide) (g := (mkF m 105 #[.val (.int qa), .val (.int x0), .val (.int x1), .val (.int x2), .val (.int x3), .val (.ref b1), .val (.int (4 : Int32)), .val (.int ad), .val (.ref b127), .val (.ref b135), .val (.ref b1), .unset, .unset, .unset] [(.ref b135)])) rfl (by rw [hml]; rfl) (lenOf own_pd6 rfl) rfl (by show 2 * 0 + _ ≤ _; exact Nat.le_of_eq rfl) (hb hby at_105)
    obtain ⟨rfl, Nq148, e148⟩ := hQ148
    have N148 := Fr.app N147 Nq148
    refine st148 _ ?_
    show own_Goes p e below _ T148 (mkF m 108 #[.val (.int qa), .val (.int x0), .val (.int x1), .val (.int x2), .val (.int x3), .val (.ref b1), .val (.int (4 : Int32)), .val (.int ad), .val (.ref b127), .val (.ref b135), .val (.ref b1), .unset, .unset, .unset] [(.int (4 : Int32))])
    refine own_by (T' := T148) (g' := (mkF m 110 #[.val (.int qa), .val (.int x0), .val (.int x1), .val (.int x2), .val (.int x3), .val (.ref b1), .val (.int (4 : Int32)), .val (.int ad), .val (.ref b127), .val (.ref b135), .val (.ref b1), .unset, .unset, .unset] [(.int (4 : Int32)), (.int (4 : Int32))])) (fun t_ k_ => XS.iload X148.here hx rfl (hb hby at_108) rfl k_) ?_
    refine own_by (T' := T148) (g' := (mkF m 113 #[.val (.int qa), .val (.int x0), .val (.int x1), .val (.int x2), .val (.int x3), .val (.ref b1), .val (.int (4 : Int32)), .val (.int ad), .val (.ref b127), .val (.ref b135), .val (.ref b1), .unset, .unset, .unset] [])) (fun t_ k_ => XS.icmpNo X148.here hx rfl (hb hby at_110) rfl (teq ((by decide) : (4 : Int32) = (4 : Int32))).2 k_) ?_
    refine own_by (T' := T148) (g' := (mkF m 114 #[.val (.int qa), .val (.int x0), .val (.int x1), .val (.int x2), .val (.int x3), .val (.ref b1), .val (.int (4 : Int32)), .val (.int ad), .val (.ref b127), .val (.ref b135), .val (.ref b1), .unset, .unset, .unset] [(.int (1 : Int32))])) (fun t_ k_ => XS.iconst X148.here hx rfl (hb hby at_113) k_) ?_
    refine own_by (T' := T148) (g' := (mkF m 118 #[.val (.int qa), .val (.int x0), .val (.int x1), .val (.int x2), .val (.int x3), .val (.ref b1), .val (.int (4 : Int32)), .val (.int ad), .val (.ref b127), .val (.ref b135), .val (.ref b1), .unset, .unset, .unset] [(.int (1 : Int32))])) (fun t_ k_ => XS.goto X148.here hx rfl (pc0 := 114) (pc' := 118) rfl (hb hby at_114) (by decide) (by decide) k_) ?_
    refine own_by (T' := T148) (g' := (mkF m 120 #[.val (.int qa), .val (.int x0), .val (.int x1), .val (.int x2), .val (.int x3), .val (.ref b1), .val (.int (4 : Int32)), .val (.int ad), .val (.ref b127), .val (.ref b135), .val (.ref b1), .val (.int (1 : Int32)), .unset, .unset] [])) (fun t_ k_ => XS.istore X148.here hx rfl (hb hby at_118) rfl (l' := #[.val (.int qa), .val (.int x0), .val (.int x1), .val (.int x2), .val (.int x3), .val (.ref b1), .val (.int (4 : Int32)), .val (.int ad), .val (.ref b127), .val (.ref b135), .val (.ref b1), .val (.int (1 : Int32)), .unset, .unset]) rfl k_) ?_
    refine own_by (T' := T148) (g' := (mkF m 122 #[.val (.int qa), .val (.int x0), .val (.int x1), .val (.int x2), .val (.int x3), .val (.ref b1), .val (.int (4 : Int32)), .val (.int ad), .val (.ref b127), .val (.ref b135), .val (.ref b1), .val (.int (1 : Int32)), .unset, .unset] [(.ref b135)])) (fun t_ k_ => XS.aload X148.here hx rfl (hb hby at_120) rfl rfl k_) ?_
    refine own_by (T' := T148) (g' := (mkF m 124 #[.val (.int qa), .val (.int x0), .val (.int x1), .val (.int x2), .val (.int x3), .val (.ref b1), .val (.int (4 : Int32)), .val (.int ad), .val (.ref b127), .val (.ref b135), .val (.ref b1), .val (.int (1 : Int32)), .unset, .unset] [(.ref b127), (.ref b135)])) (fun t_ k_ => XS.aload X148.here hx rfl (hb hby at_122) rfl rfl k_) ?_
    obtain ⟨_, T149, L149, X149, hQ149, st149⟩ := own_callV X148 hx hZ (y := (⟨"com/example/rowgate/rowgate/StoredValue", "appended", "([B)Lcom/example/rowgate/rowgate/StoredValue;"⟩ : MethodName)) hown (hw _ (List.mem_of_getElem? (i := 33) rfl)) (hw _ (List.mem_of_getElem? (i := 34) rfl)) (hw _ (List.mem_of_getElem? (i := 36) rfl)) (hw _ (List.mem_of_getElem? (i := 35) rfl)) (hw _ (List.mem_of_getElem? (i := 4) rfl)) (hw _ (List.mem_of_getElem? (i := 37) rfl)) (by decide) (argsL := [(.ref b127)]) (rest := []) f145 (own_rm_ad4 l Z a0 hw [] b135 b127 b1 (own_b4 x0 x1 x2 x3) (fun i => if i = 0 then (nar .byte ad) else (fun _ => (0 : Int32)) i) T141.heap n0 f142 Fq141_bytes Fq141_length f145 f143 f144 g_b1 (Ne.symm ne136) (Ne.symm ne128)) e148 (W := 0) (by decide) (by decide) (by decide) (by decide) (g := (mkF m 124 #[.val (.int qa), .val (.int x0), .val (.int x1), .val (.int x2), .val (.int x3), .val (.ref b1), .val (.int (4 : Int32)), .val (.int ad), .val (.ref b127), .val (.ref b135), .val (.ref b1), .val (.int (1 : Int32)), .unset, .unset] [(.ref b127), (.ref b135)])) rfl (by rw [hml]; rfl) (lenOf own_pd7 rfl) rfl (by show 2 * 0 + _ ≤ _; exact Nat.le_of_eq rfl) (hb hby at_124)
    obtain ⟨ww, t7, g7, rfl, Nq149, Kq149, Ew, Fw1, Fw2, Vw, nw⟩ := hQ149
    have N149 := Fr.app N148 Nq149
    have f150 := Nat.le_trans f142 Kq149.1
    have f151 := own_Ia_keep Kq149 f143 nin0
    have f152 := own_Ia_keep Kq149 f144 nin0
    have f153 := Exa.keep f145 Kq149
    have f154 := Fld.keep Fq141_bytes Kq149 nin0
    have f155 := Fld.keep Fq141_file Kq149 nin0
    have f156 := Fld.keep Fq141_offset Kq149 nin0
    have f157 := Fld.keep Fq141_length Kq149 nin0
    refine st149 _ ?_
    show own_Goes p e below _ T149 (mkF m 127 #[.val (.int qa), .val (.int x0), .val (.int x1), .val (.int x2), .val (.int x3), .val (.ref b1), .val (.int (4 : Int32)), .val (.int ad), .val (.ref b127), .val (.ref b135), .val (.ref b1), .val (.int (1 : Int32)), .unset, .unset] [(.ref ww)])
    refine own_by (T' := T149) (g' := (mkF m 129 #[.val (.int qa), .val (.int x0), .val (.int x1), .val (.int x2), .val (.int x3), .val (.ref b1), .val (.int (4 : Int32)), .val (.int ad), .val (.ref b127), .val (.ref b135), .val (.ref b1), .val (.int (1 : Int32)), .val (.ref ww), .unset] [])) (fun t_ k_ => XS.astore X149.here hx rfl (hb hby at_127) rfl rfl (l' := #[.val (.int qa), .val (.int x0), .val (.int x1), .val (.int x2), .val (.int x3), .val (.ref b1), .val (.int (4 : Int32)), .val (.int ad), .val (.ref b127), .val (.ref b135), .val (.ref b1), .val (.int (1 : Int32)), .val (.ref ww), .unset]) rfl k_) ?_
    refine own_by (T' := T149) (g' := (mkF m 131 #[.val (.int qa), .val (.int x0), .val (.int x1), .val (.int x2), .val (.int x3), .val (.ref b1), .val (.int (4 : Int32)), .val (.int ad), .val (.ref b127), .val (.ref b135), .val (.ref b1), .val (.int (1 : Int32)), .val (.ref ww), .unset] [(.ref ww)])) (fun t_ k_ => XS.aload X149.here hx rfl (hb hby at_129) rfl rfl k_) ?_
    obtain ⟨_, T158, L158, X158, hQ158, st158⟩ := own_callV X149 hx hZ (y := (⟨"com/example/rowgate/rowgate/StoredValue", "array", "()[B"⟩ : MethodName)) hown (hw _ (List.mem_of_getElem? (i := 19) rfl)) (hw _ (List.mem_of_getElem? (i := 20) rfl)) (hw _ (List.mem_of_getElem? (i := 22) rfl)) (hw _ (List.mem_of_getElem? (i := 21) rfl)) (hw _ (List.mem_of_getElem? (i := 4) rfl)) (hw _ (List.mem_of_getElem? (i := 23) rfl)) (by decide) (argsL := []) (rest := []) Ew (own_rm_ar l Z a0 hw [] ww t7 T149.heap n0 f150 Fw1) rfl (W := 0) (by decide) (by decide) (by decide) (by decide) (g := (mkF m 131 #[.val (.int qa), .val (.int x0), .val (.int x1), .val (.int x2), .val (.int x3), .val (.ref b1), .val (.int (4 : Int32)), .val (.int ad), .val (.ref b127), .val (.ref b135), .val (.ref b1), .val (.int (1 : Int32)), .val (.ref ww), .unset] [(.ref ww)])) rfl (by rw [hml]; rfl) (lenOf own_pd4 rfl) rfl (by show 2 * 0 + _ ≤ _; exact Nat.le_of_eq rfl) (hb hby at_131)
    obtain ⟨rfl, Nq158, e158⟩ := hQ158
    have N158 := Fr.app N149 Nq158
    refine st158 _ ?_
    show own_Goes p e below _ T158 (mkF m 134 #[.val (.int qa), .val (.int x0), .val (.int x1), .val (.int x2), .val (.int x3), .val (.ref b1), .val (.int (4 : Int32)), .val (.int ad), .val (.ref b127), .val (.ref b135), .val (.ref b1), .val (.int (1 : Int32)), .val (.ref ww), .unset] [(.ref t7)])
    refine own_by (T' := T158) (g' := (mkF m 136 #[.val (.int qa), .val (.int x0), .val (.int x1), .val (.int x2), .val (.int x3), .val (.ref b1), .val (.int (4 : Int32)), .val (.int ad), .val (.ref b127), .val (.ref b135), .val (.ref b1), .val (.int (1 : Int32)), .val (.ref ww), .val (.ref t7)] [])) (fun t_ k_ => XS.astore X158.here hx rfl (hb hby at_134) rfl rfl (l' := #[.val (.int qa), .val (.int x0), .val (.int x1), .val (.int x2), .val (.int x3), .val (.ref b1), .val (.int (4 : Int32)), .val (.int ad), .val (.ref b127), .val (.ref b135), .val (.ref b1), .val (.int (1 : Int32)), .val (.ref ww), .val (.ref t7)]) rfl k_) ?_
    refine own_by (T' := T158) (g' := (mkF m 138 #[.val (.int qa), .val (.int x0), .val (.int x1), .val (.int x2), .val (.int x3), .val (.ref b1), .val (.int (4 : Int32)), .val (.int ad), .val (.ref b127), .val (.ref b135), .val (.ref b1), .val (.int (1 : Int32)), .val (.ref ww), .val (.ref t7)] [(.int (1 : Int32))])) (fun t_ k_ => XS.iload X158.here hx rfl (hb hby at_136) rfl k_) ?_
    refine own_by (T' := T158) (g' := (mkF m 141 #[.val (.int qa), .val (.int x0), .val (.int x1), .val (.int x2), .val (.int x3), .val (.ref b1), .val (.int (4 : Int32)), .val (.int ad), .val (.ref b127), .val (.ref b135), .val (.ref b1), .val (.int (1 : Int32)), .val (.ref ww), .val (.ref t7)] [])) (fun t_ k_ => XS.ifNo X158.here hx rfl (hb hby at_138) rfl ((if0 _ _).trans (feq ((by decide) : ¬ ((1 : Int32) = (0 : Int32)))).1) k_) ?_
    refine own_by (T' := T158) (g' := (mkF m 143 #[.val (.int qa), .val (.int x0), .val (.int x1), .val (.int x2), .val (.int x3), .val (.ref b1), .val (.int (4 : Int32)), .val (.int ad), .val (.ref b127), .val (.ref b135), .val (.ref b1), .val (.int (1 : Int32)), .val (.ref ww), .val (.ref t7)] [(.ref ww)])) (fun t_ k_ => XS.aload X158.here hx rfl (hb hby at_141) rfl rfl k_) ?_
    obtain ⟨_, T159, L159, X159, hQ159, st159⟩ := own_callV X158 hx hZ (y := (⟨"com/example/rowgate/rowgate/StoredValue", "length", "()I"⟩ : MethodName)) hown (hw _ (List.mem_of_getElem? (i := 28) rfl)) (hw _ (List.mem_of_getElem? (i := 29) rfl)) (hw _ (List.mem_of_getElem? (i := 31) rfl)) (hw _ (List.mem_of_getElem? (i := 30) rfl)) (hw _ (List.mem_of_getElem? (i := 4) rfl)) (hw _ (List.mem_of_getElem? (i := 32) rfl)) (by decide) (argsL := []) (rest := []) Ew (own_rm_le l Z a0 hw [] ww (5 : Int32) T149.heap n0 f150 Fw2) e158 (W := 0) (by decide) (by decide) (by decide) (by decide) (g := (mkF m 143 #[.val (.int qa), .val (.int x0), .val (.int x1), .val (.int x2), .val (.int x3), .val (.ref b1), .val (.int (4 : Int32)), .val (.int ad), .val (.ref b127), .val (.ref b135), .val (.ref b1), .val (.int (1 : Int32)), .val (.ref ww), .val (.ref t7)] [(.ref ww)])) rfl (by rw [hml]; rfl) (lenOf own_pd6 rfl) rfl (by show 2 * 0 + _ ≤ _; exact Nat.le_of_eq rfl) (hb hby at_143)
    obtain ⟨rfl, Nq159, e159⟩ := hQ159
    have N159 := Fr.app N158 Nq159
    refine st159 _ ?_
    show own_Goes p e below _ T159 (mkF m 146 #[.val (.int qa), .val (.int x0), .val (.int x1), .val (.int x2), .val (.int x3), .val (.ref b1), .val (.int (4 : Int32)), .val (.int ad), .val (.ref b127), .val (.ref b135), .val (.ref b1), .val (.int (1 : Int32)), .val (.ref ww), .val (.ref t7)] [(.int (5 : Int32))])
    refine own_by (T' := T159) (g' := (mkF m 148 #[.val (.int qa), .val (.int x0), .val (.int x1), .val (.int x2), .val (.int x3), .val (.ref b1), .val (.int (4 : Int32)), .val (.int ad), .val (.ref b127), .val (.ref b135), .val (.ref b1), .val (.int (1 : Int32)), .val (.ref ww), .val (.ref t7)] [(.int (4 : Int32)), (.int (5 : Int32))])) (fun t_ k_ => XS.iload X159.here hx rfl (hb hby at_146) rfl k_) ?_
    refine own_by (T' := T159) (g' := (mkF m 149 #[.val (.int qa), .val (.int x0), .val (.int x1), .val (.int x2), .val (.int x3), .val (.ref b1), .val (.int (4 : Int32)), .val (.int ad), .val (.ref b127), .val (.ref b135), .val (.ref b1), .val (.int (1 : Int32)), .val (.ref ww), .val (.ref t7)] [(.int (1 : Int32)), (.int (4 : Int32)), (.int (5 : Int32))])) (fun t_ k_ => XS.iconst X159.here hx rfl (hb hby at_148) k_) ?_
    refine own_by (T' := T159) (g' := (mkF m 150 #[.val (.int qa), .val (.int x0), .val (.int x1), .val (.int x2), .val (.int x3), .val (.ref b1), .val (.int (4 : Int32)), .val (.int ad), .val (.ref b127), .val (.ref b135), .val (.ref b1), .val (.int (1 : Int32)), .val (.ref ww), .val (.ref t7)] [(.int (5 : Int32)), (.int (5 : Int32))])) (fun t_ k_ => XS.iadd X159.here hx rfl (hb hby at_149) rfl k_) ?_
    refine own_by (T' := T159) (g' := (mkF m 153 #[.val (.int qa), .val (.int x0), .val (.int x1), .val (.int x2), .val (.int x3), .val (.ref b1), .val (.int (4 : Int32)), .val (.int ad), .val (.ref b127), .val (.ref b135), .val (.ref b1), .val (.int (1 : Int32)), .val (.ref ww), .val (.ref t7)] [])) (fun t_ k_ => XS.icmpNo X159.here hx rfl (hb hby at_150) rfl (teq ((by decide) : (5 : Int32) = (5 : Int32))).2 k_) ?_
    refine own_by (T' := T159) (g' := (mkF m 154 #[.val (.int qa), .val (.int x0), .val (.int x1), .val (.int x2), .val (.int x3), .val (.ref b1), .val (.int (4 : Int32)), .val (.int ad), .val (.ref b127), .val (.ref b135), .val (.ref b1), .val (.int (1 : Int32)), .val (.ref ww), .val (.ref t7)] [(.int (1 : Int32))])) (fun t_ k_ => XS.iconst X159.here hx rfl (hb hby at_153) k_) ?_
    refine own_by (T' := T159) (g' := (mkF m 158 #[.val (.int qa), .val (.int x0), .val (.int x1), .val (.int x2), .val (.int x3), .val (.ref b1), .val (.int (4 : Int32)), .val (.int ad), .val (.ref b127), .val (.ref b135), .val (.ref b1), .val (.int (1 : Int32)), .val (.ref ww), .val (.ref t7)] [(.int (1 : Int32))])) (fun t_ k_ => XS.goto X159.here hx rfl (pc0 := 154) (pc' := 158) rfl (hb hby at_154) (by decide) (by decide) k_) ?_
    refine own_by (T' := T159) (g' := (mkF m 160 #[.val (.int qa), .val (.int x0), .val (.int x1), .val (.int x2), .val (.int x3), .val (.ref b1), .val (.int (4 : Int32)), .val (.int ad), .val (.ref b127), .val (.ref b135), .val (.ref b1), .val (.int (1 : Int32)), .val (.ref ww), .val (.ref t7)] [])) (fun t_ k_ => XS.istore X159.here hx rfl (hb hby at_158) rfl (l' := #[.val (.int qa), .val (.int x0), .val (.int x1), .val (.int x2), .val (.int x3), .val (.ref b1), .val (.int (4 : Int32)), .val (.int ad), .val (.ref b127), .val (.ref b135), .val (.ref b1), .val (.int (1 : Int32)), .val (.ref ww), .val (.ref t7)]) rfl k_) ?_
    refine own_by (T' := T159) (g' := (mkF m 162 #[.val (.int qa), .val (.int x0), .val (.int x1), .val (.int x2), .val (.int x3), .val (.ref b1), .val (.int (4 : Int32)), .val (.int ad), .val (.ref b127), .val (.ref b135), .val (.ref b1), .val (.int (1 : Int32)), .val (.ref ww), .val (.ref t7)] [(.int (4 : Int32))])) (fun t_ k_ => XS.iload X159.here hx rfl (hb hby at_160) rfl k_) ?_
    refine own_by (T' := T159) (g' := (mkF m 163 #[.val (.int qa), .val (.int x0), .val (.int x1), .val (.int x2), .val (.int x3), .val (.ref b1), .val (.int (4 : Int32)), .val (.int ad), .val (.ref b127), .val (.ref b135), .val (.ref b1), .val (.int (1 : Int32)), .val (.ref ww), .val (.ref t7)] [(.int (4 : Int32)), (.int (4 : Int32))])) (fun t_ k_ => XS.iconst X159.here hx rfl (hb hby at_162) k_) ?_
    refine own_by (T' := T159) (g' := (mkF m 212 #[.val (.int qa), .val (.int x0), .val (.int x1), .val (.int x2), .val (.int x3), .val (.ref b1), .val (.int (4 : Int32)), .val (.int ad), .val (.ref b127), .val (.ref b135), .val (.ref b1), .val (.int (1 : Int32)), .val (.ref ww), .val (.ref t7)] [])) (fun t_ k_ => XS.icmpYes X159.here hx rfl (pc0 := 163) (pc' := 212) rfl (hb hby at_163) rfl (flt ((by decide) : ¬ ((4 : Int32) < (4 : Int32)))).2.1 (by decide) (by decide) k_) ?_
    refine own_by (T' := T159) (g' := (mkF m 214 #[.val (.int qa), .val (.int x0), .val (.int x1), .val (.int x2), .val (.int x3), .val (.ref b1), .val (.int (4 : Int32)), .val (.int ad), .val (.ref b127), .val (.ref b135), .val (.ref b1), .val (.int (1 : Int32)), .val (.ref ww), .val (.ref t7)] [(.int (1 : Int32))])) (fun t_ k_ => XS.iload X159.here hx rfl (hb hby at_212) rfl k_) ?_
    refine own_by (T' := T159) (g' := (mkF m 217 #[.val (.int qa), .val (.int x0), .val (.int x1), .val (.int x2), .val (.int x3), .val (.ref b1), .val (.int (4 : Int32)), .val (.int ad), .val (.ref b127), .val (.ref b135), .val (.ref b1), .val (.int (1 : Int32)), .val (.ref ww), .val (.ref t7)] [])) (fun t_ k_ => XS.ifNo X159.here hx rfl (hb hby at_214) rfl ((if0 _ _).trans (feq ((by decide) : ¬ ((1 : Int32) = (0 : Int32)))).1) k_) ?_
    refine own_by (T' := T159) (g' := (mkF m 219 #[.val (.int qa), .val (.int x0), .val (.int x1), .val (.int x2), .val (.int x3), .val (.ref b1), .val (.int (4 : Int32)), .val (.int ad), .val (.ref b127), .val (.ref b135), .val (.ref b1), .val (.int (1 : Int32)), .val (.ref ww), .val (.ref t7)] [(.ref t7)])) (fun t_ k_ => XS.aload X159.here hx rfl (hb hby at_217) rfl rfl k_) ?_
    refine own_by (T' := T159) (g' := (mkF m 221 #[.val (.int qa), .val (.int x0), .val (.int x1), .val (.int x2), .val (.int x3), .val (.ref b1), .val (.int (4 : Int32)), .val (.int ad), .val (.ref b127), .val (.ref b135), .val (.ref b1), .val (.int (1 : Int32)), .val (.ref ww), .val (.ref t7)] [(.ref b1), (.ref t7)])) (fun t_ k_ => XS.aload X159.here hx rfl (hb hby at_219) rfl rfl k_) ?_
    refine own_by (T' := T159) (g' := (mkF m 224 #[.val (.int qa), .val (.int x0), .val (.int x1), .val (.int x2), .val (.int x3), .val (.ref b1), .val (.int (4 : Int32)), .val (.int ad), .val (.ref b127), .val (.ref b135), .val (.ref b1), .val (.int (1 : Int32)), .val (.ref ww), .val (.ref t7)] [])) (fun t_ k_ => Jvm.RoadKit.acmp (g := (mkF m 221 #[.val (.int qa), .val (.int x0), .val (.int x1), .val (.int x2), .val (.int x3), .val (.ref b1), .val (.int (4 : Int32)), .val (.int ad), .val (.ref b127), .val (.ref b135), .val (.ref b1), .val (.int (1 : Int32)), .val (.ref ww), .val (.ref t7)] [(.ref b1), (.ref t7)])) X159 hx rfl rfl rfl (pc0 := 221) (pc' := 224) (same := false) rfl (hb hby at_221) rfl (decide_eq_false (fun q_ => (Ne.symm nw) (Value.ref.inj q_))) (by decide) (by decide) k_) ?_
    refine own_by (T' := T159) (g' := (mkF m 226 #[.val (.int qa), .val (.int x0), .val (.int x1), .val (.int x2), .val (.int x3), .val (.ref b1), .val (.int (4 : Int32)), .val (.int ad), .val (.ref b127), .val (.ref b135), .val (.ref b1), .val (.int (1 : Int32)), .val (.ref ww), .val (.ref t7)] [(.ref t7)])) (fun t_ k_ => XS.aload X159.here hx rfl (hb hby at_224) rfl rfl k_) ?_
    refine own_by (T' := T159) (g' := (mkF m 227 #[.val (.int qa), .val (.int x0), .val (.int x1), .val (.int x2), .val (.int x3), .val (.ref b1), .val (.int (4 : Int32)), .val (.int ad), .val (.ref b127), .val (.ref b135), .val (.ref b1), .val (.int (1 : Int32)), .val (.ref ww), .val (.ref t7)] [(.int (7 : Int32))])) (fun t_ k_ => own_alen X159 hx hZ e159 Vw (z := (7 : Int32)) rfl (g := (mkF m 226 #[.val (.int qa), .val (.int x0), .val (.int x1), .val (.int x2), .val (.int x3), .val (.ref b1), .val (.int (4 : Int32)), .val (.int ad), .val (.ref b127), .val (.ref b135), .val (.ref b1), .val (.int (1 : Int32)), .val (.ref ww), .val (.ref t7)] [(.ref t7)])) rfl rfl (hb hby at_226) _ k_) ?_
    refine own_by (T' := T159) (g' := (mkF m 229 #[.val (.int qa), .val (.int x0), .val (.int x1), .val (.int x2), .val (.int x3), .val (.ref b1), .val (.int (4 : Int32)), .val (.int ad), .val (.ref b127), .val (.ref b135), .val (.ref b1), .val (.int (1 : Int32)), .val (.ref ww), .val (.ref t7)] [(.int (7 : Int32)), (.int (7 : Int32))])) (fun t_ k_ => XS.bipush X159.here hx rfl (hb hby at_227) k_) ?_
    refine own_by (T' := T159) (g' := (mkF m 232 #[.val (.int qa), .val (.int x0), .val (.int x1), .val (.int x2), .val (.int x3), .val (.ref b1), .val (.int (4 : Int32)), .val (.int ad), .val (.ref b127), .val (.ref b135), .val (.ref b1), .val (.int (1 : Int32)), .val (.ref ww), .val (.ref t7)] [])) (fun t_ k_ => XS.icmpNo X159.here hx rfl (hb hby at_229) rfl (teq ((by decide) : (7 : Int32) = (7 : Int32))).2 k_) ?_
    refine own_by (T' := T159) (g' := (mkF m 234 #[.val (.int qa), .val (.int x0), .val (.int x1), .val (.int x2), .val (.int x3), .val (.ref b1), .val (.int (4 : Int32)), .val (.int ad), .val (.ref b127), .val (.ref b135), .val (.ref b1), .val (.int (1 : Int32)), .val (.ref ww), .val (.ref t7)] [(.ref t7)])) (fun t_ k_ => XS.aload X159.here hx rfl (hb hby at_232) rfl rfl k_) ?_
    refine own_by (T' := T159) (g' := (mkF m 235 #[.val (.int qa), .val (.int x0), .val (.int x1), .val (.int x2), .val (.int x3), .val (.ref b1), .val (.int (4 : Int32)), .val (.int ad), .val (.ref b127), .val (.ref b135), .val (.ref b1), .val (.int (1 : Int32)), .val (.ref ww), .val (.ref t7)] [(.int x0), (.ref t7)])) (fun t_ k_ => XS.iloadN X159.here hx rfl (hb hby at_234) rfl k_) ?_
    refine own_by (T' := T159) (g' := (mkF m 236 #[.val (.int qa), .val (.int x0), .val (.int x1), .val (.int x2), .val (.int x3), .val (.ref b1), .val (.int (4 : Int32)), .val (.int ad), .val (.ref b127), .val (.ref b135), .val (.ref b1), .val (.int (1 : Int32)), .val (.ref ww), .val (.ref t7)] [(.int x1), (.int x0), (.ref t7)])) (fun t_ k_ => XS.iloadN X159.here hx rfl (hb hby at_235) rfl k_) ?_
    refine own_by (T' := T159) (g' := (mkF m 237 #[.val (.int qa), .val (.int x0), .val (.int x1), .val (.int x2), .val (.int x3), .val (.ref b1), .val (.int (4 : Int32)), .val (.int ad), .val (.ref b127), .val (.ref b135), .val (.ref b1), .val (.int (1 : Int32)), .val (.ref ww), .val (.ref t7)] [(.int x2), (.int x1), (.int x0), (.ref t7)])) (fun t_ k_ => XS.iloadN X159.here hx rfl (hb hby at_236) rfl k_) ?_
    refine own_by (T' := T159) (g' := (mkF m 239 #[.val (.int qa), .val (.int x0), .val (.int x1), .val (.int x2), .val (.int x3), .val (.ref b1), .val (.int (4 : Int32)), .val (.int ad), .val (.ref b127), .val (.ref b135), .val (.ref b1), .val (.int (1 : Int32)), .val (.ref ww), .val (.ref t7)] [(.int x3), (.int x2), (.int x1), (.int x0), (.ref t7)])) (fun t_ k_ => XS.iload X159.here hx rfl (hb hby at_237) rfl k_) ?_
    obtain ⟨_, T160, L160, X160, hQ160, st160⟩ := own_callS X159 hx hZ (y := (⟨"com/example/rowgate/rowgate/StoredValueArrayPinLaw", "same", "([BIIII)Z"⟩ : MethodName)) hown (hw _ (List.mem_of_getElem? (i := 24) rfl)) (hw _ (List.mem_of_getElem? (i := 25) rfl)) (hw _ (List.mem_of_getElem? (i := 26) rfl)) (hw _ (List.mem_of_getElem? (i := 27) rfl)) (by decide) (argsL := [(.ref t7), (.int x0), (.int x1), (.int x2), (.int x3)]) (rest := []) (own_rm_sm l Z a0 hw [] t7 x0 x1 x2 x3 7 (fun i => if 4 ≤ i ∧ i < 5 then (fun i => if i = 0 then (nar .byte ad) else (fun _ => (0 : Int32)) i) (0 + (i - 4)) else (if 0 ≤ i ∧ i < 4 then own_b4 x0 x1 x2 x3 (0 + (i - 0)) else g7 i)) T149.heap n0 f150 Vw (by decide) rfl rfl rfl rfl) e159 (W := 0) (by decide) (by decide) (by decide) (by decide) (g := (mkF m 239 #[.val (.int qa), .val (.int x0), .val (.int x1), .val (.int x2), .val (.int x3), .val (.ref b1), .val (.int (4 : Int32)), .val (.int ad), .val (.ref b127), .val (.ref b135), .val (.ref b1), .val (.int (1 : Int32)), .val (.ref ww), .val (.ref t7)] [(.int x3), (.int x2), (.int x1), (.int x0), (.ref t7)])) rfl (by rw [hml]; rfl) (lenOf own_pd5 rfl) rfl (by show 2 * 0 + _ ≤ _; exact Nat.le_of_eq rfl) (hb hby at_239)
    obtain ⟨rfl, Nq160, e160⟩ := hQ160
    have N160 := Fr.app N159 Nq160
    refine st160 _ ?_
    show own_Goes p e below _ T160 (mkF m 242 #[.val (.int qa), .val (.int x0), .val (.int x1), .val (.int x2), .val (.int x3), .val (.ref b1), .val (.int (4 : Int32)), .val (.int ad), .val (.ref b127), .val (.ref b135), .val (.ref b1), .val (.int (1 : Int32)), .val (.ref ww), .val (.ref t7)] [(.int (1 : Int32))])
    refine own_by (T' := T160) (g' := (mkF m 245 #[.val (.int qa), .val (.int x0), .val (.int x1), .val (.int x2), .val (.int x3), .val (.ref b1), .val (.int (4 : Int32)), .val (.int ad), .val (.ref b127), .val (.ref b135), .val (.ref b1), .val (.int (1 : Int32)), .val (.ref ww), .val (.ref t7)] [])) (fun t_ k_ => XS.ifNo X160.here hx rfl (hb hby at_242) rfl ((if0 _ _).trans (feq ((by decide) : ¬ ((1 : Int32) = (0 : Int32)))).1) k_) ?_
    refine own_by (T' := T160) (g' := (mkF m 247 #[.val (.int qa), .val (.int x0), .val (.int x1), .val (.int x2), .val (.int x3), .val (.ref b1), .val (.int (4 : Int32)), .val (.int ad), .val (.ref b127), .val (.ref b135), .val (.ref b1), .val (.int (1 : Int32)), .val (.ref ww), .val (.ref t7)] [(.ref t7)])) (fun t_ k_ => XS.aload X160.here hx rfl (hb hby at_245) rfl rfl k_) ?_
    refine own_by (T' := T160) (g' := (mkF m 248 #[.val (.int qa), .val (.int x0), .val (.int x1), .val (.int x2), .val (.int x3), .val (.ref b1), .val (.int (4 : Int32)), .val (.int ad), .val (.ref b127), .val (.ref b135), .val (.ref b1), .val (.int (1 : Int32)), .val (.ref ww), .val (.ref t7)] [(.int (4 : Int32)), (.ref t7)])) (fun t_ k_ => XS.iconst X160.here hx rfl (hb hby at_247) k_) ?_
    refine own_by (T' := T160) (g' := (mkF m 249 #[.val (.int qa), .val (.int x0), .val (.int x1), .val (.int x2), .val (.int x3), .val (.ref b1), .val (.int (4 : Int32)), .val (.int ad), .val (.ref b127), .val (.ref b135), .val (.ref b1), .val (.int (1 : Int32)), .val (.ref ww), .val (.ref t7)] [(.int ((fun i => if 4 ≤ i ∧ i < 5 then (fun i => if i = 0 then (nar .byte ad) else (fun _ => (0 : Int32)) i) (0 + (i - 4)) else (if 0 ≤ i ∧ i < 4 then own_b4 x0 x1 x2 x3 (0 + (i - 0)) else g7 i)) 4))])) (fun t_ k_ => own_bal X160 hx hZ e160 Vw (j := (4 : Int32)) (by decide) (by decide) (g := (mkF m 248 #[.val (.int qa), .val (.int x0), .val (.int x1), .val (.int x2), .val (.int x3), .val (.ref b1), .val (.int (4 : Int32)), .val (.int ad), .val (.ref b127), .val (.ref b135), .val (.ref b1), .val (.int (1 : Int32)), .val (.ref ww), .val (.ref t7)] [(.int (4 : Int32)), (.ref t7)])) rfl rfl (hb hby at_248) _ k_) ?_
    refine own_by (T' := T160) (g' := (mkF m 251 #[.val (.int qa), .val (.int x0), .val (.int x1), .val (.int x2), .val (.int x3), .val (.ref b1), .val (.int (4 : Int32)), .val (.int ad), .val (.ref b127), .val (.ref b135), .val (.ref b1), .val (.int (1 : Int32)), .val (.ref ww), .val (.ref t7)] [(.int ad), (.int ((fun i => if 4 ≤ i ∧ i < 5 then (fun i => if i = 0 then (nar .byte ad) else (fun _ => (0 : Int32)) i) (0 + (i - 4)) else (if 0 ≤ i ∧ i < 4 then own_b4 x0 x1 x2 x3 (0 + (i - 0)) else g7 i)) 4))])) (fun t_ k_ => XS.iload X160.here hx rfl (hb hby at_249) rfl k_) ?_
    refine own_by (T' := T160) (g' := (mkF m 254 #[.val (.int qa), .val (.int x0), .val (.int x1), .val (.int x2), .val (.int x3), .val (.ref b1), .val (.int (4 : Int32)), .val (.int ad), .val (.ref b127), .val (.ref b135), .val (.ref b1), .val (.int (1 : Int32)), .val (.ref ww), .val (.ref t7)] [])) (fun t_ k_ => XS.icmpNo X160.here hx rfl (hb hby at_251) rfl (teq (hnb : ((fun i => if 4 ≤ i ∧ i < 5 then (fun i => if i = 0 then (nar .byte ad) else (fun _ => (0 : Int32)) i) (0 + (i - 4)) else (if 0 ≤ i ∧ i < 4 then own_b4 x0 x1 x2 x3 (0 + (i - 0)) else g7 i)) 4) = ad)).2 k_) ?_
    refine own_by (T' := T160) (g' := (mkF m 256 #[.val (.int qa), .val (.int x0), .val (.int x1), .val (.int x2), .val (.int x3), .val (.ref b1), .val (.int (4 : Int32)), .val (.int ad), .val (.ref b127), .val (.ref b135), .val (.ref b1), .val (.int (1 : Int32)), .val (.ref ww), .val (.ref t7)] [(.ref b1)])) (fun t_ k_ => XS.aload X160.here hx rfl (hb hby at_254) rfl rfl k_) ?_
    refine own_by (T' := T160) (g' := (mkF m 257 #[.val (.int qa), .val (.int x0), .val (.int x1), .val (.int x2), .val (.int x3), .val (.ref b1), .val (.int (4 : Int32)), .val (.int ad), .val (.ref b127), .val (.ref b135), .val (.ref b1), .val (.int (1 : Int32)), .val (.ref ww), .val (.ref t7)] [(.int x0), (.ref b1)])) (fun t_ k_ => XS.iloadN X160.here hx rfl (hb hby at_256) rfl k_) ?_
    refine own_by (T' := T160) (g' := (mkF m 258 #[.val (.int qa), .val (.int x0), .val (.int x1), .val (.int x2), .val (.int x3), .val (.ref b1), .val (.int (4 : Int32)), .val (.int ad), .val (.ref b127), .val (.ref b135), .val (.ref b1), .val (.int (1 : Int32)), .val (.ref ww), .val (.ref t7)] [(.int x1), (.int x0), (.ref b1)])) (fun t_ k_ => XS.iloadN X160.here hx rfl (hb hby at_257) rfl k_) ?_
    refine own_by (T' := T160) (g' := (mkF m 259 #[.val (.int qa), .val (.int x0), .val (.int x1), .val (.int x2), .val (.int x3), .val (.ref b1), .val (.int (4 : Int32)), .val (.int ad), .val (.ref b127), .val (.ref b135), .val (.ref b1), .val (.int (1 : Int32)), .val (.ref ww), .val (.ref t7)] [(.int x2), (.int x1), (.int x0), (.ref b1)])) (fun t_ k_ => XS.iloadN X160.here hx rfl (hb hby at_258) rfl k_) ?_
    refine own_by (T' := T160) (g' := (mkF m 261 #[.val (.int qa), .val (.int x0), .val (.int x1), .val (.int x2), .val (.int x3), .val (.ref b1), .val (.int (4 : Int32)), .val (.int ad), .val (.ref b127), .val (.ref b135), .val (.ref b1), .val (.int (1 : Int32)), .val (.ref ww), .val (.ref t7)] [(.int x3), (.int x2), (.int x1), (.int x0), (.ref b1)])) (fun t_ k_ => XS.iload X160.here hx rfl (hb hby at_259) rfl k_) ?_
    obtain ⟨_, T161, L161, X161, hQ161, st161⟩ := own_callS X160 hx hZ (y := (⟨"com/example/rowgate/rowgate/StoredValueArrayPinLaw", "same", "([BIIII)Z"⟩ : MethodName)) hown (hw _ (List.mem_of_getElem? (i := 24) rfl)) (hw _ (List.mem_of_getElem? (i := 25) rfl)) (hw _ (List.mem_of_getElem? (i := 26) rfl)) (hw _ (List.mem_of_getElem? (i := 27) rfl)) (by decide) (argsL := [(.ref b1), (.int x0), (.int x1), (.int x2), (.int x3)]) (rest := []) (own_rm_sm l Z a0 hw [] b1 x0 x1 x2 x3 4 (own_b4 x0 x1 x2 x3) T149.heap n0 f150 f151 (by decide) rfl rfl rfl rfl) e160 (W := 0) (by decide) (by decide) (by decide) (by decide) (g := (mkF m 261 #[.val (.int qa), .val (.int x0), .val (.int x1), .val (.int x2), .val (.int x3), .val (.ref b1), .val (.int (4 : Int32)), .val (.int ad), .val (.ref b127), .val (.ref b135), .val (.ref b1), .val (.int (1 : Int32)), .val (.ref ww), .val (.ref t7)] [(.int x3), (.int x2), (.int x1), (.int x0), (.ref b1)])) rfl (by rw [hml]; rfl) (lenOf own_pd5 rfl) rfl (by show 2 * 0 + _ ≤ _; exact Nat.le_of_eq rfl) (hb hby at_261)
    obtain ⟨rfl, Nq161, e161⟩ := hQ161
    have N161 := Fr.app N160 Nq161
    refine st161 _ ?_
    show own_Goes p e below _ T161 (mkF m 264 #[.val (.int qa), .val (.int x0), .val (.int x1), .val (.int x2), .val (.int x3), .val (.ref b1), .val (.int (4 : Int32)), .val (.int ad), .val (.ref b127), .val (.ref b135), .val (.ref b1), .val (.int (1 : Int32)), .val (.ref ww), .val (.ref t7)] [(.int (1 : Int32))])
    refine own_by (T' := T161) (g' := (mkF m 267 #[.val (.int qa), .val (.int x0), .val (.int x1), .val (.int x2), .val (.int x3), .val (.ref b1), .val (.int (4 : Int32)), .val (.int ad), .val (.ref b127), .val (.ref b135), .val (.ref b1), .val (.int (1 : Int32)), .val (.ref ww), .val (.ref t7)] [])) (fun t_ k_ => XS.ifNo X161.here hx rfl (hb hby at_264) rfl ((if0 _ _).trans (feq ((by decide) : ¬ ((1 : Int32) = (0 : Int32)))).1) k_) ?_
    refine own_by (T' := T161) (g' := (mkF m 268 #[.val (.int qa), .val (.int x0), .val (.int x1), .val (.int x2), .val (.int x3), .val (.ref b1), .val (.int (4 : Int32)), .val (.int ad), .val (.ref b127), .val (.ref b135), .val (.ref b1), .val (.int (1 : Int32)), .val (.ref ww), .val (.ref t7)] [(.int (1 : Int32))])) (fun t_ k_ => XS.iconst X161.here hx rfl (hb hby at_267) k_) ?_
    refine own_by (T' := T161) (g' := (mkF m 272 #[.val (.int qa), .val (.int x0), .val (.int x1), .val (.int x2), .val (.int x3), .val (.ref b1), .val (.int (4 : Int32)), .val (.int ad), .val (.ref b127), .val (.ref b135), .val (.ref b1), .val (.int (1 : Int32)), .val (.ref ww), .val (.ref t7)] [(.int (1 : Int32))])) (fun t_ k_ => XS.goto X161.here hx rfl (pc0 := 268) (pc' := 272) rfl (hb hby at_268) (by decide) (by decide) k_) ?_
    refine own_by (T' := T161) (g' := (mkF m 274 #[.val (.int qa), .val (.int x0), .val (.int x1), .val (.int x2), .val (.int x3), .val (.ref b1), .val (.int (4 : Int32)), .val (.int ad), .val (.ref b127), .val (.ref b135), .val (.ref b1), .val (.int (1 : Int32)), .val (.ref ww), .val (.ref t7)] [])) (fun t_ k_ => XS.istore X161.here hx rfl (hb hby at_272) rfl (l' := #[.val (.int qa), .val (.int x0), .val (.int x1), .val (.int x2), .val (.int x3), .val (.ref b1), .val (.int (4 : Int32)), .val (.int ad), .val (.ref b127), .val (.ref b135), .val (.ref b1), .val (.int (1 : Int32)), .val (.ref ww), .val (.ref t7)]) rfl k_) ?_
    refine own_by (T' := T161) (g' := (mkF m 276 #[.val (.int qa), .val (.int x0), .val (.int x1), .val (.int x2), .val (.int x3), .val (.ref b1), .val (.int (4 : Int32)), .val (.int ad), .val (.ref b127), .val (.ref b135), .val (.ref b1), .val (.int (1 : Int32)), .val (.ref ww), .val (.ref t7)] [(.int (1 : Int32))])) (fun t_ k_ => XS.iload X161.here hx rfl (hb hby at_274) rfl k_) ?_
    refine own_retN X161 hx (t := .boolean) Bd.returns hlk (by simp) (hb hby at_276) (by decide) (by decide) (v := (1 : Int32)) rfl ?_
    rw [e161]
    exact ⟨rfl, N161⟩
set_option maxRecDepth 65536 in
set_option maxHeartbeats 40000000 in
theorem own_comes {Post : Tables → Env → Array Value → State → Outcome → State → Prop} (hpost : ∀ tb e args s v u, (limb_1_1.after args s (.returned v) u = true ∧ limb_1_2.after args s (.returned v) u = true ∧ True) → FrameEnd s (.returned v) u (Jvm.fieldLocs frame_1_writes args s ++ Jvm.arrayLocs frame_1_arrays args s ++ Jvm.staticLocs frame_1_statics s) 24 128 → Post tb e args s (.returned v) u) :
    ArmFor flags0 classFile x code maxLocals ret World_1 tables_1 room_1 Calls_1 rest_1 Pre_1 Post := by
  intro l hfl _ _ p e ha hc hk s m args below hf hA hF happ hP
  obtain ⟨hcalls, hrest, hpre⟩ := hP
  obtain ⟨-, -, -, hnamed, -, -, -, hat⟩ := (Spec.applies_iff hf).mp happ
  obtain ⟨hg, hn⟩ := and_e (Cond.before_iff.mp (show (Jvm.Cond.and given_1 narrow_1).before args s = true from hpre))
  obtain ⟨g0, gr0⟩ := and_e hg
  obtain ⟨w0, w1, w2, w3, w4, rfl⟩ : ∃ w0 w1 w2 w3 w4 : Value, args = #[w0, w1, w2, w3, w4] := by
    have hs : args.size = 5 := by simpa [Cond.value, given_1] using g0
    obtain ⟨L⟩ := args
    match L, hs with
    | [w0, w1, w2, w3, w4], _ => exact ⟨w0, w1, w2, w3, w4, rfl⟩
  have hw := fun d (hd : d ∈ tables_1) => atoms_spec (ws := Jvm.Cond.code x code maxLocals ret :: tables_1) hat d (List.mem_cons_of_mem _ hd)
  have hfit : Fit s := fun {y c} hc i hi => by
    obtain ⟨ha, rfl⟩ := Array.getElem?_eq_some_iff.mp hc
    have q := List.all_eq_true.mp ((Array.all_eq_true_iff_forall_mem.mp hF) _ (Array.getElem_mem ha)) i (List.mem_range.mpr hi)
    simpa [Array.getElem?_eq_getElem hi] using q
  obtain ⟨q0, gr1⟩ := and_e gr0
  obtain ⟨q1, gr2⟩ := and_e gr1
  obtain ⟨q2, gr3⟩ := and_e gr2
  obtain ⟨q3, gr4⟩ := and_e gr3
  obtain ⟨i0, ei0⟩ := is_v q0
  obtain rfl : w0 = (.int i0) := Option.some.inj ei0
  obtain ⟨i1, ei1⟩ := is_v q1
  obtain rfl : w1 = (.int i1) := Option.some.inj ei1
  obtain ⟨i2, ei2⟩ := is_v q2
  obtain rfl : w2 = (.int i2) := Option.some.inj ei2
  obtain ⟨i3, ei3⟩ := is_v q3
  obtain rfl : w3 = (.int i3) := Option.some.inj ei3
  obtain ⟨i4, ei4⟩ := is_v gr4
  obtain rfl : w4 = (.int i4) := Option.some.inj ei4
  obtain ⟨n, o, h1, h2, h3, _, L, rfl, ⟨rfl, N⟩, hq⟩ := own_rm_law l s _ hw tables_1 i0 i1 i2 i3 i4  s.heap s.heap.size (Nat.le_refl _)  p e ha hc hk s m _ below hf ((Spec.applies_iff_loose hf).mp happ).1 ⟨rfl, State.Warmed39.refl s, rfl⟩ trivial
  refine ⟨n, _, h1, h2, h3, hpost _ _ _ _ _ _ ⟨Cond.after_iff.mpr rfl, Cond.after_iff.mpr (eq_i res_at (Term.int_eval (1)) rfl), trivial⟩ ⟨hq.1, hq.2.1, (hq.2.2.sift fun y hy => Or.inr (N y hy)).mono (by decide) (by decide)⟩⟩
theorem main_1_1 : Claimed_1_1 := own_comes fun _ _ _ _ _ _ h hF => ⟨h.1, hF⟩
theorem main_1_2 : Claimed_1_2 := own_comes fun _ _ _ _ _ _ h hF => ⟨h.2.1, hF⟩
end Jvm.Pilot.@@N@@
namespace Jvm.Pilot.@@N@@
open Jvm Jvm.ClassFile Sem Op Lib Jvm.Free Jvm.Stand Jvm.Pilot.@@N@@.Jvm.D
/-! MADE BY PROGRAM (witnessworld.py) out of the Statement's table words and the real class files: 11 classes; the members and pool entries that the words name. The judged class is class 1, her method 4. -/
namespace start1
open Jvm.ClassFile
def u (s : String) : CpInfo := .utf8 (stringToUtf16 s)
/-- a pool by its gaps: so many unusable entries, then the entry; so many at the end -/
def gap : Nat → List CpInfo → List CpInfo
  | 0, r => r
  | n + 1, r => .unusable :: gap n r
def poolList (es : List (Nat × CpInfo)) (last : Nat) : List CpInfo := es.foldr (fun e r => gap e.1 (e.2 :: r)) (gap last [])
def pool (es : List (Nat × CpInfo)) (last : Nat) : Array CpInfo := ⟨poolList es last⟩
def fileOf (pool : Array CpInfo) (this : Nat) (attrs : Array Attribute := #[]) (ms : Array MethodInfo := #[]) (fl : Nat := 33) (sup : Nat := 0) (ifs : Array Nat := #[]) (fds : Array FieldInfo := #[]) : ClassFile where
  minorVersion := 0
  majorVersion := 65
  constantPool := pool
  accessFlags := fl
  thisClass := this
  superClass := sup
  interfaces := ifs
  fields := fds
  methods := ms
  attributes := attrs
def plain (name : String) (sup : Option ClassId) : Class where
  name := name
  kind := .ordinary
  loader := none
  accessFlags := 33
  super := sup
  interfaces := #[]
  cf := none
  fields := #[]
  methods := #[]
  instanceTypes := #[]
  staticTypes := #[]
  resolved := #[]
  callSites := []
  init := .initialized
  statics := none
  mirror := none

def pool0 : Array CpInfo := pool [(5, u "<init>"), (0, u "()V"), (1, .class_ 10), (1, u "java/lang/Object")] 113

def k0c0 : Code := { maxStack := 0, maxLocals := 1, code := object_method_1_code, exceptionTable := #[], attributes := #[] }
def k0m0 : Method := { name := "<init>", desc := "()V", sig := { parameters := [], returnType := none }, accessFlags := 1, code := some k0c0 }
/-- java/lang/Object -/
def k0 : Class := { plain "java/lang/Object" none with
  accessFlags := 33
  interfaces := #[]
  cf := some (fileOf pool0 8 #[] #[{ accessFlags := 1, nameIndex := 5, descriptorIndex := 6, attributes := #[] }] 33 0 #[] #[])
  fields := #[]
  methods := #[k0m0]
  instanceTypes := #[]
  staticTypes := #[]
  resolved := Array.replicate 124 none
  statics := none }

def pool1 : Array CpInfo := pool [(2, .class_ 4), (1, u "java/lang/Object"), (0, u "<init>"), (0, u "()V"), (0, .methodref 8 9), (0, .class_ 10), (0, .nameAndType 11 12), (0, u "com/example/rowgate/rowgate/StoredValueArrayPinLaw"), (0, u "orig"), (0, u "(IIIII)B"), (0, .integer 2147483647), (0, .class_ 15), (0, u "com/example/rowgate/rowgate/StoredValue"), (0, .methodref 14 17), (0, .nameAndType 5 18), (0, u "([BI)V"), (0, .methodref 14 20), (0, .nameAndType 21 22), (0, u "array"), (0, u "()[B"), (0, .methodref 8 24), (0, .nameAndType 25 26), (0, u "same"), (0, u "([BIIII)Z"), (0, .methodref 14 28), (0, .nameAndType 29 30), (0, u "length"), (0, u "()I"), (0, .methodref 14 32), (0, .nameAndType 33 34), (0, u "appended"), (0, u "([B)Lcom/example/rowgate/rowgate/StoredValue;"), (0, .methodref 8 36), (0, .nameAndType 37 38), (0, u "afterAppend"), (0, u "([BIBIIII)Z"), (5, u "law"), (0, u "(IIIII)Z")] 5

def k1m0 : Method := { name := "<init>", desc := "()V", sig := { parameters := [], returnType := none }, accessFlags := 2, code := none }
def k1c1 : Code := { maxStack := 2, maxLocals := 5, code := method_2_code, exceptionTable := #[], attributes := #[] }
def k1m1 : Method := { name := "orig", desc := "(IIIII)B", sig := { parameters := [.int, .int, .int, .int, .int], returnType := some .byte }, accessFlags := 10, code := some k1c1 }
def k1c2 : Code := { maxStack := 2, maxLocals := 5, code := method_3_code, exceptionTable := #[], attributes := #[] }
def k1m2 : Method := { name := "same", desc := "([BIIII)Z", sig := { parameters := [(.array .byte), .int, .int, .int, .int], returnType := some .boolean }, accessFlags := 10, code := some k1c2 }
def k1c3 : Code := { maxStack := 6, maxLocals := 8, code := method_4_code, exceptionTable := #[], attributes := #[] }
def k1m3 : Method := { name := "afterAppend", desc := "([BIBIIII)Z", sig := { parameters := [(.array .byte), .int, .byte, .int, .int, .int, .int], returnType := some .boolean }, accessFlags := 10, code := some k1c3 }
def k1c4 : Code := { maxStack := 7, maxLocals := 14, code := code, exceptionTable := #[], attributes := #[] }
def k1m4 : Method := { name := "law", desc := "(IIIII)Z", sig := { parameters := [.int, .int, .int, .int, .int], returnType := some .boolean }, accessFlags := 9, code := some k1c4 }
/-- com/example/rowgate/rowgate/StoredValueArrayPinLaw -/
def k1 : Class := { plain "com/example/rowgate/rowgate/StoredValueArrayPinLaw" (some 0) with
  accessFlags := 49
  interfaces := #[]
  cf := some (fileOf pool1 8 #[] #[{ accessFlags := 2, nameIndex := 5, descriptorIndex := 6, attributes := #[] }, { accessFlags := 10, nameIndex := 11, descriptorIndex := 12, attributes := #[] }, { accessFlags := 10, nameIndex := 25, descriptorIndex := 26, attributes := #[] }, { accessFlags := 10, nameIndex := 37, descriptorIndex := 38, attributes := #[] }, { accessFlags := 9, nameIndex := 44, descriptorIndex := 45, attributes := #[] }] 49 2 #[] #[])
  fields := #[]
  methods := #[k1m0, k1m1, k1m2, k1m3, k1m4]
  instanceTypes := #[]
  staticTypes := #[]
  resolved := Array.replicate 51 none
  statics := none }

def pool2 : Array CpInfo := pool [(3, .methodref 4 5), (0, .class_ 6), (0, .nameAndType 7 8), (0, u "com/example/rowgate/rowgate/StoredValue"), (0, u "<init>"), (0, u "([BI)V"), (0, .methodref 10 11), (0, .class_ 12), (0, .nameAndType 7 13), (0, u "java/lang/Object"), (0, u "()V"), (0, .fieldref 4 15), (0, .nameAndType 16 17), (0, u "bytes"), (0, u "[B"), (0, .fieldref 4 19), (0, .nameAndType 20 21), (0, u "file"), (0, u "Lcom/example/rowgate/rowgate/StoredValue$FileBytes;"), (0, .fieldref 4 23), (0, .nameAndType 24 25), (0, u "offset"), (0, u "J"), (0, .fieldref 4 27), (0, .nameAndType 28 29), (0, u "length"), (0, u "I"), (10, u "()[B"), (0, .methodref 4 42), (0, .nameAndType 43 44), (0, u "copyTo"), (0, u "([B)V"), (0, .methodref 46 47), (0, .class_ 48), (0, .nameAndType 49 50), (0, u "java/lang/System"), (0, u "arraycopy"), (0, u "(Ljava/lang/Object;ILjava/lang/Object;II)V"), (7, .class_ 60), (1, u "com/example/rowgate/rowgate/StoredValue$FileBytes"), (12, .integer 2147483639), (0, .methodref 75 76), (0, .class_ 77), (0, .nameAndType 78 79), (0, u "java/lang/Math"), (0, u "min"), (0, u "(II)I"), (0, u "MAX_LENGTH"), (4, u "array"), (1, u "()I"), (5, u "appended"), (0, u "([B)Lcom/example/rowgate/rowgate/StoredValue;")] 5

def k2c0 : Code := { maxStack := 3, maxLocals := 3, code := prog_43_method_2_code, exceptionTable := #[], attributes := #[] }
def k2m0 : Method := { name := "<init>", desc := "([BI)V", sig := { parameters := [(.array .byte), .int], returnType := none }, accessFlags := 0, code := some k2c0 }
def k2c1 : Code := { maxStack := 3, maxLocals := 1, code := prog_43_method_4_code, exceptionTable := #[], attributes := #[] }
def k2m1 : Method := { name := "array", desc := "()[B", sig := { parameters := [], returnType := some (.array .byte) }, accessFlags := 0, code := some k2c1 }
def k2c2 : Code := { maxStack := 1, maxLocals := 1, code := prog_43_method_5_code, exceptionTable := #[], attributes := #[] }
def k2m2 : Method := { name := "length", desc := "()I", sig := { parameters := [], returnType := some .int }, accessFlags := 0, code := some k2c2 }
def k2c3 : Code := { maxStack := 6, maxLocals := 2, code := prog_43_method_8_code, exceptionTable := #[], attributes := #[] }
def k2m3 : Method := { name := "copyTo", desc := "([B)V", sig := { parameters := [(.array .byte)], returnType := none }, accessFlags := 0, code := some k2c3 }
def k2c4 : Code := { maxStack := 5, maxLocals := 5, code := prog_43_method_10_code, exceptionTable := #[], attributes := #[] }
def k2m4 : Method := { name := "appended", desc := "([B)Lcom/example/rowgate/rowgate/StoredValue;", sig := { parameters := [(.array .byte)], returnType := some (.object "com/example/rowgate/rowgate/StoredValue") }, accessFlags := 0, code := some k2c4 }
/-- com/example/rowgate/rowgate/StoredValue -/
def k2 : Class := { plain "com/example/rowgate/rowgate/StoredValue" (some 0) with
  accessFlags := 48
  interfaces := #[]
  cf := some (fileOf pool2 4 #[.nestMembers #[58]] #[{ accessFlags := 0, nameIndex := 7, descriptorIndex := 8, attributes := #[] }, { accessFlags := 0, nameIndex := 85, descriptorIndex := 40, attributes := #[] }, { accessFlags := 0, nameIndex := 28, descriptorIndex := 87, attributes := #[] }, { accessFlags := 0, nameIndex := 43, descriptorIndex := 44, attributes := #[] }, { accessFlags := 0, nameIndex := 93, descriptorIndex := 94, attributes := #[] }] 48 10 #[] #[{ accessFlags := 24, nameIndex := 80, descriptorIndex := 29, attributes := #[] }, { accessFlags := 18, nameIndex := 16, descriptorIndex := 17, attributes := #[] }, { accessFlags := 18, nameIndex := 20, descriptorIndex := 21, attributes := #[] }, { accessFlags := 18, nameIndex := 24, descriptorIndex := 25, attributes := #[] }, { accessFlags := 18, nameIndex := 28, descriptorIndex := 29, attributes := #[] }])
  fields := #[{ name := "MAX_LENGTH", type := .int, accessFlags := 24, slot := 0, constantValue := 0 }, { name := "bytes", type := (.array .byte), accessFlags := 18, slot := 0, constantValue := 0 }, { name := "file", type := (.object "com/example/rowgate/rowgate/StoredValue$FileBytes"), accessFlags := 18, slot := 1, constantValue := 0 }, { name := "offset", type := .long, accessFlags := 18, slot := 2, constantValue := 0 }, { name := "length", type := .int, accessFlags := 18, slot := 3, constantValue := 0 }]
  methods := #[k2m0, k2m1, k2m2, k2m3, k2m4]
  instanceTypes := #[(.array .byte), (.object "com/example/rowgate/rowgate/StoredValue$FileBytes"), .long, .int]
  staticTypes := #[.int]
  resolved := Array.replicate 100 none
  statics := none }

def pool3 : Array CpInfo := pool [(2, .class_ 4), (1, u "java/lang/Object"), (0, u "<init>"), (0, u "()V"), (1, .class_ 10), (1, u "java/lang/System"), (0, u "allowSecurityManager"), (0, u "I"), (16, u "cons"), (0, u "Ljava/io/Console;"), (77, .class_ 110), (1, u "java/lang/System$CallersHolder"), (43, u "initialErrStream"), (0, u "Ljava/io/PrintStream;"), (19, u "security"), (0, u "Ljava/lang/SecurityManager;"), (31, .class_ 209), (0, u "java/lang/System$1"), (7, u "props"), (0, u "Ljava/util/Properties;"), (2, u "lineSeparator"), (0, u "Ljava/lang/String;"), (96, .class_ 321), (1, u "java/lang/System$LoggerFinder"), (5, .class_ 328), (0, u "java/lang/System$Logger"), (67, u "err"), (2, u "out"), (91, u "notSupportedJnuEncoding"), (15, u "in"), (17, u "initialIn"), (0, u "Ljava/io/InputStream;"), (35, u "bootLayer"), (0, u "Ljava/lang/ModuleLayer;"), (99, .class_ 664), (0, u "java/lang/System$2"), (9, u "NEVER"), (2, u "MAYBE"), (49, u "arraycopy"), (0, u "(Ljava/lang/Object;ILjava/lang/Object;II)V"), (72, .class_ 802), (0, u "java/lang/System$Logger$Level")] 31

def k3m0 : Method := { name := "<init>", desc := "()V", sig := { parameters := [], returnType := none }, accessFlags := 2, code := none }
def k3m1 : Method := { name := "arraycopy", desc := "(Ljava/lang/Object;ILjava/lang/Object;II)V", sig := { parameters := [(.object "java/lang/Object"), .int, (.object "java/lang/Object"), .int, .int], returnType := none }, accessFlags := 265, code := none }
/-- java/lang/System -/
def k3 : Class := { plain "java/lang/System" (some 0) with
  accessFlags := 49
  interfaces := #[]
  cf := some (fileOf pool3 8 #[.nestMembers #[319, 327, 801, 108, 663, 208]] #[{ accessFlags := 2, nameIndex := 5, descriptorIndex := 6, attributes := #[] }, { accessFlags := 265, nameIndex := 727, descriptorIndex := 728, attributes := #[] }] 49 2 #[] #[{ accessFlags := 25, nameIndex := 507, descriptorIndex := 526, attributes := #[] }, { accessFlags := 25, nameIndex := 399, descriptorIndex := 155, attributes := #[] }, { accessFlags := 25, nameIndex := 396, descriptorIndex := 155, attributes := #[] }, { accessFlags := 10, nameIndex := 525, descriptorIndex := 526, attributes := #[] }, { accessFlags := 26, nameIndex := 674, descriptorIndex := 12, attributes := #[] }, { accessFlags := 26, nameIndex := 677, descriptorIndex := 12, attributes := #[] }, { accessFlags := 10, nameIndex := 11, descriptorIndex := 12, attributes := #[] }, { accessFlags := 74, nameIndex := 175, descriptorIndex := 176, attributes := #[] }, { accessFlags := 10, nameIndex := 491, descriptorIndex := 222, attributes := #[] }, { accessFlags := 74, nameIndex := 29, descriptorIndex := 30, attributes := #[] }, { accessFlags := 74, nameIndex := 154, descriptorIndex := 155, attributes := #[] }, { accessFlags := 10, nameIndex := 217, descriptorIndex := 218, attributes := #[] }, { accessFlags := 10, nameIndex := 221, descriptorIndex := 222, attributes := #[] }, { accessFlags := 8, nameIndex := 562, descriptorIndex := 563, attributes := #[] }])
  fields := #[{ name := "in", type := (.object "java/io/InputStream"), accessFlags := 25, slot := 0, constantValue := 0 }, { name := "out", type := (.object "java/io/PrintStream"), accessFlags := 25, slot := 1, constantValue := 0 }, { name := "err", type := (.object "java/io/PrintStream"), accessFlags := 25, slot := 2, constantValue := 0 }, { name := "initialIn", type := (.object "java/io/InputStream"), accessFlags := 10, slot := 3, constantValue := 0 }, { name := "NEVER", type := .int, accessFlags := 26, slot := 4, constantValue := 0 }, { name := "MAYBE", type := .int, accessFlags := 26, slot := 5, constantValue := 0 }, { name := "allowSecurityManager", type := .int, accessFlags := 10, slot := 6, constantValue := 0 }, { name := "security", type := (.object "java/lang/SecurityManager"), accessFlags := 74, slot := 7, constantValue := 0 }, { name := "notSupportedJnuEncoding", type := (.object "java/lang/String"), accessFlags := 10, slot := 8, constantValue := 0 }, { name := "cons", type := (.object "java/io/Console"), accessFlags := 74, slot := 9, constantValue := 0 }, { name := "initialErrStream", type := (.object "java/io/PrintStream"), accessFlags := 74, slot := 10, constantValue := 0 }, { name := "props", type := (.object "java/util/Properties"), accessFlags := 10, slot := 11, constantValue := 0 }, { name := "lineSeparator", type := (.object "java/lang/String"), accessFlags := 10, slot := 12, constantValue := 0 }, { name := "bootLayer", type := (.object "java/lang/ModuleLayer"), accessFlags := 8, slot := 13, constantValue := 0 }]
  methods := #[k3m0, k3m1]
  instanceTypes := #[]
  staticTypes := #[(.object "java/io/InputStream"), (.object "java/io/PrintStream"), (.object "java/io/PrintStream"), (.object "java/io/InputStream"), .int, .int, .int, (.object "java/lang/SecurityManager"), (.object "java/lang/String"), (.object "java/io/Console"), (.object "java/io/PrintStream"), (.object "java/util/Properties"), (.object "java/lang/String"), (.object "java/lang/ModuleLayer")]
  resolved := Array.replicate 834 none
  statics := none }

def pool4 : Array CpInfo := pool [(1, .class_ 2), (0, u "java/lang/Math"), (1, .class_ 6), (1, u "java/lang/Object"), (0, u "<init>"), (0, u "()V"), (89, .class_ 100), (1, u "java/lang/Math$RandomNumberGeneratorHolder"), (71, u "negativeZeroFloatBits"), (0, u "J"), (2, u "negativeZeroDoubleBits"), (24, u "min"), (43, u "$assertionsDisabled"), (0, u "Z"), (88, u "(II)I"), (2, u "twoToTheDoubleScaleDown"), (0, u "D"), (4, u "twoToTheDoubleScaleUp"), (9, u "E"), (3, u "PI"), (2, u "TAU"), (2, u "DEGREES_TO_RADIANS"), (0, u "RADIANS_TO_DEGREES")] 94

def k4m0 : Method := { name := "<init>", desc := "()V", sig := { parameters := [], returnType := none }, accessFlags := 2, code := none }
def k4c1 : Code := { maxStack := 2, maxLocals := 2, code := jdk_29_method_69_code, exceptionTable := #[], attributes := #[] }
def k4m1 : Method := { name := "min", desc := "(II)I", sig := { parameters := [.int, .int], returnType := some .int }, accessFlags := 9, code := some k4c1 }
/-- java/lang/Math -/
def k4 : Class := { plain "java/lang/Math" (some 0) with
  accessFlags := 49
  interfaces := #[]
  cf := some (fileOf pool4 1 #[.nestMembers #[98]] #[{ accessFlags := 2, nameIndex := 7, descriptorIndex := 8, attributes := #[] }, { accessFlags := 9, nameIndex := 201, descriptorIndex := 335, attributes := #[] }] 49 4 #[] #[{ accessFlags := 25, nameIndex := 354, descriptorIndex := 339, attributes := #[] }, { accessFlags := 25, nameIndex := 358, descriptorIndex := 339, attributes := #[] }, { accessFlags := 25, nameIndex := 361, descriptorIndex := 339, attributes := #[] }, { accessFlags := 26, nameIndex := 364, descriptorIndex := 339, attributes := #[] }, { accessFlags := 26, nameIndex := 365, descriptorIndex := 339, attributes := #[] }, { accessFlags := 26, nameIndex := 172, descriptorIndex := 173, attributes := #[] }, { accessFlags := 26, nameIndex := 176, descriptorIndex := 173, attributes := #[] }, { accessFlags := 8, nameIndex := 344, descriptorIndex := 339, attributes := #[] }, { accessFlags := 8, nameIndex := 338, descriptorIndex := 339, attributes := #[] }, { accessFlags := 4120, nameIndex := 245, descriptorIndex := 246, attributes := #[] }])
  fields := #[{ name := "E", type := .double, accessFlags := 25, slot := 0, constantValue := 0 }, { name := "PI", type := .double, accessFlags := 25, slot := 1, constantValue := 0 }, { name := "TAU", type := .double, accessFlags := 25, slot := 2, constantValue := 0 }, { name := "DEGREES_TO_RADIANS", type := .double, accessFlags := 26, slot := 3, constantValue := 0 }, { name := "RADIANS_TO_DEGREES", type := .double, accessFlags := 26, slot := 4, constantValue := 0 }, { name := "negativeZeroFloatBits", type := .long, accessFlags := 26, slot := 5, constantValue := 0 }, { name := "negativeZeroDoubleBits", type := .long, accessFlags := 26, slot := 6, constantValue := 0 }, { name := "twoToTheDoubleScaleUp", type := .double, accessFlags := 8, slot := 7, constantValue := 0 }, { name := "twoToTheDoubleScaleDown", type := .double, accessFlags := 8, slot := 8, constantValue := 0 }, { name := "$assertionsDisabled", type := .boolean, accessFlags := 4120, slot := 9, constantValue := 0 }]
  methods := #[k4m0, k4m1]
  instanceTypes := #[]
  staticTypes := #[.double, .double, .double, .double, .double, .long, .long, .double, .double, .boolean]
  resolved := Array.replicate 460 none
  statics := none }

def pool5 : Array CpInfo := pool [(1, u "java/lang/Cloneable"), (0, .class_ 1), (0, u "java/lang/Object"), (0, .class_ 3)] 3

/-- java/lang/Cloneable -/
def k5 : Class := { plain "java/lang/Cloneable" (some 0) with
  accessFlags := 1537
  interfaces := #[]
  cf := some (fileOf pool5 2 #[] #[] 1537 4 #[] #[])
  fields := #[]
  methods := #[]
  instanceTypes := #[]
  staticTypes := #[]
  resolved := Array.replicate 8 none
  statics := none }

def pool6 : Array CpInfo := pool [(1, u "java/io/Serializable"), (0, .class_ 1), (0, u "java/lang/Object"), (0, .class_ 3)] 3

/-- java/io/Serializable -/
def k6 : Class := { plain "java/io/Serializable" (some 0) with
  accessFlags := 1537
  interfaces := #[]
  cf := some (fileOf pool6 2 #[] #[] 1537 4 #[] #[])
  fields := #[]
  methods := #[]
  instanceTypes := #[]
  staticTypes := #[]
  resolved := Array.replicate 8 none
  statics := none }

/-- the primitive byte -/
def k7 : Class := { plain "byte" none with kind := .primitive 'B', accessFlags := 0x411 }
/-- [B -/
def k8 : Class := { plain "[B" (some 0) with kind := .array 7 .byte, interfaces := #[5, 6], accessFlags := 1041 }

/-- the primitive int -/
def k9 : Class := { plain "int" none with kind := .primitive 'I', accessFlags := 0x411 }
/-- [I -/
def k10 : Class := { plain "[I" (some 0) with kind := .array 9 .int, interfaces := #[5, 6], accessFlags := 1041 }

def heap : Heap := #[]
def classes : Array Class := #[k0, k1, k2, k3, k4, k5, k6, k7, k8, k9, k10]
def interned : List (Array UInt16 × Addr) := []
def slotsUsed : Nat := 0
def theMethod : MethodId := ⟨1, 4⟩
def args0 : Array Value := #[.int 5, .int 1, .int 2, .int 3, .int 4]
def aboutOver (below : List Frame) : State where
  vm := { classes := classes, interned := interned.toArray }
  heap := heap
  slotsUsed := slotsUsed
  threads := #[{ frames := .invoking theMethod args0 :: below }]
def below0 : List Frame := [.native { method := ⟨0, 0⟩, args := #[] }]
def about1 : State := aboutOver below0
def p0 : Program := .bare "" "" ""
def e0 : Env := launch0.env 0 0 0
theorem w_frames : about1.frames = Frame.invoking theMethod args0 :: below0 := rfl
set_option maxRecDepth 65536 in
theorem w_args : argsFit about1.vm theMethod args0 = true := by decide +kernel
set_option maxRecDepth 65536 in
theorem w_heap : heapFits about1 = true := by decide +kernel
set_option maxRecDepth 65536 in
theorem w_runnable : about1.curStatus? = some .runnable := by decide +kernel
set_option maxRecDepth 65536 in
theorem w_alone : about1.alone = true := by decide +kernel
set_option maxRecDepth 65536 in
theorem w_named : about1.methodNamed? x = some theMethod := by decide +kernel
set_option maxRecDepth 65536 in
theorem w_hears : about1.hears theMethod below0 = true := by decide +kernel
set_option maxRecDepth 65536 in
theorem w_ripe : about1.ripe theMethod args0 below0 = true := by decide +kernel
theorem w_running : about1.status = .running := rfl
set_option maxRecDepth 65536 in
theorem w_room : about1.hasRoom e0.platform room_1 = true :=
  launch0.hasRoom_least _ room_1 (by decide +kernel) (by decide +kernel) (by decide +kernel) (by decide +kernel) (by decide +kernel) (by decide +kernel)
theorem allAtoms_all (ts : List Jvm.Cond) (a : Array Jvm.Value) (st : Jvm.State) : (allAtoms ts).before a st = ts.all (fun c => c.before a st) := by
  induction ts with
  | nil => rfl
  | cons c t ih =>
    show (Jvm.Cond.and c (allAtoms t)).before a st = _
    rw [Jvm.Cond.before_and, ih, List.all_cons]
def words1 : List Jvm.Cond := Jvm.Cond.code x code maxLocals ret :: tables_1
/-- a 'code' word, met by the world's own term for the bytes: nothing is compared byte by byte -/
theorem code_word {y : MethodName} {bytes : ByteArray} {mx : Nat} {rt : Option FieldType} {a : Array Value} {s : State} {m : MethodId} {meth : Method} {c : Code} (h1 : s.methodNamed? y = some m) (h2 : s.vm.method? m = some meth) (h3 : meth.code = some c) (h4 : c.code = bytes)
    (h5 : (c.maxLocals == mx && c.exceptionTable.isEmpty && decide (c.maxStack ≤ mostOperands) && decide (meth.sig.returnType = rt) && !meth.locks && decide (parseMethodDescriptor y.desc = some meth.sig)) = true) : (Jvm.Cond.code y bytes mx rt).before a s = true := by
  simp only [Bool.and_eq_true, beq_iff_eq, Bool.not_eq_true', decide_eq_true_eq] at h5
  obtain ⟨⟨⟨⟨⟨g1, g2⟩, g3⟩, g4⟩, g5⟩, g6⟩ := h5
  simp [Cond.before, Cond.holds, Cond.value, h1, h2, h3, h4, g1, g2, g3, g4, g5, g6]
def isCode : Jvm.Cond → Bool
  | .code _ _ _ _ => true
  | _ => false
theorem all_split {L : List Jvm.Cond} {P : Jvm.Cond → Bool} (h1 : L.all (fun c => isCode c || P c) = true) (h2 : ∀ c ∈ L.filter isCode, P c = true) : L.all P = true := by
  refine List.all_eq_true.mpr fun c hc => ?_
  have h := List.all_eq_true.mp h1 c hc
  rcases Bool.eq_false_or_eq_true (isCode c) with hi | hi
  · exact h2 c (List.mem_filter.mpr ⟨hc, hi⟩)
  · simpa [hi] using h
set_option maxRecDepth 65536 in
theorem w_c0 : (Jvm.Cond.code x code maxLocals ret).before args0 about1 = true := code_word (m := ⟨1, 4⟩) (meth := k1m4) (c := k1c4) (by decide +kernel) rfl rfl rfl (by decide +kernel)
set_option maxRecDepth 65536 in
theorem w_c1 : (Jvm.Cond.code ({ cls := "com/example/rowgate/rowgate/StoredValue", name := "<init>", desc := "([BI)V" } : Jvm.MethodName) prog_43_method_2_code (3 : Nat) (Option.none : Option Jvm.ClassFile.FieldType)).before args0 about1 = true := code_word (m := ⟨2, 0⟩) (meth := k2m0) (c := k2c0) (by decide +kernel) rfl rfl rfl (by decide +kernel)
set_option maxRecDepth 65536 in
theorem w_c2 : (Jvm.Cond.code ({ cls := "java/lang/Object", name := "<init>", desc := "()V" } : Jvm.MethodName) object_method_1_code (1 : Nat) (Option.none : Option Jvm.ClassFile.FieldType)).before args0 about1 = true := code_word (m := ⟨0, 0⟩) (meth := k0m0) (c := k0c0) (by decide +kernel) rfl rfl rfl (by decide +kernel)
set_option maxRecDepth 65536 in
theorem w_c3 : (Jvm.Cond.code ({ cls := "com/example/rowgate/rowgate/StoredValue", name := "array", desc := "()[B" } : Jvm.MethodName) prog_43_method_4_code (1 : Nat) (Option.some (Jvm.ClassFile.FieldType.array Jvm.ClassFile.FieldType.byte))).before args0 about1 = true := code_word (m := ⟨2, 1⟩) (meth := k2m1) (c := k2c1) (by decide +kernel) rfl rfl rfl (by decide +kernel)
set_option maxRecDepth 65536 in
theorem w_c4 : (Jvm.Cond.code ({ cls := "com/example/rowgate/rowgate/StoredValueArrayPinLaw", name := "same", desc := "([BIIII)Z" } : Jvm.MethodName) method_3_code (5 : Nat) (Option.some Jvm.ClassFile.FieldType.boolean)).before args0 about1 = true := code_word (m := ⟨1, 2⟩) (meth := k1m2) (c := k1c2) (by decide +kernel) rfl rfl rfl (by decide +kernel)
set_option maxRecDepth 65536 in
theorem w_c5 : (Jvm.Cond.code ({ cls := "com/example/rowgate/rowgate/StoredValue", name := "length", desc := "()I" } : Jvm.MethodName) prog_43_method_5_code (1 : Nat) (Option.some Jvm.ClassFile.FieldType.int)).before args0 about1 = true := code_word (m := ⟨2, 2⟩) (meth := k2m2) (c := k2c2) (by decide +kernel) rfl rfl rfl (by decide +kernel)
set_option maxRecDepth 65536 in
theorem w_c6 : (Jvm.Cond.code ({ cls := "com/example/rowgate/rowgate/StoredValue", name := "appended", desc := "([B)Lcom/example/rowgate/rowgate/StoredValue;" } : Jvm.MethodName) prog_43_method_10_code (5 : Nat) (Option.some (Jvm.ClassFile.FieldType.object "com/example/rowgate/rowgate/StoredValue"))).before args0 about1 = true := code_word (m := ⟨2, 4⟩) (meth := k2m4) (c := k2c4) (by decide +kernel) rfl rfl rfl (by decide +kernel)
set_option maxRecDepth 65536 in
theorem w_c7 : (Jvm.Cond.code ({ cls := "com/example/rowgate/rowgate/StoredValueArrayPinLaw", name := "afterAppend", desc := "([BIBIIII)Z" } : Jvm.MethodName) method_4_code (8 : Nat) (Option.some Jvm.ClassFile.FieldType.boolean)).before args0 about1 = true := code_word (m := ⟨1, 3⟩) (meth := k1m3) (c := k1c3) (by decide +kernel) rfl rfl rfl (by decide +kernel)
set_option maxRecDepth 65536 in
theorem w_c8 : (Jvm.Cond.code ({ cls := "com/example/rowgate/rowgate/StoredValueArrayPinLaw", name := "orig", desc := "(IIIII)B" } : Jvm.MethodName) method_2_code (5 : Nat) (Option.some Jvm.ClassFile.FieldType.byte)).before args0 about1 = true := code_word (m := ⟨1, 1⟩) (meth := k1m1) (c := k1c1) (by decide +kernel) rfl rfl rfl (by decide +kernel)
set_option maxRecDepth 65536 in
theorem w_c9 : (Jvm.Cond.code ({ cls := "java/lang/Math", name := "min", desc := "(II)I" } : Jvm.MethodName) jdk_29_method_69_code (2 : Nat) (Option.some Jvm.ClassFile.FieldType.int)).before args0 about1 = true := code_word (m := ⟨4, 1⟩) (meth := k4m1) (c := k4c1) (by decide +kernel) rfl rfl rfl (by decide +kernel)
set_option maxRecDepth 65536 in
theorem w_c10 : (Jvm.Cond.code ({ cls := "com/example/rowgate/rowgate/StoredValue", name := "copyTo", desc := "([B)V" } : Jvm.MethodName) prog_43_method_8_code (2 : Nat) (Option.none : Option Jvm.ClassFile.FieldType)).before args0 about1 = true := code_word (m := ⟨2, 3⟩) (meth := k2m3) (c := k2c3) (by decide +kernel) rfl rfl rfl (by decide +kernel)
def codes1 : List Jvm.Cond := [Jvm.Cond.code x code maxLocals ret, Jvm.Cond.code ({ cls := "com/example/rowgate/rowgate/StoredValue", name := "<init>", desc := "([BI)V" } : Jvm.MethodName) prog_43_method_2_code (3 : Nat) (Option.none : Option Jvm.ClassFile.FieldType), Jvm.Cond.code ({ cls := "java/lang/Object", name := "<init>", desc := "()V" } : Jvm.MethodName) object_method_1_code (1 : Nat) (Option.none : Option Jvm.ClassFile.FieldType), Jvm.Cond.code ({ cls := "com/example/rowgate/rowgate/StoredValue", name := "array", desc := "()[B" } : Jvm.MethodName) prog_43_method_4_code (1 : Nat) (Option.some (Jvm.ClassFile.FieldType.array Jvm.ClassFile.FieldType.byte)), Jvm.Cond.code ({ cls := "com/example/rowgate/rowgate/StoredValueArrayPinLaw", name := "same", desc := "([BIIII)Z" } : Jvm.MethodName) method_3_code (5 : Nat) (Option.some Jvm.ClassFile.FieldType.boolean), Jvm.Cond.code ({ cls := "com/example/rowgate/rowgate/StoredValue", name := "length", desc := "()I" } : Jvm.MethodName) prog_43_method_5_code (1 : Nat) (Option.some Jvm.ClassFile.FieldType.int), Jvm.Cond.code ({ cls := "com/example/rowgate/rowgate/StoredValue", name := "appended", desc := "([B)Lcom/example/rowgate/rowgate/StoredValue;" } : Jvm.MethodName) prog_43_method_10_code (5 : Nat) (Option.some (Jvm.ClassFile.FieldType.object "com/example/rowgate/rowgate/StoredValue")), Jvm.Cond.code ({ cls := "com/example/rowgate/rowgate/StoredValueArrayPinLaw", name := "afterAppend", desc := "([BIBIIII)Z" } : Jvm.MethodName) method_4_code (8 : Nat) (Option.some Jvm.ClassFile.FieldType.boolean), Jvm.Cond.code ({ cls := "com/example/rowgate/rowgate/StoredValueArrayPinLaw", name := "orig", desc := "(IIIII)B" } : Jvm.MethodName) method_2_code (5 : Nat) (Option.some Jvm.ClassFile.FieldType.byte), Jvm.Cond.code ({ cls := "java/lang/Math", name := "min", desc := "(II)I" } : Jvm.MethodName) jdk_29_method_69_code (2 : Nat) (Option.some Jvm.ClassFile.FieldType.int), Jvm.Cond.code ({ cls := "com/example/rowgate/rowgate/StoredValue", name := "copyTo", desc := "([B)V" } : Jvm.MethodName) prog_43_method_8_code (2 : Nat) (Option.none : Option Jvm.ClassFile.FieldType)]
set_option maxRecDepth 65536 in
theorem codes_eq : words1.filter isCode = codes1 := rfl
theorem w_codes : ∀ c ∈ words1.filter isCode, c.before args0 about1 = true := by
  rw [codes_eq]
  intro c hc
  simp only [codes1, List.mem_cons, List.not_mem_nil, or_false] at hc
  rcases hc with rfl | rfl | rfl | rfl | rfl | rfl | rfl | rfl | rfl | rfl | rfl
  · exact w_c0
  · exact w_c1
  · exact w_c2
  · exact w_c3
  · exact w_c4
  · exact w_c5
  · exact w_c6
  · exact w_c7
  · exact w_c8
  · exact w_c9
  · exact w_c10
set_option maxRecDepth 65536 in
theorem w_t1 : (words1.take 24).all (fun c => isCode c || c.before args0 about1) = true := by decide +kernel
set_option maxRecDepth 65536 in
theorem w_t2 : ((words1.drop 24).take 24).all (fun c => isCode c || c.before args0 about1) = true := by decide +kernel
set_option maxRecDepth 65536 in
theorem w_t3 : ((words1.drop 24).drop 24).all (fun c => isCode c || c.before args0 about1) = true := by decide +kernel
theorem w_tables : (allAtoms (Jvm.Cond.code x code maxLocals ret :: tables_1)).before args0 about1 = true := by
  rw [allAtoms_all]
  show words1.all (fun c => c.before args0 about1) = true
  refine all_split ?_ w_codes
  rw [← List.take_append_drop 24 words1, List.all_append, w_t1, ← List.take_append_drop 24 (words1.drop 24), List.all_append, w_t2, w_t3]
  rfl
set_option maxRecDepth 65536 in
theorem w_case : (Jvm.Cond.and given_1 narrow_1).before args0 about1 = true := by decide +kernel
theorem w_applies : (headSpec (Jvm.Cond.code x code maxLocals ret :: tables_1) room_1).applies x e0.platform about1 = true :=
  (Spec.applies_iff w_frames).mpr ⟨w_running, w_runnable, w_alone, w_named, w_hears, w_ripe, w_room, w_tables⟩
theorem atStart : AtStart classFile x code maxLocals ret World_1 tables_1 room_1 Calls_1 rest_1 Pre_1 launch0 p0 e0 about1 theMethod args0 below0 :=
  ⟨lists_1, trivial, launch0.admits_env _ _ _, launch0.least_env, fairChoices_fair.cas, fairChoices_fair.clock, w_frames, w_args, w_heap, w_applies, trivial, trivial, w_case⟩
end start1
theorem witness_1 : WitnessClaimed_1 := ⟨start1.p0, start1.e0, start1.about1, start1.theMethod, start1.args0, start1.below0, start1.atStart⟩
end Jvm.Pilot.@@N@@
