import JvmDerived
import JvmDerived.Pilot.@@N@@Statement
import JvmDerived.Pilot.@@N@@Code
set_option linter.unusedVariables false
set_option linter.unusedSimpArgs false
namespace Jvm.Pilot.@@N@@
open Jvm Jvm.ClassFile Sem Op Lib Jvm.Free Jvm.Stand Jvm.LawKit Jvm.RoadKit Bundle Jvm.Pilot.@@N@@.Jvm.D
/-! A walk in the backward style: 'own_Goes K T g': from the frame g over T the run comes to an end of which K holds. -/
def own_Goes (p : Program) (e : Env) (below : List Frame) (K : Outcome → State → Prop) (T : State) (g : JFrame) : Prop :=
  ∃ s₂ o, Steps p.tables e below (T.setTop g) s₂ ∧ s₂.status = .running ∧ Ended s₂ below o ∧ K o s₂
def own_K (Q : Option Value → Heap → List Loc → Prop) (U : State) (C S : Nat) : Outcome → State → Prop :=
  fun o U' => ∃ v L, o = .returned v ∧ Q v U'.heap L ∧ FrameEnd U o U' L C S
section OwnKit
variable {p : Program} {l : Launch} {e : Env} {R : Room} {s : State} {m : MethodId} {args : Array Value} {below : List Frame} {meth : Method} {c : Code} {T T' : State} {locs : List Loc} {cells slots : Nat} {Z : State} {a0 : Array Value} {h : Heap} {K : Outcome → State → Prop} {Q : Option Value → Heap → List Loc → Prop} {C S : Nat}
theorem own_by {g g' : JFrame} (st : ∀ t, Steps p.tables e below (T'.setTop g') t → Steps p.tables e below (T.setTop g) t) (k : own_Goes p e below K T' g') : own_Goes p e below K T g := by
  obtain ⟨s₂, o, h1, r⟩ := k
  exact ⟨s₂, o, st _ h1, r⟩
theorem own_retN (X : Stand p l e R s m args below meth c T locs cells slots) (hx : p.tables.exec = Jvm.exec) {pc : Nat} {Ls : Array Slot} {z : Int32} {t : FieldType} {rest : List Value} (hret : meth.sig.returnType = some t) (hlocks : meth.locks = false) (ht : t = .boolean ∨ t = .byte ∨ t = .char ∨ t = .short)
    (hd : decode c.code pc = .ok (.ireturn, 1)) (hc : cells ≤ C) (hs : slots ≤ S) {v : Int32} (hv : nar t z = v) (q : Q (some (.int v)) T.heap locs) : own_Goes p e below (own_K Q s C S) T (mkF m pc Ls (.int z :: rest)) := by
  subst hv
  obtain ⟨fs, hr, hrun, hended, hW, hsame⟩ := X.leave (v := some (.int (nar t z))) (fun h => by rw [hret] at h; cases h) hlocks
  exact ⟨_, _, retN X hx hret ht hd hr, hrun, hended, _, _, rfl, q, ⟨_, rfl⟩, hW, hsame.mono hc hs⟩
theorem own_retV (X : Stand p l e R s m args below meth c T locs cells slots) (hx : p.tables.exec = Jvm.exec) {pc : Nat} {Ls : Array Slot} {w : Value} {t : FieldType} {i : Instr} {rest : List Value} (hret : meth.sig.returnType = some t) (hlocks : meth.locks = false) (hn : narrow t w = w)
    (hi : (i = .ireturn ∧ (t = .int ∨ t = .boolean ∨ t = .byte ∨ t = .char ∨ t = .short) ∧ ∃ z, w = .int z) ∨ (i = .lreturn ∧ t = .long ∧ ∃ z, w = .long z) ∨ (i = .dreturn ∧ t = .double ∧ ∃ z, w = .double z) ∨ (i = .freturn ∧ t = .float ∧ ∃ z, w = .float z) ∨ (i = .areturn ∧ t.isReference = true ∧ w.isRef = true))
    (hd : decode c.code pc = .ok (i, 1)) (hc : cells ≤ C) (hs : slots ≤ S) (q : Q (some w) T.heap locs) : own_Goes p e below (own_K Q s C S) T (mkF m pc Ls (w :: rest)) := by
  obtain ⟨fs, hr, hrun, hended, hW, hsame⟩ := X.leave (v := some w) (fun h => by rw [hret] at h; cases h) hlocks
  exact ⟨_, _, retOut X hx hret hn hi hd hr, hrun, hended, _, _, rfl, q, ⟨_, rfl⟩, hW, hsame.mono hc hs⟩
theorem own_retI (X : Stand p l e R s m args below meth c T locs cells slots) (hx : p.tables.exec = Jvm.exec) {pc : Nat} {Ls : Array Slot} {z : Int32} {rest : List Value} (hret : meth.sig.returnType = some .int) (hlocks : meth.locks = false)
    (hd : decode c.code pc = .ok (.ireturn, 1)) (hc : cells ≤ C) (hs : slots ≤ S) (q : Q (some (.int z)) T.heap locs) : own_Goes p e below (own_K Q s C S) T (mkF m pc Ls (.int z :: rest)) :=
  own_retV X hx hret hlocks rfl (Or.inl ⟨rfl, Or.inl rfl, z, rfl⟩) hd hc hs q
theorem own_retJ (X : Stand p l e R s m args below meth c T locs cells slots) (hx : p.tables.exec = Jvm.exec) {pc : Nat} {Ls : Array Slot} {z : Int64} {rest : List Value} (hret : meth.sig.returnType = some .long) (hlocks : meth.locks = false)
    (hd : decode c.code pc = .ok (.lreturn, 1)) (hc : cells ≤ C) (hs : slots ≤ S) (q : Q (some (.long z)) T.heap locs) : own_Goes p e below (own_K Q s C S) T (mkF m pc Ls (.long z :: rest)) :=
  own_retV X hx hret hlocks rfl (Or.inr (Or.inl ⟨rfl, rfl, z, rfl⟩)) hd hc hs q
theorem own_retR (X : Stand p l e R s m args below meth c T locs cells slots) (hx : p.tables.exec = Jvm.exec) {pc : Nat} {Ls : Array Slot} {w : Value} {t : FieldType} {rest : List Value} (hret : meth.sig.returnType = some t) (hlocks : meth.locks = false) (ht : t.isReference = true) (hw : w.isRef = true)
    (hd : decode c.code pc = .ok (.areturn, 1)) (hc : cells ≤ C) (hs : slots ≤ S) (q : Q (some w) T.heap locs) : own_Goes p e below (own_K Q s C S) T (mkF m pc Ls (w :: rest)) :=
  own_retV X hx hret hlocks (by cases t <;> first | (cases ht; done) | (cases w <;> rfl)) (Or.inr (Or.inr (Or.inr (Or.inr ⟨rfl, ht, hw⟩)))) hd hc hs q
theorem own_ret0 (X : Stand p l e R s m args below meth c T locs cells slots) (hx : p.tables.exec = Jvm.exec) {pc : Nat} {Ls : Array Slot} (hret : meth.sig.returnType = none) (hlocks : meth.locks = false)
    (hd : decode c.code pc = .ok (.return_, 1)) (hc : cells ≤ C) (hs : slots ≤ S) (q : Q none T.heap locs) : own_Goes p e below (own_K Q s C S) T (mkF m pc Ls []) := by
  obtain ⟨fs, hr, hrun, hended, hW, hsame⟩ := X.leave (v := none) (fun _ => rfl) hlocks
  exact ⟨_, _, X.returnOut hx hret hd hr, hrun, hended, _, _, rfl, q, ⟨_, rfl⟩, hW, hsame.mono hc hs⟩
theorem own_lrem {g : JFrame} {target : State} (X : Stand p l e R s m args below meth c T locs cells slots) (hx : p.tables.exec = Jvm.exec) (hg : g.method = m) {x y : Int64} {rest : List Value} (hd : decode c.code g.pc = .ok (.lrem, 1)) (hs : g.stack = .long y :: .long x :: rest) (hy : y ≠ 0)
    (hr : Steps p.tables e below (T.setTop { g with pc := g.pc + 1, stack := .long (x % y) :: rest }) target) : Steps p.tables e below (T.setTop g) target := by
  have q : x - x / y * y = x % y := lrem_mod x y
  exact XS.lrem X.here hx hg hd hs hy (by rw [q]; exact hr)
/-- what a callee's theorem says -/
abbrev own_Met (l : Launch) (Z : State) (y : MethodName) (bytes : ByteArray) (maxL : Nat) (ret : Option FieldType) (rm : Room) (as' : Array Value) (h : Heap) (Q : Option Value → Heap → List Loc → Prop) : Prop :=
  MetFree l y (head1 [Cond.code y bytes maxL ret] rm) (fun a U => a = as' ∧ Z.Warmed39 U.vm ∧ U.heap = h) (fun _ _ _ _ _ => True) (fun _ U o U' => ∃ v L, o = .returned v ∧ Q v U'.heap L ∧ FrameEnd U o U' L rm.cells rm.slots)
theorem own_callS (X : Stand p l e R s m args below meth c T locs cells slots) (hx : p.tables.exec = Jvm.exec) (hZ : Z.Warmed39 s.vm) {own : String} {index : Nat} {y : MethodName} {bytes : ByteArray} {maxL : Nat} {ret : Option FieldType}
    (hown : s.vm.findClass own = some m.cls) (w1 : (Cond.methodLink own index y).before a0 Z = true) (w2 : (Cond.static y).before a0 Z = true) (w3 : (Cond.initialized y.cls).before a0 Z = true) (w4 : (Cond.code y bytes maxL ret).before a0 Z = true) (hy : y.cls ≠ "java/lang/invoke/MethodHandle" ∧ y.cls ≠ "java/lang/invoke/VarHandle")
    {rm : Room} {argsL rest : List Value} (hM : own_Met l Z y bytes maxL ret rm argsL.toArray h Q) (eT : T.heap = h) {W : Nat} (hf : rm.frames + 1 ≤ R.frames) (hl : W + (maxL + 11) + rm.locals ≤ R.locals) (hc : cells + rm.cells ≤ R.cells) (hs : slots + rm.slots ≤ R.slots)
    {g : JFrame} (hg : g.method = m) (hsize : g.locals.size = c.maxLocals) (hlen : ∀ sig, parseMethodDescriptor y.desc = some sig → argsL.length = sig.parameters.length)
    (hstack : g.stack = argsL.reverse ++ rest) (hW : 2 * g.monitorRoom + (rest.map fun v => v.category).sum ≤ W) (hdg : decode c.code g.pc = .ok (.invokestatic index, 3)) :
    ∃ (v : Option Value) (T' : State) (L : List Loc), Stand p l e R s m args below meth c T' (locs ++ L) (cells + rm.cells) (slots + rm.slots) ∧ Q v T'.heap L ∧ ∀ K, own_Goes p e below K T' { g with pc := g.pc + 3, stack := v.toList ++ rest } → own_Goes p e below K T g := by
  obtain ⟨v, vm₁, ⟨T', L', k', n'⟩, -, X', ⟨L, hQ, l1, l2, l3⟩, st⟩ := Jvm.LawKit.callS X hx hown (mvT hZ w1) (mvT hZ w2) (mvT hZ w3) (mvT hZ w4) hy (backOf (W := W) hM hZ w4 w3 hf hl) hg hsize hlen hstack hW hdg (fun _ _ => ⟨rfl, eT, hc, hs⟩)
  dsimp only [Pt.U, Pt.locs, Pt.cells, Pt.slots] at X' l1 l2 l3 st hQ
  subst l1 l2 l3
  exact ⟨v, T', L, X', hQ, fun K k => own_by st k⟩
theorem own_callI (X : Stand p l e R s m args below meth c T locs cells slots) (hx : p.tables.exec = Jvm.exec) (hZ : Z.Warmed39 s.vm) {own : String} {index : Nat} {y : MethodName} {bytes : ByteArray} {maxL : Nat} (hy1 : y.name = "<init>")
    (hown : s.vm.findClass own = some m.cls) (w1 : (Cond.methodLink own index y).before a0 Z = true) (w2 : (Cond.instanceMethod y).before a0 Z = true) (w3 : (Cond.initialized y.cls).before a0 Z = true) (w4 : (Cond.code y bytes maxL none).before a0 Z = true) (hy : y.cls ≠ "java/lang/invoke/MethodHandle" ∧ y.cls ≠ "java/lang/invoke/VarHandle")
    {rm : Room} {a : Addr} {argsL rest : List Value} (hM : own_Met l Z y bytes maxL none rm (.ref a :: argsL).toArray h Q) (eT : T.heap = h) {W : Nat} (hf : rm.frames + 1 ≤ R.frames) (hl : W + (maxL + 11) + rm.locals ≤ R.locals) (hc : cells + rm.cells ≤ R.cells) (hs : slots + rm.slots ≤ R.slots)
    {g : JFrame} (hg : g.method = m) (hsize : g.locals.size = c.maxLocals) (hlen : ∀ sig, parseMethodDescriptor y.desc = some sig → argsL.length = sig.parameters.length)
    (hstack : g.stack = argsL.reverse ++ .ref a :: rest) (hW : 2 * g.monitorRoom + (rest.map fun v => v.category).sum ≤ W) (hdg : decode c.code g.pc = .ok (.invokespecial index, 3)) :
    ∃ (v : Option Value) (T' : State) (L : List Loc), Stand p l e R s m args below meth c T' (locs ++ L) (cells + rm.cells) (slots + rm.slots) ∧ Q v T'.heap L ∧ ∀ K, own_Goes p e below K T' { g with pc := g.pc + 3, stack := v.toList ++ rest } → own_Goes p e below K T g := by
  obtain ⟨v, vm₁, ⟨T', L', k', n'⟩, -, X', ⟨L, hQ, l1, l2, l3⟩, st⟩ := X.specialBack hx hy1 hown (mvT hZ w1) (mvT hZ w2) (mvT hZ w4) hy (backOf (W := W) hM hZ w4 w3 hf hl) hg hsize (Steps.refl _) hlen hstack hW hdg (fun _ _ => ⟨rfl, eT, hc, hs⟩)
  dsimp only [Pt.U, Pt.locs, Pt.cells, Pt.slots] at X' l1 l2 l3 st hQ
  subst l1 l2 l3
  exact ⟨v, T', L, X', hQ, fun K k => own_by (fun t k => st.trans k) k⟩
theorem own_callV (X : Stand p l e R s m args below meth c T locs cells slots) (hx : p.tables.exec = Jvm.exec) (hZ : Z.Warmed39 s.vm) {own C : String} {index : Nat} {y : MethodName} {bytes : ByteArray} {maxL : Nat} {ret : Option FieldType}
    (hown : s.vm.findClass own = some m.cls) (w1 : (Cond.methodLink own index y).before a0 Z = true) (w5 : (Cond.declares y).before a0 Z = true) (w6 : (Cond.selects C y y).before a0 Z = true) (w2 : (Cond.instanceMethod y).before a0 Z = true) (w3 : (Cond.initialized y.cls).before a0 Z = true) (w4 : (Cond.code y bytes maxL ret).before a0 Z = true) (hy : y.cls ≠ "java/lang/invoke/MethodHandle" ∧ y.cls ≠ "java/lang/invoke/VarHandle")
    {rm : Room} {a : Addr} {argsL rest : List Value} (E : Exa Z h a C) (hM : own_Met l Z y bytes maxL ret rm (.ref a :: argsL).toArray h Q) (eT : T.heap = h) {W : Nat} (hf : rm.frames + 1 ≤ R.frames) (hl : W + (maxL + 11) + rm.locals ≤ R.locals) (hc : cells + rm.cells ≤ R.cells) (hs : slots + rm.slots ≤ R.slots)
    {g : JFrame} (hg : g.method = m) (hsize : g.locals.size = c.maxLocals) (hlen : ∀ sig, parseMethodDescriptor y.desc = some sig → argsL.length = sig.parameters.length)
    (hstack : g.stack = argsL.reverse ++ .ref a :: rest) (hW : 2 * g.monitorRoom + (rest.map fun v => v.category).sum ≤ W) (hdg : decode c.code g.pc = .ok (.invokevirtual index, 3)) :
    ∃ (v : Option Value) (T' : State) (L : List Loc), Stand p l e R s m args below meth c T' (locs ++ L) (cells + rm.cells) (slots + rm.slots) ∧ Q v T'.heap L ∧ ∀ K, own_Goes p e below K T' { g with pc := g.pc + 3, stack := v.toList ++ rest } → own_Goes p e below K T g := by
  obtain ⟨cB, kB, q1, q2, q3⟩ := isOf hZ eT E
  obtain ⟨v, vm₁, ⟨T', L', k', n'⟩, -, X', ⟨L, hQ, l1, l2, l3⟩, st⟩ := X.virtualBack hx hown (mvT hZ w1) (mvT hZ w5) (notFace_of_selects (args := #[]) (mvT hZ w6)) (mvT hZ w6) (mvT hZ w2) hy (backOf (W := W) hM hZ w4 w3 hf hl) q1 q3 hg hsize (Steps.refl _) hlen hstack hW hdg (fun _ _ => ⟨rfl, eT, hc, hs⟩)
  dsimp only [Pt.U, Pt.locs, Pt.cells, Pt.slots] at X' l1 l2 l3 st hQ
  subst l1 l2 l3
  exact ⟨v, T', L, X', hQ, fun K k => own_by (fun t k => st.trans k) k⟩
theorem own_callPv (X : Stand p l e R s m args below meth c T locs cells slots) (hx : p.tables.exec = Jvm.exec) (hZ : Z.Warmed39 s.vm) {own C : String} {index : Nat} {y : MethodName} {bytes : ByteArray} {maxL : Nat} {ret : Option FieldType}
    (hown : s.vm.findClass own = some m.cls) (w1 : (Cond.methodLink own index y).before a0 Z = true) (w6 : (Cond.selects y.cls y y).before a0 Z = true) (w2 : (Cond.instanceMethod y).before a0 Z = true) (w7 : (Cond.privateMethod y).before a0 Z = true) (w3 : (Cond.initialized y.cls).before a0 Z = true) (w4 : (Cond.code y bytes maxL ret).before a0 Z = true) (hy : y.cls ≠ "java/lang/invoke/MethodHandle" ∧ y.cls ≠ "java/lang/invoke/VarHandle")
    {rm : Room} {a : Addr} {argsL rest : List Value} (E : Exa Z h a C) (hM : own_Met l Z y bytes maxL ret rm (.ref a :: argsL).toArray h Q) (eT : T.heap = h) {W : Nat} (hf : rm.frames + 1 ≤ R.frames) (hl : W + (maxL + 11) + rm.locals ≤ R.locals) (hc : cells + rm.cells ≤ R.cells) (hs : slots + rm.slots ≤ R.slots)
    {g : JFrame} (hg : g.method = m) (hsize : g.locals.size = c.maxLocals) (hlen : ∀ sig, parseMethodDescriptor y.desc = some sig → argsL.length = sig.parameters.length)
    (hstack : g.stack = argsL.reverse ++ .ref a :: rest) (hW : 2 * g.monitorRoom + (rest.map fun v => v.category).sum ≤ W) (hdg : decode c.code g.pc = .ok (.invokevirtual index, 3)) :
    ∃ (v : Option Value) (T' : State) (L : List Loc), Stand p l e R s m args below meth c T' (locs ++ L) (cells + rm.cells) (slots + rm.slots) ∧ Q v T'.heap L ∧ ∀ K, own_Goes p e below K T' { g with pc := g.pc + 3, stack := v.toList ++ rest } → own_Goes p e below K T g := by
  obtain ⟨cq, q1, q2⟩ := E.cell
  obtain ⟨v, vm₁, ⟨T', L', k', n'⟩, -, X', ⟨L, hQ, l1, l2, l3⟩, st⟩ := X.privateBack hx hown (mvT hZ w1) (mvT hZ w2) (mvT hZ w6) (Cond.privateMethod_at (mvP hZ w7 (args := #[]))) (mvT hZ w4) hy (backOf (W := W) hM hZ w4 w3 hf hl) hg hsize (Steps.refl _) (by rw [eT]; exact q1) q2 hlen hstack hW hdg (fun _ _ => ⟨rfl, eT, hc, hs⟩)
  dsimp only [Pt.U, Pt.locs, Pt.cells, Pt.slots] at X' l1 l2 l3 st hQ
  subst l1 l2 l3
  exact ⟨v, T', L, X', hQ, fun K k => own_by (fun t k => st.trans k) k⟩
theorem own_Sta_keep {h' : Heap} {ws : List Addr} {O n d : String} {v : Value} (F : Sta Z h O n d v) (K : Keep h h' ws) (q : ∀ a ∈ ws, ∀ cell : Cell, h[a]? = some cell → cell.vm.isStatics = false) : Sta Z h' O n d v := by
  obtain ⟨cf, i, k, f, st, cell, h1, h2, h3, h4, h5, h6, h7⟩ := F
  refine ⟨cf, i, k, f, st, cell, h1, h2, h3, h4, K.2.1 st cell h5 (fun y => ?_), h6, h7⟩
  rw [q st y cell h5] at h6; cases h6
theorem own_selp {y : MethodName} {k : Nat} (w7 : (Cond.privateMethod y).before a0 Z = true) (w2 : (Cond.instanceMethod y).before a0 Z = true) (wi : (Cond.instantiable y.cls k).before a0 Z = true) (hy : y.cls ≠ "java/lang/invoke/MethodHandle" ∧ y.cls ≠ "java/lang/invoke/VarHandle") : (Cond.selects y.cls y y).before a0 Z = true := by
  obtain ⟨c, k, i1, i2, i3, i4, -⟩ := Cond.instantiable_spec wi
  rw [Bool.or_eq_false_iff] at i4
  exact Jvm.Stand.selects_self_of_private i1 i2 i4.1 (Cond.privateMethod_at w7) w2 hy
end OwnKit
/-! arrays of ints, bytes, chars: a length and a function -/
def own_Ia (Z : State) (h : Heap) (a : Addr) (ty : FieldType) (n : Nat) (f : Nat → Int32) : Prop := ∃ c : Cell, Arr Z h a c ty ∧ c.slots.size = n ∧ (∀ i, i < n → c.slots[i]? = some (.int (f i))) ∧ ∀ i, i < n → fits ty (.int (f i)) = true
section OwnArr
variable {p : Program} {l : Launch} {e : Env} {R : Room} {s : State} {m : MethodId} {args : Array Value} {below : List Frame} {meth : Method} {c : Code} {T T' : State} {locs : List Loc} {cells slots : Nat} {Z : State} {a0 : Array Value} {h h' : Heap} {a b : Addr} {ty : FieldType} {n : Nat} {f : Nat → Int32}
theorem own_Ia_lt (F : own_Ia Z h a ty n f) : a < h.size := by obtain ⟨c, A, -⟩ := F; exact A.lt
theorem own_Ia_ext (E : Ext h h') (F : own_Ia Z h a ty n f) : own_Ia Z h' a ty n f := by obtain ⟨c, A, r⟩ := F; exact ⟨c, A.ext E, r⟩
theorem own_Ia_other {sl : Nat} {v : Value} (W : Wr h h' b sl v) (F : own_Ia Z h a ty n f) (q : a ≠ b) : own_Ia Z h' a ty n f := by obtain ⟨c, A, r⟩ := F; exact ⟨c, A.other W q, r⟩
theorem own_Ia_keep {ws : List Addr} (K : Keep h h' ws) (F : own_Ia Z h a ty n f) (q : a ∉ ws) : own_Ia Z h' a ty n f := by obtain ⟨c, A, r⟩ := F; exact ⟨c, ⟨K.2.1 a c A.1 q, A.2⟩, r⟩
theorem own_Ia_set {j : Nat} {x : Int32} (W : Wr h h' a j (.int x)) (F : own_Ia Z h a ty n f) (hf : fits ty (.int x) = true) : own_Ia Z h' a ty n (fun i => if i = j then x else f i) := by
  obtain ⟨c, A, S, H, G⟩ := F
  refine ⟨c.setSlot j (.int x), A.same W, by rw [sz_set]; exact S, fun i hi => ?_, fun i hi => ?_⟩
  · by_cases q : i = j
    · subst q
      have : i < c.slots.size := by rw [S]; exact hi
      simp [Cell.setSlot, this]
    · have := H i hi
      simp only [Cell.setSlot, if_neg q]
      rw [Array.getElem?_setIfInBounds_ne (Ne.symm q)]; exact this
  · dsimp only
    by_cases q : i = j
    · rw [if_pos q]; exact hf
    · rw [if_neg q]; exact G i hi
theorem own_Ia_new {k : ClassId} {z : Int32} (A : Arr Z h a (newA k ty z) ty) (hd : defaultValue ty = .int 0) (hf : fits ty (.int 0) = true) (hz : z.toNatClampNeg = n) : own_Ia Z h a ty n (fun _ => 0) := by
  subst hz
  refine ⟨_, A, sz_new _ _ _, fun i hi => ?_, fun i hi => hf⟩
  simp [newA, hd, hi]
theorem own_Ia_congr {f' : Nat → Int32} (F : own_Ia Z h a ty n f) (q : ∀ i, i < n → f i = f' i) : own_Ia Z h a ty n f' := by
  obtain ⟨c, A, S, H, G⟩ := F; exact ⟨c, A, S, fun i hi => by rw [H i hi, q i hi], fun i hi => by rw [← q i hi]; exact G i hi⟩
theorem own_bal (X : Stand p l e R s m args below meth c T locs cells slots) (hx : p.tables.exec = Jvm.exec) (hZ : Z.Warmed39 s.vm) (eT : T.heap = h) (F : own_Ia Z h a .byte n f) {j : Int32} (hj0 : ¬ j < 0) (hj1 : j.toNatClampNeg < n) {g : JFrame} (hg : g.method = m) {rest : List Value} (hs : g.stack = .int j :: .ref a :: rest) (hd : decode c.code g.pc = .ok (.baload, 1)) (t : State)
    (k : Steps p.tables e below (T.setTop { g with pc := g.pc + 1, stack := .int (f j.toNatClampNeg) :: rest }) t) : Steps p.tables e below (T.setTop g) t := by
  obtain ⟨c, A, S, H, G⟩ := F
  exact X.baloadBytes hx (by rw [eT]; exact A.1) (State.isArrayOf_alike hZ.alike A.2.1) A.2.2 (fun q => q.elim hj0 (fun q => absurd hj1 (by rw [← S]; exact Nat.not_lt.mpr q))) (H _ hj1) hg hs hd t k
theorem own_cal (X : Stand p l e R s m args below meth c T locs cells slots) (hx : p.tables.exec = Jvm.exec) (hZ : Z.Warmed39 s.vm) (eT : T.heap = h) (F : own_Ia Z h a .char n f) {j : Int32} (hj0 : ¬ j < 0) (hj1 : j.toNatClampNeg < n) {g : JFrame} (hg : g.method = m) {rest : List Value} (hs : g.stack = .int j :: .ref a :: rest) (hd : decode c.code g.pc = .ok (.caload, 1)) (t : State)
    (k : Steps p.tables e below (T.setTop { g with pc := g.pc + 1, stack := .int (f j.toNatClampNeg) :: rest }) t) : Steps p.tables e below (T.setTop g) t := by
  obtain ⟨c, A, S, H, G⟩ := F
  exact X.caload hx (by rw [eT]; exact A.1) (State.isArrayOf_alike hZ.alike A.2.1) A.2.2 (fun q => q.elim hj0 (fun q => absurd hj1 (by rw [← S]; exact Nat.not_lt.mpr q))) (H _ hj1) hg hs hd t k
theorem own_ial (X : Stand p l e R s m args below meth c T locs cells slots) (hx : p.tables.exec = Jvm.exec) (hZ : Z.Warmed39 s.vm) (eT : T.heap = h) (F : own_Ia Z h a .int n f) {j : Int32} (hj0 : ¬ j < 0) (hj1 : j.toNatClampNeg < n) {g : JFrame} (hg : g.method = m) {rest : List Value} (hs : g.stack = .int j :: .ref a :: rest) (hd : decode c.code g.pc = .ok (.iaload, 1)) (t : State)
    (k : Steps p.tables e below (T.setTop { g with pc := g.pc + 1, stack := .int (f j.toNatClampNeg) :: rest }) t) : Steps p.tables e below (T.setTop g) t := by
  obtain ⟨c, A, S, H, G⟩ := F
  exact X.iaload hx (by rw [eT]; exact A.1) (State.isArrayOf_alike hZ.alike A.2.1) A.2.2 (fun q => q.elim hj0 (fun q => absurd hj1 (by rw [← S]; exact Nat.not_lt.mpr q))) (H _ hj1) hg hs hd t k
theorem own_alen (X : Stand p l e R s m args below meth c T locs cells slots) (hx : p.tables.exec = Jvm.exec) (hZ : Z.Warmed39 s.vm) (eT : T.heap = h) (F : own_Ia Z h a ty n f) {z : Int32} (hz : n.toInt32 = z) {g : JFrame} (hg : g.method = m) {rest : List Value} (hs : g.stack = .ref a :: rest) (hd : decode c.code g.pc = .ok (.arraylength, 1)) (t : State)
    (k : Steps p.tables e below (T.setTop { g with pc := g.pc + 1, stack := .int z :: rest }) t) : Steps p.tables e below (T.setTop g) t := by
  obtain ⟨c, A, S, H, G⟩ := F
  subst hz S
  exact X.arraylength hx (by rw [eT]; exact A.1) (State.isArrayOf_alike hZ.alike A.2.1) hg hs hd t k
theorem own_bas (X : Stand p l e R s m args below meth c T locs cells slots) (hx : p.tables.exec = Jvm.exec) (hZ : Z.Warmed39 s.vm) (eT : T.heap = h) (F : own_Ia Z h a .byte n f) {j x : Int32} (hj0 : ¬ j < 0) (hj1 : j.toNatClampNeg < n) {g : JFrame} (hg : g.method = m) {rest : List Value} (hs : g.stack = .int x :: .int j :: .ref a :: rest) (hd : decode c.code g.pc = .ok (.bastore, 1)) :
    ∃ T' h', Stand p l e R s m args below meth c T' (locs ++ [⟨a, j.toNatClampNeg⟩]) cells slots ∧ T'.heap = h' ∧ Wr h h' a j.toNatClampNeg (.int (nar .byte x)) ∧ ∀ target, Steps p.tables e below (T'.setTop { g with pc := g.pc + 1, stack := rest }) target → Steps p.tables e below (T.setTop g) target := by
  obtain ⟨c, A, S, H, G⟩ := F
  exact stB X hx hZ eT A (fun q => q.elim hj0 (fun q => absurd hj1 (by rw [← S]; exact Nat.not_lt.mpr q))) hg hs hd
theorem own_cas (X : Stand p l e R s m args below meth c T locs cells slots) (hx : p.tables.exec = Jvm.exec) (hZ : Z.Warmed39 s.vm) (eT : T.heap = h) (F : own_Ia Z h a .char n f) {j x : Int32} (hj0 : ¬ j < 0) (hj1 : j.toNatClampNeg < n) {g : JFrame} (hg : g.method = m) {rest : List Value} (hs : g.stack = .int x :: .int j :: .ref a :: rest) (hd : decode c.code g.pc = .ok (.castore, 1)) :
    ∃ T' h', Stand p l e R s m args below meth c T' (locs ++ [⟨a, j.toNatClampNeg⟩]) cells slots ∧ T'.heap = h' ∧ Wr h h' a j.toNatClampNeg (.int (nar .char x)) ∧ ∀ target, Steps p.tables e below (T'.setTop { g with pc := g.pc + 1, stack := rest }) target → Steps p.tables e below (T.setTop g) target := by
  obtain ⟨c, A, S, H, G⟩ := F
  exact stC X hx hZ eT A (fun q => q.elim hj0 (fun q => absurd hj1 (by rw [← S]; exact Nat.not_lt.mpr q))) hg hs hd
theorem own_ias (X : Stand p l e R s m args below meth c T locs cells slots) (hx : p.tables.exec = Jvm.exec) (hZ : Z.Warmed39 s.vm) (eT : T.heap = h) (F : own_Ia Z h a .int n f) {j x : Int32} (hj0 : ¬ j < 0) (hj1 : j.toNatClampNeg < n) {g : JFrame} (hg : g.method = m) {rest : List Value} (hs : g.stack = .int x :: .int j :: .ref a :: rest) (hd : decode c.code g.pc = .ok (.iastore, 1)) :
    ∃ T' h', Stand p l e R s m args below meth c T' (locs ++ [⟨a, j.toNatClampNeg⟩]) cells slots ∧ T'.heap = h' ∧ Wr h h' a j.toNatClampNeg (.int x) ∧ ∀ target, Steps p.tables e below (T'.setTop { g with pc := g.pc + 1, stack := rest }) target → Steps p.tables e below (T.setTop g) target := by
  obtain ⟨c, A, S, H, G⟩ := F
  exact stI X hx hZ eT A (fun q => q.elim hj0 (fun q => absurd hj1 (by rw [← S]; exact Nat.not_lt.mpr q))) hg hs hd
end OwnArr
theorem own_z : (0 : Int32).toInt = 0 := rfl
theorem own_one : (1 : Int32).toInt = 1 := rfl
theorem own_pl (off ln : Int32) (ho : 0 ≤ off.toInt) (hl : 0 ≤ ln.toInt) (hs : off.toInt + ln.toInt ≤ 5) : (off + ln).toInt = off.toInt + ln.toInt := by
  have a := c_iadd off ln; have := rng32 (off + ln); omega
theorem own_inc (i : Int32) (h1 : 0 ≤ i.toInt) (h2 : i.toInt ≤ 5) : (i + (1 : Int32)).toInt = i.toInt + 1 := by
  have a := c_iadd i 1; rw [own_one] at a; have := rng32 (i + 1); omega
theorem own_dec (i : Int32) (h1 : 1 ≤ i.toInt) (h2 : i.toInt ≤ 5) : (i - (1 : Int32)).toInt = i.toInt - 1 := by
  have a := c_isub i 1; rw [own_one] at a; have := rng32 (i - 1); omega
theorem own_nn (i : Int32) (h : 0 ≤ i.toInt) : ¬ i < 0 := by rw [Int32.lt_iff_toInt_lt, own_z]; omega
theorem own_in (i : Int32) (n : Nat) (h : 0 ≤ i.toInt) (h2 : i.toInt < n) : ¬ i < 0 ∧ i.toNatClampNeg < n := ⟨own_nn i h, by simp only [Int32.toNatClampNeg]; omega⟩
/-! digit -/
theorem own_dx (dg i : Int32) (n : Nat) (b1 : 0 ≤ dg.toInt ∧ 0 ≤ i.toInt ∧ dg.toInt + i.toInt < 5) (hn : 5 ≤ n) : ¬ (dg + i) < 0 ∧ (dg + i).toNatClampNeg < n := by
  have e : (dg + i).toInt = dg.toInt + i.toInt := by have a := c_iadd dg i; have := rng32 (dg + i); omega
  exact own_in _ _ (by omega) (by omega)
theorem own_dy (dg i pt : Int32) (b1 : 0 ≤ dg.toInt ∧ 0 ≤ i.toInt ∧ dg.toInt + i.toInt < 5) (b2 : 0 ≤ pt.toInt → dg.toInt + i.toInt + 1 < 5) (hc : ¬ pt < (0 : Int32)) : ¬ ((dg + i) + (1 : Int32)) < 0 ∧ ((dg + i) + (1 : Int32)).toNatClampNeg < 5 := by
  rw [Int32.lt_iff_toInt_lt, own_z] at hc
  have b3 := b2 (by omega)
  have e : (dg + i).toInt = dg.toInt + i.toInt := by have a := c_iadd dg i; have := rng32 (dg + i); omega
  have e2 := own_inc (dg + i) (by omega) (by omega)
  exact own_in _ 5 (by omega) (by omega)
/-! what read leaves -/
def own_R (f : Nat → Int32) (off st pt en : Int32) : Prop := (pt.toInt < 0 ∧ en = st) ↔ ∀ i : Nat, off.toInt ≤ i → (i : Int) < st.toInt → f i ≠ 46 ∧ f i ≠ 101 ∧ f i ≠ 69
def own_J (f : Nat → Int32) (off en pt : Int32) : Prop := (∀ i : Nat, off.toInt ≤ i → (i : Int) < en.toInt → f i ≠ 101 ∧ f i ≠ 69) ∧ ((pt.toInt < 0 ∧ ∀ i : Nat, off.toInt ≤ i → (i : Int) < en.toInt → f i ≠ 46) ∨ (0 ≤ pt.toInt ∧ off.toInt ≤ pt.toInt ∧ pt.toInt < en.toInt ∧ f pt.toInt.toNat = 46))
theorem own_lt2 (off ln ex : Int32) (kk : Nat) (ho : 0 ≤ off.toInt) (hl : 0 ≤ ln.toInt) (hs : off.toInt + ln.toInt ≤ 5) (x2 : (off.toInt + ln.toInt - ex.toInt).toNat = kk + 1) : ex.toInt < off.toInt + ln.toInt ∧ off.toInt + ln.toInt ≤ 5 := by omega
theorem own_lt3 (off ln ex : Int32) (kk : Nat) (x2 : (off.toInt + ln.toInt - ex.toInt).toNat = kk + 1) : ex.toInt < off.toInt + ln.toInt := by omega
theorem own_lt4 (off ln ex : Int32) (kk : Nat) (ho : 0 ≤ off.toInt) (hl : 0 ≤ ln.toInt) (hs : off.toInt + ln.toInt ≤ 5) (x2 : (off.toInt + ln.toInt - ex.toInt).toNat = kk + 1) : ex < (off + ln) := by
  rw [Int32.lt_iff_toInt_lt, own_pl off ln ho hl hs]; omega
theorem own_ge3 (off ln ex : Int32) (ho : 0 ≤ off.toInt) (hl : 0 ≤ ln.toInt) (hs : off.toInt + ln.toInt ≤ 5) (x2 : (off.toInt + ln.toInt - ex.toInt).toNat = 0) : ¬ ex < (off + ln) := by
  rw [Int32.lt_iff_toInt_lt, own_pl off ln ho hl hs]; omega
theorem own_lt1 (i D : Int32) (kk : Nat) (z2 : (D.toInt - i.toInt).toNat = kk + 1) : i < D := by rw [Int32.lt_iff_toInt_lt]; omega
theorem own_ge1 (i D : Int32) (z2 : (D.toInt - i.toInt).toNat = 0) : ¬ i < D := by rw [Int32.lt_iff_toInt_lt]; omega
theorem own_p1 (ex : Int32) (n : Int) (x1 : 0 ≤ ex.toInt) (h : ex.toInt < n ∧ n ≤ 5) : 0 ≤ (ex + (1 : Int32)).toInt := by rw [own_inc ex x1 (by omega)]; omega
theorem own_p2 (off ln ex : Int32) (kk : Nat) (ho : 0 ≤ off.toInt) (hl : 0 ≤ ln.toInt) (hs : off.toInt + ln.toInt ≤ 5) (x1 : 0 ≤ ex.toInt) (x2 : (off.toInt + ln.toInt - ex.toInt).toNat = kk + 1) : (off.toInt + ln.toInt - (ex + (1 : Int32)).toInt).toNat = kk := by
  rw [own_inc ex x1 (by omega)]; omega
theorem own_ix (off ln ex : Int32) (ho : 0 ≤ off.toInt) (hl : 0 ≤ ln.toInt) (hs : off.toInt + ln.toInt ≤ 5) (x1 : 0 ≤ ex.toInt) (h : ex.toInt < off.toInt + ln.toInt) : ¬ ex < 0 ∧ ex.toNatClampNeg < 5 := own_in _ 5 x1 (by omega)
theorem own_mne (off ln en : Int32) (ho : 0 ≤ off.toInt) (hl : 0 ≤ ln.toInt) (hs : off.toInt + ln.toInt ≤ 5) (x1 : 0 ≤ en.toInt) (x2 : en.toInt ≤ off.toInt + ln.toInt) : 0 ≤ (if (off + ln) < (en + (1 : Int32)) then (off + ln) else (en + (1 : Int32))).toInt ∧ (if (off + ln) < (en + (1 : Int32)) then (off + ln) else (en + (1 : Int32))).toInt ≤ 6 := by
  have e1 := own_pl off ln ho hl hs
  have e2 := own_inc en x1 (by omega)
  split <;> omega
theorem own_mn (off ln en : Int32) (ho : 0 ≤ off.toInt) (hl : 0 ≤ ln.toInt) (hs : off.toInt + ln.toInt ≤ 5) (x1 : 0 ≤ en.toInt) (x2 : en.toInt ≤ off.toInt + ln.toInt) : 0 ≤ (if (off + ln) < (en + (1 : Int32)) then (off + ln) else (en + (1 : Int32))).toInt := (own_mne off ln en ho hl hs x1 x2).1
theorem own_mn1 (off ln en : Int32) (ho : 0 ≤ off.toInt) (hl : 0 ≤ ln.toInt) (hs : off.toInt + ln.toInt ≤ 5) (x1 : 0 ≤ en.toInt) (x2 : en.toInt ≤ off.toInt + ln.toInt) : 0 ≤ ((if (off + ln) < (en + (1 : Int32)) then (off + ln) else (en + (1 : Int32))) + (1 : Int32)).toInt := by
  have e := own_mne off ln en ho hl hs x1 x2
  generalize (if (off + ln) < (en + (1 : Int32)) then (off + ln) else (en + (1 : Int32))) = q at *
  have a := c_iadd q 1; rw [own_one] at a; have := rng32 (q + 1); omega
theorem own_m1 (off ln en : Int32) (ho : 0 ≤ off.toInt) (hl : 0 ≤ ln.toInt) (hs : off.toInt + ln.toInt ≤ 5) (x1 : 0 ≤ en.toInt) (x2 : en.toInt ≤ off.toInt + ln.toInt) (hc : (if (off + ln) < (en + (1 : Int32)) then (off + ln) else (en + (1 : Int32))) < (off + ln)) : ¬ (if (off + ln) < (en + (1 : Int32)) then (off + ln) else (en + (1 : Int32))) < 0 ∧ (if (off + ln) < (en + (1 : Int32)) then (off + ln) else (en + (1 : Int32))).toNatClampNeg < 5 := by
  have e := own_mne off ln en ho hl hs x1 x2
  rw [Int32.lt_iff_toInt_lt, own_pl off ln ho hl hs] at hc
  exact own_in _ 5 e.1 (by omega)
theorem own_g1 (fi la D : Int32) (kk : Nat) (z1 : 0 ≤ fi.toInt ∧ fi.toInt ≤ la.toInt ∧ la.toInt ≤ D.toInt) (y2 : 0 ≤ D.toInt) (z2 : (la.toInt - fi.toInt).toNat = kk + 1) : 0 ≤ fi.toInt ∧ fi.toInt ≤ (la - (1 : Int32)).toInt ∧ (la - (1 : Int32)).toInt ≤ D.toInt := by
  have a := c_isub la 1; rw [own_one] at a; have := rng32 (la - 1); have := rng32 la; omega
theorem own_g2 (fi la D : Int32) (kk : Nat) (z1 : 0 ≤ fi.toInt ∧ fi.toInt ≤ la.toInt ∧ la.toInt ≤ D.toInt) (y2 : 0 ≤ D.toInt) (z2 : (la.toInt - fi.toInt).toNat = kk + 1) : ((la - (1 : Int32)).toInt - fi.toInt).toNat = kk := by
  have a := c_isub la 1; rw [own_one] at a; have := rng32 (la - 1); have := rng32 la; omega
theorem own_k1 (fi D dg en : Int32) (kk : Nat) (z1 : 0 ≤ fi.toInt ∧ fi.toInt ≤ D.toInt) (z2 : (D.toInt - fi.toInt).toNat = kk + 1) (y0 : 0 ≤ dg.toInt) (y2 : 0 ≤ D.toInt ∧ dg.toInt + D.toInt ≤ en.toInt) : 0 ≤ (fi + (1 : Int32)).toInt ∧ (fi + (1 : Int32)).toInt ≤ D.toInt := by
  have a := c_iadd fi 1; rw [own_one] at a; have := rng32 (fi + 1); have := rng32 D; omega
theorem own_k2 (fi D dg en : Int32) (kk : Nat) (z1 : 0 ≤ fi.toInt ∧ fi.toInt ≤ D.toInt) (z2 : (D.toInt - fi.toInt).toNat = kk + 1) (y0 : 0 ≤ dg.toInt) (y2 : 0 ≤ D.toInt ∧ dg.toInt + D.toInt ≤ en.toInt) : (D.toInt - (fi + (1 : Int32)).toInt).toNat = kk := by
  have a := c_iadd fi 1; rw [own_one] at a; have := rng32 (fi + 1); have := rng32 D; omega
theorem own_dn1 (dg en off ln pt : Int32) (ho : 0 ≤ off.toInt) (hl : 0 ≤ ln.toInt) (hs : off.toInt + ln.toInt ≤ 5) (y0 : 0 ≤ dg.toInt) (y1 : 0 ≤ en.toInt ∧ en.toInt ≤ off.toInt + ln.toInt) (y2 : dg.toInt ≤ en.toInt) (y3 : 0 ≤ pt.toInt → dg.toInt ≤ pt.toInt ∧ pt.toInt < en.toInt) (hc : pt < (0 : Int32)) : 0 ≤ ((en - dg) - (0 : Int32)).toInt ∧ dg.toInt + ((en - dg) - (0 : Int32)).toInt ≤ en.toInt := by
  have a := c_isub en dg; have := rng32 (en - dg); have b := c_isub (en - dg) 0; have := rng32 ((en - dg) - 0); rw [own_z] at b; omega
theorem own_dn2 (dg en off ln pt : Int32) (ho : 0 ≤ off.toInt) (hl : 0 ≤ ln.toInt) (hs : off.toInt + ln.toInt ≤ 5) (y0 : 0 ≤ dg.toInt) (y1 : 0 ≤ en.toInt ∧ en.toInt ≤ off.toInt + ln.toInt) (y2 : dg.toInt ≤ en.toInt) (y3 : 0 ≤ pt.toInt → dg.toInt ≤ pt.toInt ∧ pt.toInt < en.toInt) (hc : pt < (0 : Int32)) : 0 ≤ pt.toInt → dg.toInt + ((en - dg) - (0 : Int32)).toInt + 1 ≤ en.toInt := by
  rw [Int32.lt_iff_toInt_lt, own_z] at hc; intro h; omega
theorem own_dp1 (dg en off ln pt : Int32) (ho : 0 ≤ off.toInt) (hl : 0 ≤ ln.toInt) (hs : off.toInt + ln.toInt ≤ 5) (y0 : 0 ≤ dg.toInt) (y1 : 0 ≤ en.toInt ∧ en.toInt ≤ off.toInt + ln.toInt) (y2 : dg.toInt ≤ en.toInt) (y3 : 0 ≤ pt.toInt → dg.toInt ≤ pt.toInt ∧ pt.toInt < en.toInt) (hc : ¬ pt < (0 : Int32)) : 0 ≤ ((en - dg) - (1 : Int32)).toInt ∧ dg.toInt + ((en - dg) - (1 : Int32)).toInt ≤ en.toInt := by
  rw [Int32.lt_iff_toInt_lt, own_z] at hc
  have a := c_isub en dg; have := rng32 (en - dg); have b := c_isub (en - dg) 1; have := rng32 ((en - dg) - 1); rw [own_one] at b; have := y3 (by omega); omega
theorem own_dp2 (dg en off ln pt : Int32) (ho : 0 ≤ off.toInt) (hl : 0 ≤ ln.toInt) (hs : off.toInt + ln.toInt ≤ 5) (y0 : 0 ≤ dg.toInt) (y1 : 0 ≤ en.toInt ∧ en.toInt ≤ off.toInt + ln.toInt) (y2 : dg.toInt ≤ en.toInt) (y3 : 0 ≤ pt.toInt → dg.toInt ≤ pt.toInt ∧ pt.toInt < en.toInt) (hc : ¬ pt < (0 : Int32)) : 0 ≤ pt.toInt → dg.toInt + ((en - dg) - (1 : Int32)).toInt + 1 ≤ en.toInt := by
  rw [Int32.lt_iff_toInt_lt, own_z] at hc
  have a := c_isub en dg; have := rng32 (en - dg); have b := c_isub (en - dg) 1; have := rng32 ((en - dg) - 1); rw [own_one] at b; have := y3 (by omega); intro h; omega
theorem own_v1 (off ln dg fi D en : Int32) (kk : Nat) (ho : 0 ≤ off.toInt) (hl : 0 ≤ ln.toInt) (hs : off.toInt + ln.toInt ≤ 5) (z1 : 0 ≤ fi.toInt ∧ fi.toInt ≤ D.toInt) (z2 : (D.toInt - fi.toInt).toNat = kk + 1) (y0 : 0 ≤ dg.toInt) (y1 : 0 ≤ en.toInt ∧ en.toInt ≤ off.toInt + ln.toInt) (y2 : 0 ≤ D.toInt ∧ dg.toInt + D.toInt ≤ en.toInt) : 0 ≤ dg.toInt ∧ 0 ≤ fi.toInt ∧ dg.toInt + fi.toInt < 5 := by omega
theorem own_v2 (off ln dg fi D en pt : Int32) (kk : Nat) (ho : 0 ≤ off.toInt) (hl : 0 ≤ ln.toInt) (hs : off.toInt + ln.toInt ≤ 5) (z1 : 0 ≤ fi.toInt ∧ fi.toInt ≤ D.toInt) (z2 : (D.toInt - fi.toInt).toNat = kk + 1) (y0 : 0 ≤ dg.toInt) (y1 : 0 ≤ en.toInt ∧ en.toInt ≤ off.toInt + ln.toInt) (y3 : 0 ≤ pt.toInt → dg.toInt + D.toInt + 1 ≤ en.toInt) : 0 ≤ pt.toInt → dg.toInt + fi.toInt + 1 < 5 := by
  intro h; have := y3 h; omega
theorem own_v3 (off ln dg fi la D en : Int32) (kk : Nat) (ho : 0 ≤ off.toInt) (hl : 0 ≤ ln.toInt) (hs : off.toInt + ln.toInt ≤ 5) (z1 : 0 ≤ fi.toInt ∧ fi.toInt ≤ la.toInt ∧ la.toInt ≤ D.toInt) (z2 : (la.toInt - fi.toInt).toNat = kk + 1) (y0 : 0 ≤ dg.toInt) (y1 : 0 ≤ en.toInt ∧ en.toInt ≤ off.toInt + ln.toInt) (y2 : 0 ≤ D.toInt ∧ dg.toInt + D.toInt ≤ en.toInt) : 0 ≤ dg.toInt ∧ 0 ≤ (la - (1 : Int32)).toInt ∧ dg.toInt + (la - (1 : Int32)).toInt < 5 := by
  have := own_dec la (by omega) (by omega); omega
theorem own_v4 (off ln dg fi la D en pt : Int32) (kk : Nat) (ho : 0 ≤ off.toInt) (hl : 0 ≤ ln.toInt) (hs : off.toInt + ln.toInt ≤ 5) (z1 : 0 ≤ fi.toInt ∧ fi.toInt ≤ la.toInt ∧ la.toInt ≤ D.toInt) (z2 : (la.toInt - fi.toInt).toNat = kk + 1) (y0 : 0 ≤ dg.toInt) (y1 : 0 ≤ en.toInt ∧ en.toInt ≤ off.toInt + ln.toInt) (y2 : 0 ≤ D.toInt ∧ dg.toInt + D.toInt ≤ en.toInt) (y3 : 0 ≤ pt.toInt → dg.toInt + D.toInt + 1 ≤ en.toInt) : 0 ≤ pt.toInt → dg.toInt + (la - (1 : Int32)).toInt + 1 < 5 := by
  intro h; have := y3 h; have := own_dec la (by omega) (by omega); omega
theorem own_Re (off ln en pt : Int32) (f : Nat → Int32) (ho : 0 ≤ off.toInt) (hl : 0 ≤ ln.toInt) (hs : off.toInt + ln.toInt ≤ 5) (y1 : off.toInt ≤ en.toInt ∧ en.toInt ≤ off.toInt + ln.toInt) (hlt : en.toInt < off.toInt + ln.toInt) (hc : f en.toNatClampNeg = (101 : Int32) ∨ f en.toNatClampNeg = (69 : Int32)) : own_R f off (off + ln) pt en := by
  have e := own_pl off ln ho hl hs
  constructor
  · intro h; rw [h.2] at hlt; omega
  · intro h
    have q := h en.toNatClampNeg (by simp only [Int32.toNatClampNeg]; omega) (by simp only [Int32.toNatClampNeg]; omega)
    rcases hc with hc | hc
    · exact absurd hc q.2.1
    · exact absurd hc q.2.2
theorem own_Rs (off ln en pt : Int32) (f : Nat → Int32) (ho : 0 ≤ off.toInt) (hl : 0 ≤ ln.toInt) (hs : off.toInt + ln.toInt ≤ 5) (y1 : off.toInt ≤ en.toInt ∧ en.toInt ≤ off.toInt + ln.toInt) (y4 : (off.toInt + ln.toInt - en.toInt).toNat = 0) (hJ : own_J f off en pt) : own_R f off (off + ln) pt en := by
  have e := own_pl off ln ho hl hs
  have q : en = off + ln := by rw [← Int32.toInt_inj]; omega
  obtain ⟨j1, j2⟩ := hJ
  rw [q] at j1 j2
  constructor
  · intro h i i1 i2
    rcases j2 with j2 | j2
    · exact ⟨j2.2 i i1 i2, j1 i i1 i2⟩
    · omega
  · intro h
    refine ⟨?_, q⟩
    rcases j2 with j2 | ⟨k1, k2, k3, k4⟩
    · exact j2.1
    · exact absurd k4 (h pt.toInt.toNat (by omega) (by omega)).1
theorem own_n1 (off ln en : Int32) (ho : 0 ≤ off.toInt) (hl : 0 ≤ ln.toInt) (hs : off.toInt + ln.toInt ≤ 5) (y1 : off.toInt ≤ en.toInt ∧ en.toInt ≤ off.toInt + ln.toInt) (hlt : en.toInt < off.toInt + ln.toInt) : off.toInt ≤ (en + (1 : Int32)).toInt ∧ (en + (1 : Int32)).toInt ≤ off.toInt + ln.toInt := by
  rw [own_inc en (by omega) (by omega)]; omega
theorem own_n2 (off ln en dg : Int32) (ho : 0 ≤ off.toInt) (hl : 0 ≤ ln.toInt) (hs : off.toInt + ln.toInt ≤ 5) (y1 : off.toInt ≤ en.toInt ∧ en.toInt ≤ off.toInt + ln.toInt) (y2 : dg.toInt ≤ en.toInt) (hlt : en.toInt < off.toInt + ln.toInt) : dg.toInt ≤ (en + (1 : Int32)).toInt := by
  rw [own_inc en (by omega) (by omega)]; omega
theorem own_n3t (off ln en dg pt : Int32) (ho : 0 ≤ off.toInt) (hl : 0 ≤ ln.toInt) (hs : off.toInt + ln.toInt ≤ 5) (y1 : off.toInt ≤ en.toInt ∧ en.toInt ≤ off.toInt + ln.toInt) (y2 : dg.toInt ≤ en.toInt) (y3 : 0 ≤ pt.toInt → dg.toInt ≤ pt.toInt ∧ pt.toInt < en.toInt) (hlt : en.toInt < off.toInt + ln.toInt) : 0 ≤ en.toInt → dg.toInt ≤ en.toInt ∧ en.toInt < (en + (1 : Int32)).toInt := by
  rw [own_inc en (by omega) (by omega)]; omega
theorem own_n3f (off ln en dg pt : Int32) (ho : 0 ≤ off.toInt) (hl : 0 ≤ ln.toInt) (hs : off.toInt + ln.toInt ≤ 5) (y1 : off.toInt ≤ en.toInt ∧ en.toInt ≤ off.toInt + ln.toInt) (y2 : dg.toInt ≤ en.toInt) (y3 : 0 ≤ pt.toInt → dg.toInt ≤ pt.toInt ∧ pt.toInt < en.toInt) (hlt : en.toInt < off.toInt + ln.toInt) : 0 ≤ pt.toInt → dg.toInt ≤ pt.toInt ∧ pt.toInt < (en + (1 : Int32)).toInt := by
  intro h; have := y3 h; rw [own_inc en (by omega) (by omega)]; omega
theorem own_n5 (off ln en : Int32) (kk : Nat) (ho : 0 ≤ off.toInt) (hl : 0 ≤ ln.toInt) (hs : off.toInt + ln.toInt ≤ 5) (y1 : off.toInt ≤ en.toInt ∧ en.toInt ≤ off.toInt + ln.toInt) (y4 : (off.toInt + ln.toInt - en.toInt).toNat = kk + 1) : (off.toInt + ln.toInt - (en + (1 : Int32)).toInt).toNat = kk := by
  rw [own_inc en (by omega) (by omega)]; omega
theorem own_at (en : Int32) (i : Nat) (h0 : 0 ≤ en.toInt) (h1 : ¬ (i : Int) < en.toInt) (h2 : (i : Int) < en.toInt + 1) : i = en.toNatClampNeg := by simp only [Int32.toNatClampNeg]; omega
theorem own_n4t (off ln en pt : Int32) (f : Nat → Int32) (ho : 0 ≤ off.toInt) (hl : 0 ≤ ln.toInt) (hs : off.toInt + ln.toInt ≤ 5) (y1 : off.toInt ≤ en.toInt ∧ en.toInt ≤ off.toInt + ln.toInt) (hlt : en.toInt < off.toInt + ln.toInt) (hJ : own_J f off en pt) (h1 : ¬ f en.toNatClampNeg = (101 : Int32)) (h2 : ¬ f en.toNatClampNeg = (69 : Int32)) (h3 : f en.toNatClampNeg = (46 : Int32)) : own_J f off (en + (1 : Int32)) en := by
  have e := own_inc en (by omega) (by omega)
  refine ⟨fun i i1 i2 => ?_, Or.inr ⟨by omega, by omega, by omega, h3⟩⟩
  rw [e] at i2
  by_cases q : (i : Int) < en.toInt
  · exact hJ.1 i i1 q
  · rw [own_at en i (by omega) q i2]; exact ⟨h1, h2⟩
theorem own_n4f (off ln en pt : Int32) (f : Nat → Int32) (ho : 0 ≤ off.toInt) (hl : 0 ≤ ln.toInt) (hs : off.toInt + ln.toInt ≤ 5) (y1 : off.toInt ≤ en.toInt ∧ en.toInt ≤ off.toInt + ln.toInt) (hlt : en.toInt < off.toInt + ln.toInt) (hJ : own_J f off en pt) (h1 : ¬ f en.toNatClampNeg = (101 : Int32)) (h2 : ¬ f en.toNatClampNeg = (69 : Int32)) (h3 : ¬ f en.toNatClampNeg = (46 : Int32)) : own_J f off (en + (1 : Int32)) pt := by
  have e := own_inc en (by omega) (by omega)
  refine ⟨fun i i1 i2 => ?_, ?_⟩
  · rw [e] at i2
    by_cases q : (i : Int) < en.toInt
    · exact hJ.1 i i1 q
    · rw [own_at en i (by omega) q i2]; exact ⟨h1, h2⟩
  · rcases hJ.2 with j | j
    · refine Or.inl ⟨j.1, fun i i1 i2 => ?_⟩
      rw [e] at i2
      by_cases q : (i : Int) < en.toInt
      · exact j.2 i i1 q
      · rw [own_at en i (by omega) q i2]; exact h3
    · exact Or.inr ⟨j.1, j.2.1, by omega, j.2.2.2⟩
theorem own_J0 (f : Nat → Int32) (off : Int32) : own_J f off off (-1 : Int32) := ⟨fun i i1 i2 => by omega, Or.inl ⟨by decide, fun i i1 i2 => by omega⟩⟩
theorem own_o (off ln : Int32) (ho : 0 ≤ off.toInt) (hs : off.toInt + ln.toInt ≤ 5) (hc : (0 : Int32) < ln) : (off + (1 : Int32)).toInt = off.toInt + 1 ∧ off.toInt + 1 ≤ off.toInt + ln.toInt := by
  rw [Int32.lt_iff_toInt_lt, own_z] at hc; rw [own_inc off ho (by omega)]; omega
theorem own_o1 (off ln : Int32) (ho : 0 ≤ off.toInt) (hs : off.toInt + ln.toInt ≤ 5) (hc : (0 : Int32) < ln) : 0 ≤ (off + (1 : Int32)).toInt := by have := own_o off ln ho hs hc; omega
theorem own_o1' (off ln : Int32) (ho : 0 ≤ off.toInt) (hs : off.toInt + ln.toInt ≤ 5) (hc : (0 : Int32) < ln) : off.toInt ≤ (off + (1 : Int32)).toInt := by have := own_o off ln ho hs hc; omega
theorem own_o2 (off ln : Int32) (ho : 0 ≤ off.toInt) (hs : off.toInt + ln.toInt ≤ 5) (hc : (0 : Int32) < ln) : (off + (1 : Int32)).toInt ≤ off.toInt + ln.toInt := by have := own_o off ln ho hs hc; omega
theorem own_o3 (off ln : Int32) (ho : 0 ≤ off.toInt) (hs : off.toInt + ln.toInt ≤ 5) (hc : (0 : Int32) < ln) : ¬ off < 0 ∧ off.toNatClampNeg < 5 := by
  rw [Int32.lt_iff_toInt_lt, own_z] at hc; exact own_in _ 5 ho (by omega)
theorem own_J1 (f : Nat → Int32) (off ln : Int32) (ho : 0 ≤ off.toInt) (hs : off.toInt + ln.toInt ≤ 5) (hc : (0 : Int32) < ln) (h : f off.toNatClampNeg = (45 : Int32)) : own_J f off (off + (1 : Int32)) (-1 : Int32) := by
  have e := (own_o off ln ho hs hc).1
  refine ⟨fun i i1 i2 => ?_, Or.inl ⟨by decide, fun i i1 i2 => ?_⟩⟩
  · rw [own_at off i ho (by omega) (by omega), h]; decide
  · rw [own_at off i ho (by omega) (by omega), h]; decide
/-! the law's own helpers -/
def own_int (pt en sp : Int32) : Int32 := if pt < (0 : Int32) then (if en = sp then (1 : Int32) else (0 : Int32)) else (0 : Int32)
def own_bad (c : Int32) : Int32 := if c = (46 : Int32) then (1 : Int32) else if c = (101 : Int32) then (1 : Int32) else if c = (69 : Int32) then (1 : Int32) else (0 : Int32)
def own_hit (f : Nat → Int32) (i off ln : Int32) : Int32 := if i < off then (0 : Int32) else if i < (off + ln) then (if own_bad (f i.toNatClampNeg) = (0 : Int32) then (0 : Int32) else (1 : Int32)) else (0 : Int32)
def own_exp (f : Nat → Int32) (off ln : Int32) : Int32 :=
  if own_hit f (0 : Int32) off ln = (0 : Int32) then (if own_hit f (1 : Int32) off ln = (0 : Int32) then (if own_hit f (2 : Int32) off ln = (0 : Int32) then (if own_hit f (3 : Int32) off ln = (0 : Int32) then (if own_hit f (4 : Int32) off ln = (0 : Int32) then (1 : Int32) else (0 : Int32)) else (0 : Int32)) else (0 : Int32)) else (0 : Int32)) else (0 : Int32)
theorem own_bad0 (c : Int32) : own_bad c = (0 : Int32) ↔ c ≠ 46 ∧ c ≠ 101 ∧ c ≠ 69 := by
  unfold own_bad
  by_cases h1 : c = (46 : Int32)
  · simp [h1]
  · by_cases h2 : c = (101 : Int32)
    · simp [h2]
    · by_cases h3 : c = (69 : Int32)
      · simp [h3]
      · simp [h1, h2, h3]
theorem own_hit0 (f : Nat → Int32) (i off ln : Int32) (k : Nat) (hk : i.toInt = k) (ho : 0 ≤ off.toInt) (hl : 0 ≤ ln.toInt) (hs : off.toInt + ln.toInt ≤ 5) : own_hit f i off ln = (0 : Int32) ↔ (off.toInt ≤ k → (k : Int) < off.toInt + ln.toInt → f k ≠ 46 ∧ f k ≠ 101 ∧ f k ≠ 69) := by
  have e := own_pl off ln ho hl hs
  have ek : i.toNatClampNeg = k := by simp only [Int32.toNatClampNeg]; omega
  unfold own_hit
  rw [ek, ← own_bad0]
  by_cases h1 : i < off
  · rw [if_pos h1]; rw [Int32.lt_iff_toInt_lt, hk] at h1; exact ⟨fun _ h => absurd h (by omega), fun _ => rfl⟩
  · rw [if_neg h1]; rw [Int32.lt_iff_toInt_lt, hk] at h1
    by_cases h2 : i < (off + ln)
    · rw [if_pos h2]; rw [Int32.lt_iff_toInt_lt, hk, e] at h2
      by_cases h3 : own_bad (f k) = (0 : Int32)
      · simp [h3]
      · rw [if_neg h3]; exact ⟨fun h => absurd h (by decide), fun h => absurd (h (by omega) h2) h3⟩
    · rw [if_neg h2]; rw [Int32.lt_iff_toInt_lt, hk, e] at h2; exact ⟨fun _ _ h => absurd h h2, fun _ => rfl⟩
theorem own_cmp (f : Nat → Int32) (off ln pt en : Int32) (ho : 0 ≤ off.toInt) (hl : 0 ≤ ln.toInt) (hs : off.toInt + ln.toInt ≤ 5) (hR : own_R f off (off + ln) pt en) : own_int pt en (off + ln) = own_exp f off ln := by
  have e := own_pl off ln ho hl hs
  have a0 := own_hit0 f 0 off ln 0 rfl ho hl hs
  have a1 := own_hit0 f 1 off ln 1 rfl ho hl hs
  have a2 := own_hit0 f 2 off ln 2 rfl ho hl hs
  have a3 := own_hit0 f 3 off ln 3 rfl ho hl hs
  have a4 := own_hit0 f 4 off ln 4 rfl ho hl hs
  unfold own_R at hR
  rw [e] at hR
  by_cases hA : ∀ i : Nat, off.toInt ≤ i → (i : Int) < off.toInt + ln.toInt → f i ≠ 46 ∧ f i ≠ 101 ∧ f i ≠ 69
  · obtain ⟨h1, h2⟩ := hR.mpr hA
    have q : pt < (0 : Int32) := by rw [Int32.lt_iff_toInt_lt, own_z]; exact h1
    unfold own_int own_exp
    rw [if_pos q, if_pos h2, if_pos (a0.mpr (hA 0)), if_pos (a1.mpr (hA 1)), if_pos (a2.mpr (hA 2)), if_pos (a3.mpr (hA 3)), if_pos (a4.mpr (hA 4))]
  · have l : own_int pt en (off + ln) = (0 : Int32) := by
      unfold own_int
      by_cases q : pt < (0 : Int32)
      · rw [if_pos q]
        by_cases q2 : en = off + ln
        · rw [Int32.lt_iff_toInt_lt, own_z] at q
          exact absurd (hR.mp ⟨q, q2⟩) hA
        · rw [if_neg q2]
      · rw [if_neg q]
    rw [l]
    unfold own_exp
    by_cases q0 : own_hit f (0 : Int32) off ln = (0 : Int32)
    · rw [if_pos q0]
      by_cases q1 : own_hit f (1 : Int32) off ln = (0 : Int32)
      · rw [if_pos q1]
        by_cases q2 : own_hit f (2 : Int32) off ln = (0 : Int32)
        · rw [if_pos q2]
          by_cases q3 : own_hit f (3 : Int32) off ln = (0 : Int32)
          · rw [if_pos q3]
            by_cases q4 : own_hit f (4 : Int32) off ln = (0 : Int32)
            · exfalso; apply hA
              intro i i1 i2
              have : i = 0 ∨ i = 1 ∨ i = 2 ∨ i = 3 ∨ i = 4 := by omega
              rcases this with rfl | rfl | rfl | rfl | rfl
              · exact a0.mp q0 i1 i2
              · exact a1.mp q1 i1 i2
              · exact a2.mp q2 i1 i2
              · exact a3.mp q3 i1 i2
              · exact a4.mp q4 i1 i2
            · rw [if_neg q4]
          · rw [if_neg q3]
        · rw [if_neg q2]
      · rw [if_neg q1]
    · rw [if_neg q0]
theorem own_of1 (q : Int32) : 0 ≤ (q &&& (1 : Int32)).toInt ∧ (q &&& (1 : Int32)).toInt ≤ 1 := by
  have e := c_mask q 1 1 (by decide) (by decide)
  have l1 := Int.emod_nonneg q.toInt (show ((2 ^ 1 : Nat) : Int) ≠ 0 by decide)
  have l2 := Int.emod_lt_of_pos q.toInt (show (0 : Int) < ((2 ^ 1 : Nat) : Int) by decide)
  rw [e]; omega
theorem own_six (o : Int32) (h : 0 ≤ o.toInt ∧ o.toInt ≤ 1) : ((6 : Int32) - o).toInt = 6 - o.toInt := by
  have a := c_isub 6 o; rw [show (6 : Int32).toInt = 6 from rfl] at a; have := rng32 (6 - o); omega
theorem own_nz6 (o : Int32) (h : 0 ≤ o.toInt ∧ o.toInt ≤ 1) : ((6 : Int32) - o) ≠ 0 := fun e => by
  have := own_six o h; rw [e, own_z] at this; omega
theorem own_ln1 (q o : Int32) (h : 0 ≤ o.toInt ∧ o.toInt ≤ 1) : 0 ≤ (((((q.toUInt32 >>> ((1 : Int32) &&& 31).toUInt32).toInt32) &&& (7 : Int32)) % ((6 : Int32) - o))).toInt ∧ o.toInt + (((((q.toUInt32 >>> ((1 : Int32) &&& 31).toUInt32).toInt32) &&& (7 : Int32)) % ((6 : Int32) - o))).toInt ≤ 5 := by
  have e := own_six o h
  have c := c_and ((q.toUInt32 >>> ((1 : Int32) &&& 31).toUInt32).toInt32) 7 (by decide)
  generalize (((q.toUInt32 >>> ((1 : Int32) &&& 31).toUInt32).toInt32) &&& (7 : Int32)) = w at *
  have d := (c_iremV w ((6 : Int32) - o)).1 c.1 (by omega)
  omega
theorem own_d_ini_0 : decode prog_3_method_1_code 0 = .ok (.aload_n 0, 1) := by decide +kernel
theorem own_d_ini_1 : decode prog_3_method_1_code 1 = .ok (.invokespecial 3, 3) := by decide +kernel
theorem own_d_ini_4 : decode prog_3_method_1_code 4 = .ok (.return_, 1) := by decide +kernel
theorem own_pn_com_example_enumconv_enumconv_core_Decimal_Reading : plainName "com/example/enumconv/enumconv/core/Decimal$Reading" = true := by first | (simp [plainName, overriddenIn]; done) | decide +kernel
theorem own_ef_ini (m : MethodId) (a : Addr) : entryFrame m #[(.ref a)] 1 = mkF m 0 #[.val (.ref a)] [] := by first | (simp [entryFrame, mkF, argsToLocals, Value.category]; done) | rfl
def own_Q_ini (Z : State) (a : Addr) (h0 : Heap) (n0 : Nat) (v : Option Value) (h : Heap) (L : List Loc) : Prop := v = none ∧ Fr n0 L ∧ h = h0
set_option maxRecDepth 65536 in
set_option maxHeartbeats 40000000 in
theorem own_rm_ini (l : Launch) (Z : State) (a0 : Array Value) (hw : ∀ d ∈ tables_1, d.before a0 Z = true) (ws : List Jvm.Cond) (a : Addr) (h0 : Heap) (n0 : Nat) (Z0 : n0 ≤ h0.size) :
    MetFree l (⟨"com/example/enumconv/enumconv/core/Decimal$Reading", "<init>", "()V"⟩ : MethodName) (head1 (Jvm.Cond.code (⟨"com/example/enumconv/enumconv/core/Decimal$Reading", "<init>", "()V"⟩ : MethodName) prog_3_method_1_code 1 none :: ws) ({ frames := 1, cells := 0, slots := 0, locals := 12 } : Room)) (fun a_ U_ => a_ = #[(.ref a)] ∧ Z.Warmed39 U_.vm ∧ U_.heap = h0) (fun _ _ _ _ _ => True) (fun _ U_ o_ U'_ => ∃ v_ L_, o_ = .returned v_ ∧ own_Q_ini Z a h0 n0 v_ U'_.heap L_ ∧ FrameEnd U_ o_ U'_ L_ ({ frames := 1, cells := 0, slots := 0, locals := 12 } : Room).cells ({ frames := 1, cells := 0, slots := 0, locals := 12 } : Room).slots) := by
  refine MetFree.of_bodySF (plainFor_of_name own_pn_com_example_enumconv_enumconv_core_Decimal_Reading) hisR ?_
  intro p e s m args below meth c s₁ Bd hml0 hP hK
  obtain ⟨rfl, hZ, hh⟩ := hP
  have hx := Bd.exec
  have hby := Bd.bytes
  have hlk : meth.locks = false := BodyLoose.notSynchronized Bd
  have hml : c.maxLocals = 1 := hml0
  have hown : s.vm.findClass "com/example/enumconv/enumconv/core/Decimal$Reading" = some m.cls := findClass_of_methodNamed Bd.named
  have hnm := (name_of_methodNamed Bd.named Bd.method).1
  have X0 : Stand p l e ({ frames := 1, cells := 0, slots := 0, locals := 12 } : Room) s m #[(.ref a)] below meth c s₁ [] 0 0 := Stand.of_body Bd
  have e0 : s₁.heap = h0 := by rw [← hh, Bd.state]; rfl
  have N0 := Fr.nil n0
  show own_Goes p e below (own_K (own_Q_ini Z a h0 n0) s ({ frames := 1, cells := 0, slots := 0, locals := 12 } : Room).cells ({ frames := 1, cells := 0, slots := 0, locals := 12 } : Room).slots) s₁ (entryFrame m #[(.ref a)] 1)
  rw [own_ef_ini]
  refine own_by (T' := s₁) (g' := (mkF m 1 #[.val (.ref a)] [(.ref a)])) (fun t_ k_ => XS.aloadN X0.here hx rfl (hb hby own_d_ini_0) rfl rfl k_) ?_
  obtain ⟨T1, X1, e1, st1⟩ := initO X0 hx hZ hown (hw _ (List.mem_of_getElem? (i := 7) rfl)) (hw _ (List.mem_of_getElem? (i := 8) rfl)) (hw _ (List.mem_of_getElem? (i := 9) rfl)) e0 (g := (mkF m 1 #[.val (.ref a)] [(.ref a)])) rfl (by rw [hml]; rfl) rfl (hb hby own_d_ini_1) (by decide) (W := 0) (by show 2 * 0 + _ ≤ _; exact Nat.le_of_eq rfl) (by decide)
  refine own_by (T' := T1) (g' := (mkF m 4 #[.val (.ref a)] [])) st1 ?_
  refine own_ret0 X1 hx Bd.returns hlk (hb hby own_d_ini_4) (by decide) (by decide) ?_
  rw [e1]
  exact ⟨rfl, N0, rfl⟩
theorem own_d_mi_0 : decode jdk_29_method_69_code 0 = .ok (.iload_n 0, 1) := by decide +kernel
theorem own_d_mi_1 : decode jdk_29_method_69_code 1 = .ok (.iload_n 1, 1) := by decide +kernel
theorem own_d_mi_2 : decode jdk_29_method_69_code 2 = .ok (.if_icmp .gt 7, 3) := by decide +kernel
theorem own_d_mi_5 : decode jdk_29_method_69_code 5 = .ok (.iload_n 0, 1) := by decide +kernel
theorem own_d_mi_6 : decode jdk_29_method_69_code 6 = .ok (.goto 4, 3) := by decide +kernel
theorem own_d_mi_9 : decode jdk_29_method_69_code 9 = .ok (.iload_n 1, 1) := by decide +kernel
theorem own_d_mi_10 : decode jdk_29_method_69_code 10 = .ok (.ireturn, 1) := by decide +kernel
theorem own_ef_mi (m : MethodId) (xa : Int32) (xb : Int32) : entryFrame m #[(.int xa), (.int xb)] 2 = mkF m 0 #[.val (.int xa), .val (.int xb)] [] := by first | (simp [entryFrame, mkF, argsToLocals, Value.category]; done) | rfl
def own_Q_mi (Z : State) (xa : Int32) (xb : Int32) (h0 : Heap) (n0 : Nat) (v : Option Value) (h : Heap) (L : List Loc) : Prop := v = some (.int (if xb < xa then xb else xa)) ∧ Fr n0 L ∧ h = h0
set_option maxRecDepth 65536 in
set_option maxHeartbeats 40000000 in
theorem own_rm_mi (l : Launch) (Z : State) (a0 : Array Value) (hw : ∀ d ∈ tables_1, d.before a0 Z = true) (ws : List Jvm.Cond) (xa : Int32) (xb : Int32) (h0 : Heap) (n0 : Nat) (Z0 : n0 ≤ h0.size) :
    MetFree l (⟨"java/lang/Math", "min", "(II)I"⟩ : MethodName) (head1 (Jvm.Cond.code (⟨"java/lang/Math", "min", "(II)I"⟩ : MethodName) jdk_29_method_69_code 2 (some .int) :: ws) ({ frames := 0, cells := 0, slots := 0, locals := 0 } : Room)) (fun a_ U_ => a_ = #[(.int xa), (.int xb)] ∧ Z.Warmed39 U_.vm ∧ U_.heap = h0) (fun _ _ _ _ _ => True) (fun _ U_ o_ U'_ => ∃ v_ L_, o_ = .returned v_ ∧ own_Q_mi Z xa xb h0 n0 v_ U'_.heap L_ ∧ FrameEnd U_ o_ U'_ L_ ({ frames := 0, cells := 0, slots := 0, locals := 0 } : Room).cells ({ frames := 0, cells := 0, slots := 0, locals := 0 } : Room).slots) := by
  refine MetFree.of_bodySF (Jvm.Free.JP.mathPlain rfl (by decide +kernel)) hisR ?_
  intro p e s m args below meth c s₁ Bd hml0 hP hK
  obtain ⟨rfl, hZ, hh⟩ := hP
  have hx := Bd.exec
  have hby := Bd.bytes
  have hlk : meth.locks = false := BodyLoose.notSynchronized Bd
  have hml : c.maxLocals = 2 := hml0
  have hown : s.vm.findClass "java/lang/Math" = some m.cls := findClass_of_methodNamed Bd.named
  have hnm := (name_of_methodNamed Bd.named Bd.method).1
  have X0 : Stand p l e ({ frames := 0, cells := 0, slots := 0, locals := 0 } : Room) s m #[(.int xa), (.int xb)] below meth c s₁ [] 0 0 := Stand.of_body Bd
  have e0 : s₁.heap = h0 := by rw [← hh, Bd.state]; rfl
  have N0 := Fr.nil n0
  show own_Goes p e below (own_K (own_Q_mi Z xa xb h0 n0) s ({ frames := 0, cells := 0, slots := 0, locals := 0 } : Room).cells ({ frames := 0, cells := 0, slots := 0, locals := 0 } : Room).slots) s₁ (entryFrame m #[(.int xa), (.int xb)] 2)
  rw [own_ef_mi]
  refine own_by (T' := s₁) (g' := (mkF m 1 #[.val (.int xa), .val (.int xb)] [(.int xa)])) (fun t_ k_ => XS.iloadN X0.here hx rfl (hb hby own_d_mi_0) rfl k_) ?_
  refine own_by (T' := s₁) (g' := (mkF m 2 #[.val (.int xa), .val (.int xb)] [(.int xb), (.int xa)])) (fun t_ k_ => XS.iloadN X0.here hx rfl (hb hby own_d_mi_1) rfl k_) ?_
  by_cases c2_1 : xb < xa
  · skip
    refine own_by (T' := s₁) (g' := (mkF m 9 #[.val (.int xa), .val (.int xb)] [])) (fun t_ k_ => XS.icmpYes X0.here hx rfl (pc0 := 2) (pc' := 9) rfl (hb hby own_d_mi_2) rfl (tlt (c2_1 : xb < xa)).2.2.1 (by decide) (by decide) k_) ?_
    refine own_by (T' := s₁) (g' := (mkF m 10 #[.val (.int xa), .val (.int xb)] [(.int xb)])) (fun t_ k_ => XS.iloadN X0.here hx rfl (hb hby own_d_mi_9) rfl k_) ?_
    refine own_retI X0 hx Bd.returns hlk (hb hby own_d_mi_10) (by decide) (by decide) ?_
    rw [e0]
    exact ⟨by simp [c2_1], N0, rfl⟩
  · skip
    refine own_by (T' := s₁) (g' := (mkF m 5 #[.val (.int xa), .val (.int xb)] [])) (fun t_ k_ => XS.icmpNo X0.here hx rfl (hb hby own_d_mi_2) rfl (flt (c2_1 : ¬ (xb < xa))).2.2.1 k_) ?_
    refine own_by (T' := s₁) (g' := (mkF m 6 #[.val (.int xa), .val (.int xb)] [(.int xa)])) (fun t_ k_ => XS.iloadN X0.here hx rfl (hb hby own_d_mi_5) rfl k_) ?_
    refine own_by (T' := s₁) (g' := (mkF m 10 #[.val (.int xa), .val (.int xb)] [(.int xa)])) (fun t_ k_ => XS.goto X0.here hx rfl (pc0 := 6) (pc' := 10) rfl (hb hby own_d_mi_6) (by decide) (by decide) k_) ?_
    refine own_retI X0 hx Bd.returns hlk (hb hby own_d_mi_10) (by decide) (by decide) ?_
    rw [e0]
    exact ⟨by simp [c2_1], N0, rfl⟩
theorem own_d_dgt_0 : decode prog_3_method_10_code 0 = .ok (.aload_n 0, 1) := by decide +kernel
theorem own_d_dgt_1 : decode prog_3_method_10_code 1 = .ok (.getfield 41, 3) := by decide +kernel
theorem own_d_dgt_4 : decode prog_3_method_10_code 4 = .ok (.iload_n 1, 1) := by decide +kernel
theorem own_d_dgt_5 : decode prog_3_method_10_code 5 = .ok (.iadd, 1) := by decide +kernel
theorem own_d_dgt_6 : decode prog_3_method_10_code 6 = .ok (.istore_n 2, 1) := by decide +kernel
theorem own_d_dgt_7 : decode prog_3_method_10_code 7 = .ok (.aload_n 0, 1) := by decide +kernel
theorem own_d_dgt_8 : decode prog_3_method_10_code 8 = .ok (.getfield 26, 3) := by decide +kernel
theorem own_d_dgt_11 : decode prog_3_method_10_code 11 = .ok (.aload_n 0, 1) := by decide +kernel
theorem own_d_dgt_12 : decode prog_3_method_10_code 12 = .ok (.getfield 47, 3) := by decide +kernel
theorem own_d_dgt_15 : decode prog_3_method_10_code 15 = .ok (.ifCond .lt 17, 3) := by decide +kernel
theorem own_d_dgt_18 : decode prog_3_method_10_code 18 = .ok (.iload_n 2, 1) := by decide +kernel
theorem own_d_dgt_19 : decode prog_3_method_10_code 19 = .ok (.aload_n 0, 1) := by decide +kernel
theorem own_d_dgt_20 : decode prog_3_method_10_code 20 = .ok (.getfield 47, 3) := by decide +kernel
theorem own_d_dgt_23 : decode prog_3_method_10_code 23 = .ok (.if_icmp .lt 9, 3) := by decide +kernel
theorem own_d_dgt_26 : decode prog_3_method_10_code 26 = .ok (.iload_n 2, 1) := by decide +kernel
theorem own_d_dgt_27 : decode prog_3_method_10_code 27 = .ok (.iconst 1, 1) := by decide +kernel
theorem own_d_dgt_28 : decode prog_3_method_10_code 28 = .ok (.iadd, 1) := by decide +kernel
theorem own_d_dgt_29 : decode prog_3_method_10_code 29 = .ok (.goto 4, 3) := by decide +kernel
theorem own_d_dgt_32 : decode prog_3_method_10_code 32 = .ok (.iload_n 2, 1) := by decide +kernel
theorem own_d_dgt_33 : decode prog_3_method_10_code 33 = .ok (.caload, 1) := by decide +kernel
theorem own_d_dgt_34 : decode prog_3_method_10_code 34 = .ok (.ireturn, 1) := by decide +kernel
theorem own_ef_dgt (m : MethodId) (a : Addr) (i : Int32) : entryFrame m #[(.ref a), (.int i)] 3 = mkF m 0 #[.val (.ref a), .val (.int i), .unset] [] := by first | (simp [entryFrame, mkF, argsToLocals, Value.category]; done) | rfl
def own_Q_dgt (Z : State) (a : Addr) (i : Int32) (dg : Int32) (tx : Addr) (pt : Int32) (f : Nat → Int32) (h0 : Heap) (n0 : Nat) (v : Option Value) (h : Heap) (L : List Loc) : Prop := ∃ d, v = some (.int d) ∧ Fr n0 L ∧ h = h0
set_option maxRecDepth 65536 in
set_option maxHeartbeats 40000000 in
theorem own_rm_dgt (l : Launch) (Z : State) (a0 : Array Value) (hw : ∀ d ∈ tables_1, d.before a0 Z = true) (ws : List Jvm.Cond) (a : Addr) (i : Int32) (dg : Int32) (tx : Addr) (pt : Int32) (f : Nat → Int32) (h0 : Heap) (n0 : Nat) (Z0 : n0 ≤ h0.size) (F1 : Fld Z h0 a "com/example/enumconv/enumconv/core/Decimal$Reading" "digitsAt" "I" (.int dg)) (F2 : Fld Z h0 a "com/example/enumconv/enumconv/core/Decimal$Reading" "text" "[C" (.ref tx)) (F3 : Fld Z h0 a "com/example/enumconv/enumconv/core/Decimal$Reading" "point" "I" (.int pt)) (V0 : own_Ia Z h0 tx .char 5 f) (b1 : 0 ≤ dg.toInt ∧ 0 ≤ i.toInt ∧ dg.toInt + i.toInt < 5) (b2 : 0 ≤ pt.toInt → dg.toInt + i.toInt + 1 < 5) :
    MetFree l (⟨"com/example/enumconv/enumconv/core/Decimal$Reading", "digit", "(I)C"⟩ : MethodName) (head1 (Jvm.Cond.code (⟨"com/example/enumconv/enumconv/core/Decimal$Reading", "digit", "(I)C"⟩ : MethodName) prog_3_method_10_code 3 (some .char) :: ws) ({ frames := 0, cells := 0, slots := 0, locals := 0 } : Room)) (fun a_ U_ => a_ = #[(.ref a), (.int i)] ∧ Z.Warmed39 U_.vm ∧ U_.heap = h0) (fun _ _ _ _ _ => True) (fun _ U_ o_ U'_ => ∃ v_ L_, o_ = .returned v_ ∧ own_Q_dgt Z a i dg tx pt f h0 n0 v_ U'_.heap L_ ∧ FrameEnd U_ o_ U'_ L_ ({ frames := 0, cells := 0, slots := 0, locals := 0 } : Room).cells ({ frames := 0, cells := 0, slots := 0, locals := 0 } : Room).slots) := by
  refine MetFree.of_bodySF (plainFor_of_name own_pn_com_example_enumconv_enumconv_core_Decimal_Reading) hisR ?_
  intro p e s m args below meth c s₁ Bd hml0 hP hK
  obtain ⟨rfl, hZ, hh⟩ := hP
  have hx := Bd.exec
  have hby := Bd.bytes
  have hlk : meth.locks = false := BodyLoose.notSynchronized Bd
  have hml : c.maxLocals = 3 := hml0
  have hown : s.vm.findClass "com/example/enumconv/enumconv/core/Decimal$Reading" = some m.cls := findClass_of_methodNamed Bd.named
  have hnm := (name_of_methodNamed Bd.named Bd.method).1
  have X0 : Stand p l e ({ frames := 0, cells := 0, slots := 0, locals := 0 } : Room) s m #[(.ref a), (.int i)] below meth c s₁ [] 0 0 := Stand.of_body Bd
  have e0 : s₁.heap = h0 := by rw [← hh, Bd.state]; rfl
  have N0 := Fr.nil n0
  show own_Goes p e below (own_K (own_Q_dgt Z a i dg tx pt f h0 n0) s ({ frames := 0, cells := 0, slots := 0, locals := 0 } : Room).cells ({ frames := 0, cells := 0, slots := 0, locals := 0 } : Room).slots) s₁ (entryFrame m #[(.ref a), (.int i)] 3)
  rw [own_ef_dgt]
  refine own_by (T' := s₁) (g' := (mkF m 1 #[.val (.ref a), .val (.int i), .unset] [(.ref a)])) (fun t_ k_ => XS.aloadN X0.here hx rfl (hb hby own_d_dgt_0) rfl rfl k_) ?_
  obtain ⟨T1, X1, e1, st1⟩ := getF X0 hx hZ hown (host := "") (Or.inl (hw _ (List.mem_of_getElem? (i := 23) rfl))) Via.refl e0 F1 (g := (mkF m 1 #[.val (.ref a), .val (.int i), .unset] [(.ref a)])) rfl rfl (hb hby own_d_dgt_1)
  refine own_by (T' := T1) (g' := (mkF m 4 #[.val (.ref a), .val (.int i), .unset] [(.int dg)])) st1 ?_
  refine own_by (T' := T1) (g' := (mkF m 5 #[.val (.ref a), .val (.int i), .unset] [(.int i), (.int dg)])) (fun t_ k_ => XS.iloadN X1.here hx rfl (hb hby own_d_dgt_4) rfl k_) ?_
  refine own_by (T' := T1) (g' := (mkF m 6 #[.val (.ref a), .val (.int i), .unset] [(.int (dg + i))])) (fun t_ k_ => XS.iadd X1.here hx rfl (hb hby own_d_dgt_5) rfl k_) ?_
  refine own_by (T' := T1) (g' := (mkF m 7 #[.val (.ref a), .val (.int i), .val (.int (dg + i))] [])) (fun t_ k_ => XS.istoreN X1.here hx rfl (hb hby own_d_dgt_6) rfl (l' := #[.val (.ref a), .val (.int i), .val (.int (dg + i))]) rfl k_) ?_
  refine own_by (T' := T1) (g' := (mkF m 8 #[.val (.ref a), .val (.int i), .val (.int (dg + i))] [(.ref a)])) (fun t_ k_ => XS.aloadN X1.here hx rfl (hb hby own_d_dgt_7) rfl rfl k_) ?_
  obtain ⟨T2, X2, e2, st2⟩ := getF X1 hx hZ hown (host := "") (Or.inl (hw _ (List.mem_of_getElem? (i := 15) rfl))) Via.refl e1 F2 (g := (mkF m 8 #[.val (.ref a), .val (.int i), .val (.int (dg + i))] [(.ref a)])) rfl rfl (hb hby own_d_dgt_8)
  refine own_by (T' := T2) (g' := (mkF m 11 #[.val (.ref a), .val (.int i), .val (.int (dg + i))] [(.ref tx)])) st2 ?_
  refine own_by (T' := T2) (g' := (mkF m 12 #[.val (.ref a), .val (.int i), .val (.int (dg + i))] [(.ref a), (.ref tx)])) (fun t_ k_ => XS.aloadN X2.here hx rfl (hb hby own_d_dgt_11) rfl rfl k_) ?_
  obtain ⟨T3, X3, e3, st3⟩ := getF X2 hx hZ hown (host := "") (Or.inl (hw _ (List.mem_of_getElem? (i := 27) rfl))) Via.refl e2 F3 (g := (mkF m 12 #[.val (.ref a), .val (.int i), .val (.int (dg + i))] [(.ref a), (.ref tx)])) rfl rfl (hb hby own_d_dgt_12)
  refine own_by (T' := T3) (g' := (mkF m 15 #[.val (.ref a), .val (.int i), .val (.int (dg + i))] [(.int pt), (.ref tx)])) st3 ?_
  by_cases c15_4 : pt < (0 : Int32)
  · skip
    refine own_by (T' := T3) (g' := (mkF m 32 #[.val (.ref a), .val (.int i), .val (.int (dg + i))] [(.ref tx)])) (fun t_ k_ => XS.ifYes X3.here hx rfl (pc0 := 15) (pc' := 32) rfl (hb hby own_d_dgt_15) rfl ((if0 _ _).trans (tlt (c15_4 : pt < (0 : Int32))).1) (by decide) (by decide) k_) ?_
    refine own_by (T' := T3) (g' := (mkF m 33 #[.val (.ref a), .val (.int i), .val (.int (dg + i))] [(.int (dg + i)), (.ref tx)])) (fun t_ k_ => XS.iloadN X3.here hx rfl (hb hby own_d_dgt_32) rfl k_) ?_
    refine own_by (T' := T3) (g' := (mkF m 34 #[.val (.ref a), .val (.int i), .val (.int (dg + i))] [(.int (f (dg + i).toNatClampNeg))])) (fun t_ k_ => own_cal X3 hx hZ e3 V0 (j := (dg + i)) (own_dx dg i 5 b1 (by omega)).1 (own_dx dg i 5 b1 (by omega)).2 (g := (mkF m 33 #[.val (.ref a), .val (.int i), .val (.int (dg + i))] [(.int (dg + i)), (.ref tx)])) rfl rfl (hb hby own_d_dgt_33) _ k_) ?_
    refine own_retN X3 hx (t := .char) Bd.returns hlk (by simp) (hb hby own_d_dgt_34) (by decide) (by decide) (v := (nar .char (f (dg + i).toNatClampNeg))) rfl ?_
    rw [e3]
    exact ⟨_, rfl, N0, rfl⟩
  · skip
    refine own_by (T' := T3) (g' := (mkF m 18 #[.val (.ref a), .val (.int i), .val (.int (dg + i))] [(.ref tx)])) (fun t_ k_ => XS.ifNo X3.here hx rfl (hb hby own_d_dgt_15) rfl ((if0 _ _).trans (flt (c15_4 : ¬ (pt < (0 : Int32)))).1) k_) ?_
    refine own_by (T' := T3) (g' := (mkF m 19 #[.val (.ref a), .val (.int i), .val (.int (dg + i))] [(.int (dg + i)), (.ref tx)])) (fun t_ k_ => XS.iloadN X3.here hx rfl (hb hby own_d_dgt_18) rfl k_) ?_
    refine own_by (T' := T3) (g' := (mkF m 20 #[.val (.ref a), .val (.int i), .val (.int (dg + i))] [(.ref a), (.int (dg + i)), (.ref tx)])) (fun t_ k_ => XS.aloadN X3.here hx rfl (hb hby own_d_dgt_19) rfl rfl k_) ?_
    obtain ⟨T5, X5, e5, st5⟩ := getF X3 hx hZ hown (host := "") (Or.inl (hw _ (List.mem_of_getElem? (i := 27) rfl))) Via.refl e3 F3 (g := (mkF m 20 #[.val (.ref a), .val (.int i), .val (.int (dg + i))] [(.ref a), (.int (dg + i)), (.ref tx)])) rfl rfl (hb hby own_d_dgt_20)
    refine own_by (T' := T5) (g' := (mkF m 23 #[.val (.ref a), .val (.int i), .val (.int (dg + i))] [(.int pt), (.int (dg + i)), (.ref tx)])) st5 ?_
    by_cases c23_6 : (dg + i) < pt
    · skip
      refine own_by (T' := T5) (g' := (mkF m 32 #[.val (.ref a), .val (.int i), .val (.int (dg + i))] [(.ref tx)])) (fun t_ k_ => XS.icmpYes X5.here hx rfl (pc0 := 23) (pc' := 32) rfl (hb hby own_d_dgt_23) rfl (tlt (c23_6 : (dg + i) < pt)).1 (by decide) (by decide) k_) ?_
      refine own_by (T' := T5) (g' := (mkF m 33 #[.val (.ref a), .val (.int i), .val (.int (dg + i))] [(.int (dg + i)), (.ref tx)])) (fun t_ k_ => XS.iloadN X5.here hx rfl (hb hby own_d_dgt_32) rfl k_) ?_
      refine own_by (T' := T5) (g' := (mkF m 34 #[.val (.ref a), .val (.int i), .val (.int (dg + i))] [(.int (f (dg + i).toNatClampNeg))])) (fun t_ k_ => own_cal X5 hx hZ e5 V0 (j := (dg + i)) (own_dx dg i 5 b1 (by omega)).1 (own_dx dg i 5 b1 (by omega)).2 (g := (mkF m 33 #[.val (.ref a), .val (.int i), .val (.int (dg + i))] [(.int (dg + i)), (.ref tx)])) rfl rfl (hb hby own_d_dgt_33) _ k_) ?_
      refine own_retN X5 hx (t := .char) Bd.returns hlk (by simp) (hb hby own_d_dgt_34) (by decide) (by decide) (v := (nar .char (f (dg + i).toNatClampNeg))) rfl ?_
      rw [e5]
      exact ⟨_, rfl, N0, rfl⟩
    · skip
      refine own_by (T' := T5) (g' := (mkF m 26 #[.val (.ref a), .val (.int i), .val (.int (dg + i))] [(.ref tx)])) (fun t_ k_ => XS.icmpNo X5.here hx rfl (hb hby own_d_dgt_23) rfl (flt (c23_6 : ¬ ((dg + i) < pt))).1 k_) ?_
      refine own_by (T' := T5) (g' := (mkF m 27 #[.val (.ref a), .val (.int i), .val (.int (dg + i))] [(.int (dg + i)), (.ref tx)])) (fun t_ k_ => XS.iloadN X5.here hx rfl (hb hby own_d_dgt_26) rfl k_) ?_
      refine own_by (T' := T5) (g' := (mkF m 28 #[.val (.ref a), .val (.int i), .val (.int (dg + i))] [(.int (1 : Int32)), (.int (dg + i)), (.ref tx)])) (fun t_ k_ => XS.iconst X5.here hx rfl (hb hby own_d_dgt_27) k_) ?_
      refine own_by (T' := T5) (g' := (mkF m 29 #[.val (.ref a), .val (.int i), .val (.int (dg + i))] [(.int ((dg + i) + (1 : Int32))), (.ref tx)])) (fun t_ k_ => XS.iadd X5.here hx rfl (hb hby own_d_dgt_28) rfl k_) ?_
      refine own_by (T' := T5) (g' := (mkF m 33 #[.val (.ref a), .val (.int i), .val (.int (dg + i))] [(.int ((dg + i) + (1 : Int32))), (.ref tx)])) (fun t_ k_ => XS.goto X5.here hx rfl (pc0 := 29) (pc' := 33) rfl (hb hby own_d_dgt_29) (by decide) (by decide) k_) ?_
      refine own_by (T' := T5) (g' := (mkF m 34 #[.val (.ref a), .val (.int i), .val (.int (dg + i))] [(.int (f (((dg + i) + (1 : Int32))).toNatClampNeg))])) (fun t_ k_ => own_cal X5 hx hZ e5 V0 (j := ((dg + i) + (1 : Int32))) (own_dy dg i pt b1 b2 c15_4).1 (own_dy dg i pt b1 b2 c15_4).2 (g := (mkF m 33 #[.val (.ref a), .val (.int i), .val (.int (dg + i))] [(.int ((dg + i) + (1 : Int32))), (.ref tx)])) rfl rfl (hb hby own_d_dgt_33) _ k_) ?_
      refine own_retN X5 hx (t := .char) Bd.returns hlk (by simp) (hb hby own_d_dgt_34) (by decide) (by decide) (v := (nar .char ((f (((dg + i) + (1 : Int32))).toNatClampNeg)))) rfl ?_
      rw [e5]
      exact ⟨_, rfl, N0, rfl⟩
theorem own_pd0 : parseMethodDescriptor "(II)I" = some ⟨[.int, .int], some .int⟩ := by decide +kernel
theorem own_pd1 : parseMethodDescriptor "(I)C" = some ⟨[.int], some .char⟩ := by decide +kernel
theorem own_d_read_0 : decode prog_3_method_3_code 0 = .ok (.aload_n 0, 1) := by decide +kernel
theorem own_d_read_1 : decode prog_3_method_3_code 1 = .ok (.aload_n 1, 1) := by decide +kernel
theorem own_d_read_2 : decode prog_3_method_3_code 2 = .ok (.putfield 26, 3) := by decide +kernel
theorem own_d_read_5 : decode prog_3_method_3_code 5 = .ok (.aload_n 0, 1) := by decide +kernel
theorem own_d_read_6 : decode prog_3_method_3_code 6 = .ok (.iload_n 2, 1) := by decide +kernel
theorem own_d_read_7 : decode prog_3_method_3_code 7 = .ok (.putfield 30, 3) := by decide +kernel
theorem own_d_read_10 : decode prog_3_method_3_code 10 = .ok (.aload_n 0, 1) := by decide +kernel
theorem own_d_read_11 : decode prog_3_method_3_code 11 = .ok (.iload_n 2, 1) := by decide +kernel
theorem own_d_read_12 : decode prog_3_method_3_code 12 = .ok (.iload_n 3, 1) := by decide +kernel
theorem own_d_read_13 : decode prog_3_method_3_code 13 = .ok (.iadd, 1) := by decide +kernel
theorem own_d_read_14 : decode prog_3_method_3_code 14 = .ok (.putfield 34, 3) := by decide +kernel
theorem own_d_read_17 : decode prog_3_method_3_code 17 = .ok (.aload_n 0, 1) := by decide +kernel
theorem own_d_read_18 : decode prog_3_method_3_code 18 = .ok (.iload_n 3, 1) := by decide +kernel
theorem own_d_read_19 : decode prog_3_method_3_code 19 = .ok (.ifCond .le 15, 3) := by decide +kernel
theorem own_d_read_22 : decode prog_3_method_3_code 22 = .ok (.aload_n 1, 1) := by decide +kernel
theorem own_d_read_23 : decode prog_3_method_3_code 23 = .ok (.iload_n 2, 1) := by decide +kernel
theorem own_d_read_24 : decode prog_3_method_3_code 24 = .ok (.caload, 1) := by decide +kernel
theorem own_d_read_25 : decode prog_3_method_3_code 25 = .ok (.bipush 45, 2) := by decide +kernel
theorem own_d_read_27 : decode prog_3_method_3_code 27 = .ok (.if_icmp .ne 7, 3) := by decide +kernel
theorem own_d_read_30 : decode prog_3_method_3_code 30 = .ok (.iconst 1, 1) := by decide +kernel
theorem own_d_read_31 : decode prog_3_method_3_code 31 = .ok (.goto 4, 3) := by decide +kernel
theorem own_d_read_34 : decode prog_3_method_3_code 34 = .ok (.iconst 0, 1) := by decide +kernel
theorem own_d_read_35 : decode prog_3_method_3_code 35 = .ok (.putfield 37, 3) := by decide +kernel
theorem own_d_read_38 : decode prog_3_method_3_code 38 = .ok (.aload_n 0, 1) := by decide +kernel
theorem own_d_read_39 : decode prog_3_method_3_code 39 = .ok (.aload_n 0, 1) := by decide +kernel
theorem own_d_read_40 : decode prog_3_method_3_code 40 = .ok (.getfield 37, 3) := by decide +kernel
theorem own_d_read_43 : decode prog_3_method_3_code 43 = .ok (.ifCond .eq 9, 3) := by decide +kernel
theorem own_d_read_46 : decode prog_3_method_3_code 46 = .ok (.iload_n 2, 1) := by decide +kernel
theorem own_d_read_47 : decode prog_3_method_3_code 47 = .ok (.iconst 1, 1) := by decide +kernel
theorem own_d_read_48 : decode prog_3_method_3_code 48 = .ok (.iadd, 1) := by decide +kernel
theorem own_d_read_49 : decode prog_3_method_3_code 49 = .ok (.goto 4, 3) := by decide +kernel
theorem own_d_read_52 : decode prog_3_method_3_code 52 = .ok (.iload_n 2, 1) := by decide +kernel
theorem own_d_read_53 : decode prog_3_method_3_code 53 = .ok (.putfield 41, 3) := by decide +kernel
theorem own_d_read_56 : decode prog_3_method_3_code 56 = .ok (.aload_n 0, 1) := by decide +kernel
theorem own_d_read_57 : decode prog_3_method_3_code 57 = .ok (.aload_n 0, 1) := by decide +kernel
theorem own_d_read_58 : decode prog_3_method_3_code 58 = .ok (.getfield 41, 3) := by decide +kernel
theorem own_d_read_61 : decode prog_3_method_3_code 61 = .ok (.putfield 44, 3) := by decide +kernel
theorem own_d_read_64 : decode prog_3_method_3_code 64 = .ok (.aload_n 0, 1) := by decide +kernel
theorem own_d_read_65 : decode prog_3_method_3_code 65 = .ok (.iconst (-1), 1) := by decide +kernel
theorem own_d_read_66 : decode prog_3_method_3_code 66 = .ok (.putfield 47, 3) := by decide +kernel
theorem own_d_read_69 : decode prog_3_method_3_code 69 = .ok (.aload_n 0, 1) := by decide +kernel
theorem own_d_read_70 : decode prog_3_method_3_code 70 = .ok (.getfield 44, 3) := by decide +kernel
theorem own_d_read_73 : decode prog_3_method_3_code 73 = .ok (.aload_n 0, 1) := by decide +kernel
theorem own_d_read_74 : decode prog_3_method_3_code 74 = .ok (.getfield 34, 3) := by decide +kernel
theorem own_d_read_77 : decode prog_3_method_3_code 77 = .ok (.if_icmp .ge 57, 3) := by decide +kernel
theorem own_d_read_80 : decode prog_3_method_3_code 80 = .ok (.aload_n 1, 1) := by decide +kernel
theorem own_d_read_81 : decode prog_3_method_3_code 81 = .ok (.aload_n 0, 1) := by decide +kernel
theorem own_d_read_82 : decode prog_3_method_3_code 82 = .ok (.getfield 44, 3) := by decide +kernel
theorem own_d_read_85 : decode prog_3_method_3_code 85 = .ok (.caload, 1) := by decide +kernel
theorem own_d_read_86 : decode prog_3_method_3_code 86 = .ok (.bipush 101, 2) := by decide +kernel
theorem own_d_read_88 : decode prog_3_method_3_code 88 = .ok (.if_icmp .eq 46, 3) := by decide +kernel
theorem own_d_read_91 : decode prog_3_method_3_code 91 = .ok (.aload_n 1, 1) := by decide +kernel
theorem own_d_read_92 : decode prog_3_method_3_code 92 = .ok (.aload_n 0, 1) := by decide +kernel
theorem own_d_read_93 : decode prog_3_method_3_code 93 = .ok (.getfield 44, 3) := by decide +kernel
theorem own_d_read_96 : decode prog_3_method_3_code 96 = .ok (.caload, 1) := by decide +kernel
theorem own_d_read_97 : decode prog_3_method_3_code 97 = .ok (.bipush 69, 2) := by decide +kernel
theorem own_d_read_99 : decode prog_3_method_3_code 99 = .ok (.if_icmp .eq 35, 3) := by decide +kernel
theorem own_d_read_102 : decode prog_3_method_3_code 102 = .ok (.aload_n 1, 1) := by decide +kernel
theorem own_d_read_103 : decode prog_3_method_3_code 103 = .ok (.aload_n 0, 1) := by decide +kernel
theorem own_d_read_104 : decode prog_3_method_3_code 104 = .ok (.getfield 44, 3) := by decide +kernel
theorem own_d_read_107 : decode prog_3_method_3_code 107 = .ok (.caload, 1) := by decide +kernel
theorem own_d_read_108 : decode prog_3_method_3_code 108 = .ok (.bipush 46, 2) := by decide +kernel
theorem own_d_read_110 : decode prog_3_method_3_code 110 = .ok (.if_icmp .ne 11, 3) := by decide +kernel
theorem own_d_read_113 : decode prog_3_method_3_code 113 = .ok (.aload_n 0, 1) := by decide +kernel
theorem own_d_read_114 : decode prog_3_method_3_code 114 = .ok (.aload_n 0, 1) := by decide +kernel
theorem own_d_read_115 : decode prog_3_method_3_code 115 = .ok (.getfield 44, 3) := by decide +kernel
theorem own_d_read_118 : decode prog_3_method_3_code 118 = .ok (.putfield 47, 3) := by decide +kernel
theorem own_d_read_121 : decode prog_3_method_3_code 121 = .ok (.aload_n 0, 1) := by decide +kernel
theorem own_d_read_122 : decode prog_3_method_3_code 122 = .ok (.dup, 1) := by decide +kernel
theorem own_d_read_123 : decode prog_3_method_3_code 123 = .ok (.getfield 44, 3) := by decide +kernel
theorem own_d_read_126 : decode prog_3_method_3_code 126 = .ok (.iconst 1, 1) := by decide +kernel
theorem own_d_read_127 : decode prog_3_method_3_code 127 = .ok (.iadd, 1) := by decide +kernel
theorem own_d_read_128 : decode prog_3_method_3_code 128 = .ok (.putfield 44, 3) := by decide +kernel
theorem own_d_read_131 : decode prog_3_method_3_code 131 = .ok (.goto (-62), 3) := by decide +kernel
theorem own_d_read_134 : decode prog_3_method_3_code 134 = .ok (.aload_n 0, 1) := by decide +kernel
theorem own_d_read_135 : decode prog_3_method_3_code 135 = .ok (.getfield 44, 3) := by decide +kernel
theorem own_d_read_138 : decode prog_3_method_3_code 138 = .ok (.aload_n 0, 1) := by decide +kernel
theorem own_d_read_139 : decode prog_3_method_3_code 139 = .ok (.getfield 41, 3) := by decide +kernel
theorem own_d_read_142 : decode prog_3_method_3_code 142 = .ok (.isub, 1) := by decide +kernel
theorem own_d_read_143 : decode prog_3_method_3_code 143 = .ok (.aload_n 0, 1) := by decide +kernel
theorem own_d_read_144 : decode prog_3_method_3_code 144 = .ok (.getfield 47, 3) := by decide +kernel
theorem own_d_read_147 : decode prog_3_method_3_code 147 = .ok (.ifCond .ge 7, 3) := by decide +kernel
theorem own_d_read_150 : decode prog_3_method_3_code 150 = .ok (.iconst 0, 1) := by decide +kernel
theorem own_d_read_151 : decode prog_3_method_3_code 151 = .ok (.goto 4, 3) := by decide +kernel
theorem own_d_read_154 : decode prog_3_method_3_code 154 = .ok (.iconst 1, 1) := by decide +kernel
theorem own_d_read_155 : decode prog_3_method_3_code 155 = .ok (.isub, 1) := by decide +kernel
theorem own_d_read_156 : decode prog_3_method_3_code 156 = .ok (.istore 4, 2) := by decide +kernel
theorem own_d_read_158 : decode prog_3_method_3_code 158 = .ok (.aload_n 0, 1) := by decide +kernel
theorem own_d_read_159 : decode prog_3_method_3_code 159 = .ok (.iconst 0, 1) := by decide +kernel
theorem own_d_read_160 : decode prog_3_method_3_code 160 = .ok (.putfield 50, 3) := by decide +kernel
theorem own_d_read_163 : decode prog_3_method_3_code 163 = .ok (.aload_n 0, 1) := by decide +kernel
theorem own_d_read_164 : decode prog_3_method_3_code 164 = .ok (.getfield 50, 3) := by decide +kernel
theorem own_d_read_167 : decode prog_3_method_3_code 167 = .ok (.iload 4, 2) := by decide +kernel
theorem own_d_read_169 : decode prog_3_method_3_code 169 = .ok (.if_icmp .ge 29, 3) := by decide +kernel
theorem own_d_read_172 : decode prog_3_method_3_code 172 = .ok (.aload_n 0, 1) := by decide +kernel
theorem own_d_read_173 : decode prog_3_method_3_code 173 = .ok (.aload_n 0, 1) := by decide +kernel
theorem own_d_read_174 : decode prog_3_method_3_code 174 = .ok (.getfield 50, 3) := by decide +kernel
theorem own_d_read_177 : decode prog_3_method_3_code 177 = .ok (.invokevirtual 53, 3) := by decide +kernel
theorem own_d_read_180 : decode prog_3_method_3_code 180 = .ok (.bipush 48, 2) := by decide +kernel
theorem own_d_read_182 : decode prog_3_method_3_code 182 = .ok (.if_icmp .ne 16, 3) := by decide +kernel
theorem own_d_read_185 : decode prog_3_method_3_code 185 = .ok (.aload_n 0, 1) := by decide +kernel
theorem own_d_read_186 : decode prog_3_method_3_code 186 = .ok (.dup, 1) := by decide +kernel
theorem own_d_read_187 : decode prog_3_method_3_code 187 = .ok (.getfield 50, 3) := by decide +kernel
theorem own_d_read_190 : decode prog_3_method_3_code 190 = .ok (.iconst 1, 1) := by decide +kernel
theorem own_d_read_191 : decode prog_3_method_3_code 191 = .ok (.iadd, 1) := by decide +kernel
theorem own_d_read_192 : decode prog_3_method_3_code 192 = .ok (.putfield 50, 3) := by decide +kernel
theorem own_d_read_195 : decode prog_3_method_3_code 195 = .ok (.goto (-32), 3) := by decide +kernel
theorem own_d_read_198 : decode prog_3_method_3_code 198 = .ok (.aload_n 0, 1) := by decide +kernel
theorem own_d_read_199 : decode prog_3_method_3_code 199 = .ok (.iload 4, 2) := by decide +kernel
theorem own_d_read_201 : decode prog_3_method_3_code 201 = .ok (.putfield 57, 3) := by decide +kernel
theorem own_d_read_204 : decode prog_3_method_3_code 204 = .ok (.aload_n 0, 1) := by decide +kernel
theorem own_d_read_205 : decode prog_3_method_3_code 205 = .ok (.getfield 57, 3) := by decide +kernel
theorem own_d_read_208 : decode prog_3_method_3_code 208 = .ok (.aload_n 0, 1) := by decide +kernel
theorem own_d_read_209 : decode prog_3_method_3_code 209 = .ok (.getfield 50, 3) := by decide +kernel
theorem own_d_read_212 : decode prog_3_method_3_code 212 = .ok (.if_icmp .le 31, 3) := by decide +kernel
theorem own_d_read_215 : decode prog_3_method_3_code 215 = .ok (.aload_n 0, 1) := by decide +kernel
theorem own_d_read_216 : decode prog_3_method_3_code 216 = .ok (.aload_n 0, 1) := by decide +kernel
theorem own_d_read_217 : decode prog_3_method_3_code 217 = .ok (.getfield 57, 3) := by decide +kernel
theorem own_d_read_220 : decode prog_3_method_3_code 220 = .ok (.iconst 1, 1) := by decide +kernel
theorem own_d_read_221 : decode prog_3_method_3_code 221 = .ok (.isub, 1) := by decide +kernel
theorem own_d_read_222 : decode prog_3_method_3_code 222 = .ok (.invokevirtual 53, 3) := by decide +kernel
theorem own_d_read_225 : decode prog_3_method_3_code 225 = .ok (.bipush 48, 2) := by decide +kernel
theorem own_d_read_227 : decode prog_3_method_3_code 227 = .ok (.if_icmp .ne 16, 3) := by decide +kernel
theorem own_d_read_230 : decode prog_3_method_3_code 230 = .ok (.aload_n 0, 1) := by decide +kernel
theorem own_d_read_231 : decode prog_3_method_3_code 231 = .ok (.dup, 1) := by decide +kernel
theorem own_d_read_232 : decode prog_3_method_3_code 232 = .ok (.getfield 57, 3) := by decide +kernel
theorem own_d_read_235 : decode prog_3_method_3_code 235 = .ok (.iconst 1, 1) := by decide +kernel
theorem own_d_read_236 : decode prog_3_method_3_code 236 = .ok (.isub, 1) := by decide +kernel
theorem own_d_read_237 : decode prog_3_method_3_code 237 = .ok (.putfield 57, 3) := by decide +kernel
theorem own_d_read_240 : decode prog_3_method_3_code 240 = .ok (.goto (-36), 3) := by decide +kernel
theorem own_d_read_243 : decode prog_3_method_3_code 243 = .ok (.aload_n 0, 1) := by decide +kernel
theorem own_d_read_244 : decode prog_3_method_3_code 244 = .ok (.aload_n 0, 1) := by decide +kernel
theorem own_d_read_245 : decode prog_3_method_3_code 245 = .ok (.getfield 44, 3) := by decide +kernel
theorem own_d_read_248 : decode prog_3_method_3_code 248 = .ok (.iconst 1, 1) := by decide +kernel
theorem own_d_read_249 : decode prog_3_method_3_code 249 = .ok (.iadd, 1) := by decide +kernel
theorem own_d_read_250 : decode prog_3_method_3_code 250 = .ok (.aload_n 0, 1) := by decide +kernel
theorem own_d_read_251 : decode prog_3_method_3_code 251 = .ok (.getfield 34, 3) := by decide +kernel
theorem own_d_read_254 : decode prog_3_method_3_code 254 = .ok (.invokestatic 60, 3) := by decide +kernel
theorem own_d_read_257 : decode prog_3_method_3_code 257 = .ok (.putfield 66, 3) := by decide +kernel
theorem own_d_read_260 : decode prog_3_method_3_code 260 = .ok (.aload_n 0, 1) := by decide +kernel
theorem own_d_read_261 : decode prog_3_method_3_code 261 = .ok (.aload_n 0, 1) := by decide +kernel
theorem own_d_read_262 : decode prog_3_method_3_code 262 = .ok (.getfield 66, 3) := by decide +kernel
theorem own_d_read_265 : decode prog_3_method_3_code 265 = .ok (.aload_n 0, 1) := by decide +kernel
theorem own_d_read_266 : decode prog_3_method_3_code 266 = .ok (.getfield 34, 3) := by decide +kernel
theorem own_d_read_269 : decode prog_3_method_3_code 269 = .ok (.if_icmp .ge 18, 3) := by decide +kernel
theorem own_d_read_272 : decode prog_3_method_3_code 272 = .ok (.aload_n 1, 1) := by decide +kernel
theorem own_d_read_273 : decode prog_3_method_3_code 273 = .ok (.aload_n 0, 1) := by decide +kernel
theorem own_d_read_274 : decode prog_3_method_3_code 274 = .ok (.getfield 66, 3) := by decide +kernel
theorem own_d_read_277 : decode prog_3_method_3_code 277 = .ok (.caload, 1) := by decide +kernel
theorem own_d_read_278 : decode prog_3_method_3_code 278 = .ok (.bipush 45, 2) := by decide +kernel
theorem own_d_read_280 : decode prog_3_method_3_code 280 = .ok (.if_icmp .ne 7, 3) := by decide +kernel
theorem own_d_read_283 : decode prog_3_method_3_code 283 = .ok (.iconst 1, 1) := by decide +kernel
theorem own_d_read_284 : decode prog_3_method_3_code 284 = .ok (.goto 4, 3) := by decide +kernel
theorem own_d_read_287 : decode prog_3_method_3_code 287 = .ok (.iconst 0, 1) := by decide +kernel
theorem own_d_read_288 : decode prog_3_method_3_code 288 = .ok (.putfield 69, 3) := by decide +kernel
theorem own_d_read_291 : decode prog_3_method_3_code 291 = .ok (.aload_n 0, 1) := by decide +kernel
theorem own_d_read_292 : decode prog_3_method_3_code 292 = .ok (.getfield 66, 3) := by decide +kernel
theorem own_d_read_295 : decode prog_3_method_3_code 295 = .ok (.aload_n 0, 1) := by decide +kernel
theorem own_d_read_296 : decode prog_3_method_3_code 296 = .ok (.getfield 34, 3) := by decide +kernel
theorem own_d_read_299 : decode prog_3_method_3_code 299 = .ok (.if_icmp .ge 31, 3) := by decide +kernel
theorem own_d_read_302 : decode prog_3_method_3_code 302 = .ok (.aload_n 0, 1) := by decide +kernel
theorem own_d_read_303 : decode prog_3_method_3_code 303 = .ok (.getfield 69, 3) := by decide +kernel
theorem own_d_read_306 : decode prog_3_method_3_code 306 = .ok (.ifCond .ne 14, 3) := by decide +kernel
theorem own_d_read_309 : decode prog_3_method_3_code 309 = .ok (.aload_n 1, 1) := by decide +kernel
theorem own_d_read_310 : decode prog_3_method_3_code 310 = .ok (.aload_n 0, 1) := by decide +kernel
theorem own_d_read_311 : decode prog_3_method_3_code 311 = .ok (.getfield 66, 3) := by decide +kernel
theorem own_d_read_314 : decode prog_3_method_3_code 314 = .ok (.caload, 1) := by decide +kernel
theorem own_d_read_315 : decode prog_3_method_3_code 315 = .ok (.bipush 43, 2) := by decide +kernel
theorem own_d_read_317 : decode prog_3_method_3_code 317 = .ok (.if_icmp .ne 13, 3) := by decide +kernel
theorem own_d_read_320 : decode prog_3_method_3_code 320 = .ok (.aload_n 0, 1) := by decide +kernel
theorem own_d_read_321 : decode prog_3_method_3_code 321 = .ok (.dup, 1) := by decide +kernel
theorem own_d_read_322 : decode prog_3_method_3_code 322 = .ok (.getfield 66, 3) := by decide +kernel
theorem own_d_read_325 : decode prog_3_method_3_code 325 = .ok (.iconst 1, 1) := by decide +kernel
theorem own_d_read_326 : decode prog_3_method_3_code 326 = .ok (.iadd, 1) := by decide +kernel
theorem own_d_read_327 : decode prog_3_method_3_code 327 = .ok (.putfield 66, 3) := by decide +kernel
theorem own_d_read_330 : decode prog_3_method_3_code 330 = .ok (.aload_n 0, 1) := by decide +kernel
theorem own_d_read_331 : decode prog_3_method_3_code 331 = .ok (.getfield 66, 3) := by decide +kernel
theorem own_d_read_334 : decode prog_3_method_3_code 334 = .ok (.aload_n 0, 1) := by decide +kernel
theorem own_d_read_335 : decode prog_3_method_3_code 335 = .ok (.getfield 34, 3) := by decide +kernel
theorem own_d_read_338 : decode prog_3_method_3_code 338 = .ok (.if_icmp .ge 27, 3) := by decide +kernel
theorem own_d_read_341 : decode prog_3_method_3_code 341 = .ok (.aload_n 1, 1) := by decide +kernel
theorem own_d_read_342 : decode prog_3_method_3_code 342 = .ok (.aload_n 0, 1) := by decide +kernel
theorem own_d_read_343 : decode prog_3_method_3_code 343 = .ok (.getfield 66, 3) := by decide +kernel
theorem own_d_read_346 : decode prog_3_method_3_code 346 = .ok (.caload, 1) := by decide +kernel
theorem own_d_read_347 : decode prog_3_method_3_code 347 = .ok (.bipush 48, 2) := by decide +kernel
theorem own_d_read_349 : decode prog_3_method_3_code 349 = .ok (.if_icmp .ne 16, 3) := by decide +kernel
theorem own_d_read_352 : decode prog_3_method_3_code 352 = .ok (.aload_n 0, 1) := by decide +kernel
theorem own_d_read_353 : decode prog_3_method_3_code 353 = .ok (.dup, 1) := by decide +kernel
theorem own_d_read_354 : decode prog_3_method_3_code 354 = .ok (.getfield 66, 3) := by decide +kernel
theorem own_d_read_357 : decode prog_3_method_3_code 357 = .ok (.iconst 1, 1) := by decide +kernel
theorem own_d_read_358 : decode prog_3_method_3_code 358 = .ok (.iadd, 1) := by decide +kernel
theorem own_d_read_359 : decode prog_3_method_3_code 359 = .ok (.putfield 66, 3) := by decide +kernel
theorem own_d_read_362 : decode prog_3_method_3_code 362 = .ok (.goto (-32), 3) := by decide +kernel
theorem own_d_read_365 : decode prog_3_method_3_code 365 = .ok (.aload_n 0, 1) := by decide +kernel
theorem own_d_read_366 : decode prog_3_method_3_code 366 = .ok (.areturn, 1) := by decide +kernel
theorem own_ef_read (m : MethodId) (a : Addr) (tx : Addr) (off : Int32) (ln : Int32) : entryFrame m #[(.ref a), (.ref tx), (.int off), (.int ln)] 5 = mkF m 0 #[.val (.ref a), .val (.ref tx), .val (.int off), .val (.int ln), .unset] [] := by first | (simp [entryFrame, mkF, argsToLocals, Value.category]; done) | rfl
def own_Q_read (Z : State) (a : Addr) (tx : Addr) (off : Int32) (ln : Int32) (f : Nat → Int32) (u_text : Value) (u_start : Int32) (u_stop : Int32) (u_negative : Int32) (u_digitsAt : Int32) (u_end : Int32) (u_point : Int32) (u_first : Int32) (u_last : Int32) (u_exponentAt : Int32) (u_negativeExponent : Int32) (h0 : Heap) (n0 : Nat) (v : Option Value) (h : Heap) (L : List Loc) : Prop := ∃ (q1 q2 q3 q4 q5 q6 q7 q8 : Int32), v = some (.ref a) ∧ Fr n0 L ∧ Keep h0 h [a] ∧ Exa Z h a "com/example/enumconv/enumconv/core/Decimal$Reading" ∧ Fld Z h a "com/example/enumconv/enumconv/core/Decimal$Reading" "text" "[C" (.ref tx) ∧ Fld Z h a "com/example/enumconv/enumconv/core/Decimal$Reading" "start" "I" (.int off) ∧ Fld Z h a "com/example/enumconv/enumconv/core/Decimal$Reading" "stop" "I" (.int (off + ln)) ∧ Fld Z h a "com/example/enumconv/enumconv/core/Decimal$Reading" "negative" "Z" (.int q1) ∧ Fld Z h a "com/example/enumconv/enumconv/core/Decimal$Reading" "digitsAt" "I" (.int q2) ∧ Fld Z h a "com/example/enumconv/enumconv/core/Decimal$Reading" "end" "I" (.int q3) ∧ Fld Z h a "com/example/enumconv/enumconv/core/Decimal$Reading" "point" "I" (.int q4) ∧ Fld Z h a "com/example/enumconv/enumconv/core/Decimal$Reading" "first" "I" (.int q5) ∧ Fld Z h a "com/example/enumconv/enumconv/core/Decimal$Reading" "last" "I" (.int q6) ∧ Fld Z h a "com/example/enumconv/enumconv/core/Decimal$Reading" "exponentAt" "I" (.int q7) ∧ Fld Z h a "com/example/enumconv/enumconv/core/Decimal$Reading" "negativeExponent" "Z" (.int q8) ∧ own_R f off (off + ln) q4 q3
set_option maxRecDepth 65536 in
set_option maxHeartbeats 40000000 in
theorem own_rm_read (l : Launch) (Z : State) (a0 : Array Value) (hw : ∀ d ∈ tables_1, d.before a0 Z = true) (ws : List Jvm.Cond) (a : Addr) (tx : Addr) (off : Int32) (ln : Int32) (f : Nat → Int32) (u_text : Value) (u_start : Int32) (u_stop : Int32) (u_negative : Int32) (u_digitsAt : Int32) (u_end : Int32) (u_point : Int32) (u_first : Int32) (u_last : Int32) (u_exponentAt : Int32) (u_negativeExponent : Int32) (h0 : Heap) (n0 : Nat) (Z0 : n0 ≤ h0.size) (E0 : Exa Z h0 a "com/example/enumconv/enumconv/core/Decimal$Reading") (G0 : n0 ≤ a) (V0 : own_Ia Z h0 tx .char 5 f) (n1 : tx ≠ a) (ho : 0 ≤ off.toInt) (hl : 0 ≤ ln.toInt) (hs : off.toInt + ln.toInt ≤ 5) (F_text : Fld Z h0 a "com/example/enumconv/enumconv/core/Decimal$Reading" "text" "[C" u_text) (F_start : Fld Z h0 a "com/example/enumconv/enumconv/core/Decimal$Reading" "start" "I" (.int u_start)) (F_stop : Fld Z h0 a "com/example/enumconv/enumconv/core/Decimal$Reading" "stop" "I" (.int u_stop)) (F_negative : Fld Z h0 a "com/example/enumconv/enumconv/core/Decimal$Reading" "negative" "Z" (.int u_negative)) (F_digitsAt : Fld Z h0 a "com/example/enumconv/enumconv/core/Decimal$Reading" "digitsAt" "I" (.int u_digitsAt)) (F_end : Fld Z h0 a "com/example/enumconv/enumconv/core/Decimal$Reading" "end" "I" (.int u_end)) (F_point : Fld Z h0 a "com/example/enumconv/enumconv/core/Decimal$Reading" "point" "I" (.int u_point)) (F_first : Fld Z h0 a "com/example/enumconv/enumconv/core/Decimal$Reading" "first" "I" (.int u_first)) (F_last : Fld Z h0 a "com/example/enumconv/enumconv/core/Decimal$Reading" "last" "I" (.int u_last)) (F_exponentAt : Fld Z h0 a "com/example/enumconv/enumconv/core/Decimal$Reading" "exponentAt" "I" (.int u_exponentAt)) (F_negativeExponent : Fld Z h0 a "com/example/enumconv/enumconv/core/Decimal$Reading" "negativeExponent" "Z" (.int u_negativeExponent)) :
    MetFree l (⟨"com/example/enumconv/enumconv/core/Decimal$Reading", "read", "([CII)Lcom/example/enumconv/enumconv/core/Decimal$Reading;"⟩ : MethodName) (head1 (Jvm.Cond.code (⟨"com/example/enumconv/enumconv/core/Decimal$Reading", "read", "([CII)Lcom/example/enumconv/enumconv/core/Decimal$Reading;"⟩ : MethodName) prog_3_method_3_code 5 (some (.object "com/example/enumconv/enumconv/core/Decimal$Reading")) :: ws) ({ frames := 1, cells := 0, slots := 0, locals := 14 } : Room)) (fun a_ U_ => a_ = #[(.ref a), (.ref tx), (.int off), (.int ln)] ∧ Z.Warmed39 U_.vm ∧ U_.heap = h0) (fun _ _ _ _ _ => True) (fun _ U_ o_ U'_ => ∃ v_ L_, o_ = .returned v_ ∧ own_Q_read Z a tx off ln f u_text u_start u_stop u_negative u_digitsAt u_end u_point u_first u_last u_exponentAt u_negativeExponent h0 n0 v_ U'_.heap L_ ∧ FrameEnd U_ o_ U'_ L_ ({ frames := 1, cells := 0, slots := 0, locals := 14 } : Room).cells ({ frames := 1, cells := 0, slots := 0, locals := 14 } : Room).slots) := by
  refine MetFree.of_bodySF (plainFor_of_name own_pn_com_example_enumconv_enumconv_core_Decimal_Reading) hisR ?_
  intro p e s m args below meth c s₁ Bd hml0 hP hK
  obtain ⟨rfl, hZ, hh⟩ := hP
  have hx := Bd.exec
  have hby := Bd.bytes
  have hlk : meth.locks = false := BodyLoose.notSynchronized Bd
  have hml : c.maxLocals = 5 := hml0
  have hown : s.vm.findClass "com/example/enumconv/enumconv/core/Decimal$Reading" = some m.cls := findClass_of_methodNamed Bd.named
  have hnm := (name_of_methodNamed Bd.named Bd.method).1
  have X0 : Stand p l e ({ frames := 1, cells := 0, slots := 0, locals := 14 } : Room) s m #[(.ref a), (.ref tx), (.int off), (.int ln)] below meth c s₁ [] 0 0 := Stand.of_body Bd
  have e0 : s₁.heap = h0 := by rw [← hh, Bd.state]; rfl
  have N0 := Fr.nil n0
  show own_Goes p e below (own_K (own_Q_read Z a tx off ln f u_text u_start u_stop u_negative u_digitsAt u_end u_point u_first u_last u_exponentAt u_negativeExponent h0 n0) s ({ frames := 1, cells := 0, slots := 0, locals := 14 } : Room).cells ({ frames := 1, cells := 0, slots := 0, locals := 14 } : Room).slots) s₁ (entryFrame m #[(.ref a), (.ref tx), (.int off), (.int ln)] 5)
  rw [own_ef_read]
  have K0 := Keep.refl h0 [a]
  have l330 : ∀ (kk : Nat) (D : Int32) (ng : Int32) (dg : Int32) (en : Int32) (pt : Int32) (fi : Int32) (la : Int32) (ex : Int32) (ne : Int32) (T1 : State) (hh : Heap) (lo : List Loc), Stand p l e ({ frames := 1, cells := 0, slots := 0, locals := 14 } : Room) s m #[(.ref a), (.ref tx), (.int off), (.int ln)] below meth c T1 lo 0 0 → T1.heap = hh → Fr n0 lo → n0 ≤ hh.size → Keep h0 hh [a] → Exa Z hh a "com/example/enumconv/enumconv/core/Decimal$Reading" → own_Ia Z hh tx .char 5 f → Fld Z hh a "com/example/enumconv/enumconv/core/Decimal$Reading" "text" "[C" (.ref tx) → Fld Z hh a "com/example/enumconv/enumconv/core/Decimal$Reading" "start" "I" (.int off) → Fld Z hh a "com/example/enumconv/enumconv/core/Decimal$Reading" "stop" "I" (.int (off + ln)) → Fld Z hh a "com/example/enumconv/enumconv/core/Decimal$Reading" "negative" "Z" (.int ng) → Fld Z hh a "com/example/enumconv/enumconv/core/Decimal$Reading" "digitsAt" "I" (.int dg) → Fld Z hh a "com/example/enumconv/enumconv/core/Decimal$Reading" "end" "I" (.int en) → Fld Z hh a "com/example/enumconv/enumconv/core/Decimal$Reading" "point" "I" (.int pt) → Fld Z hh a "com/example/enumconv/enumconv/core/Decimal$Reading" "first" "I" (.int fi) → Fld Z hh a "com/example/enumconv/enumconv/core/Decimal$Reading" "last" "I" (.int la) → Fld Z hh a "com/example/enumconv/enumconv/core/Decimal$Reading" "exponentAt" "I" (.int ex) → Fld Z hh a "com/example/enumconv/enumconv/core/Decimal$Reading" "negativeExponent" "Z" (.int ne) → (own_R f off (off + ln) pt en) → (0 ≤ ex.toInt) → ((off.toInt + ln.toInt - ex.toInt).toNat = kk) → own_Goes p e below (own_K (own_Q_read Z a tx off ln f u_text u_start u_stop u_negative u_digitsAt u_end u_point u_first u_last u_exponentAt u_negativeExponent h0 n0) s ({ frames := 1, cells := 0, slots := 0, locals := 14 } : Room).cells ({ frames := 1, cells := 0, slots := 0, locals := 14 } : Room).slots) T1 (mkF m 330 #[.val (.ref a), .val (.ref tx), .val (.int off), .val (.int ln), .val (.int D)] []) := by
    intro kk
    induction kk with
      | zero =>
        intro D ng dg en pt fi la ex ne T1 hh lo X1 e1 N1 u0 u1 u2 u3 u4 u5 u6 u7 u8 u9 u10 u11 u12 u13 u14 hR x1 x2
        refine own_by (T' := T1) (g' := (mkF m 331 #[.val (.ref a), .val (.ref tx), .val (.int off), .val (.int ln), .val (.int D)] [(.ref a)])) (fun t_ k_ => XS.aloadN X1.here hx rfl (hb hby own_d_read_330) rfl rfl k_) ?_
        obtain ⟨T1, X1, e1, st1⟩ := getF X1 hx hZ hown (host := "") (Or.inl (hw _ (List.mem_of_getElem? (i := 41) rfl))) Via.refl e1 u13 (g := (mkF m 331 #[.val (.ref a), .val (.ref tx), .val (.int off), .val (.int ln), .val (.int D)] [(.ref a)])) rfl rfl (hb hby own_d_read_331)
        refine own_by (T' := T1) (g' := (mkF m 334 #[.val (.ref a), .val (.ref tx), .val (.int off), .val (.int ln), .val (.int D)] [(.int ex)])) st1 ?_
        refine own_by (T' := T1) (g' := (mkF m 335 #[.val (.ref a), .val (.ref tx), .val (.int off), .val (.int ln), .val (.int D)] [(.ref a), (.int ex)])) (fun t_ k_ => XS.aloadN X1.here hx rfl (hb hby own_d_read_334) rfl rfl k_) ?_
        obtain ⟨T2, X2, e2, st2⟩ := getF X1 hx hZ hown (host := "") (Or.inl (hw _ (List.mem_of_getElem? (i := 19) rfl))) Via.refl e1 u6 (g := (mkF m 335 #[.val (.ref a), .val (.ref tx), .val (.int off), .val (.int ln), .val (.int D)] [(.ref a), (.int ex)])) rfl rfl (hb hby own_d_read_335)
        refine own_by (T' := T2) (g' := (mkF m 338 #[.val (.ref a), .val (.ref tx), .val (.int off), .val (.int ln), .val (.int D)] [(.int (off + ln)), (.int ex)])) st2 ?_
        refine own_by (T' := T2) (g' := (mkF m 365 #[.val (.ref a), .val (.ref tx), .val (.int off), .val (.int ln), .val (.int D)] [])) (fun t_ k_ => XS.icmpYes X2.here hx rfl (pc0 := 338) (pc' := 365) rfl (hb hby own_d_read_338) rfl (flt ((own_ge3 off ln ex ho hl hs x2) : ¬ (ex < (off + ln)))).2.1 (by decide) (by decide) k_) ?_
        refine own_by (T' := T2) (g' := (mkF m 366 #[.val (.ref a), .val (.ref tx), .val (.int off), .val (.int ln), .val (.int D)] [(.ref a)])) (fun t_ k_ => XS.aloadN X2.here hx rfl (hb hby own_d_read_365) rfl rfl k_) ?_
        refine own_retR X2 hx Bd.returns hlk rfl rfl (hb hby own_d_read_366) (by decide) (by decide) ?_
        rw [e2]
        exact ⟨_, _, _, _, _, _, _, _, rfl, N1, u1, u2, u4, u5, u6, u7, u8, u9, u10, u11, u12, u13, u14, hR⟩
      | succ kk ih =>
        intro D ng dg en pt fi la ex ne T1 hh lo X1 e1 N1 u0 u1 u2 u3 u4 u5 u6 u7 u8 u9 u10 u11 u12 u13 u14 hR x1 x2
        refine own_by (T' := T1) (g' := (mkF m 331 #[.val (.ref a), .val (.ref tx), .val (.int off), .val (.int ln), .val (.int D)] [(.ref a)])) (fun t_ k_ => XS.aloadN X1.here hx rfl (hb hby own_d_read_330) rfl rfl k_) ?_
        obtain ⟨T3, X3, e3, st3⟩ := getF X1 hx hZ hown (host := "") (Or.inl (hw _ (List.mem_of_getElem? (i := 41) rfl))) Via.refl e1 u13 (g := (mkF m 331 #[.val (.ref a), .val (.ref tx), .val (.int off), .val (.int ln), .val (.int D)] [(.ref a)])) rfl rfl (hb hby own_d_read_331)
        refine own_by (T' := T3) (g' := (mkF m 334 #[.val (.ref a), .val (.ref tx), .val (.int off), .val (.int ln), .val (.int D)] [(.int ex)])) st3 ?_
        refine own_by (T' := T3) (g' := (mkF m 335 #[.val (.ref a), .val (.ref tx), .val (.int off), .val (.int ln), .val (.int D)] [(.ref a), (.int ex)])) (fun t_ k_ => XS.aloadN X3.here hx rfl (hb hby own_d_read_334) rfl rfl k_) ?_
        obtain ⟨T4, X4, e4, st4⟩ := getF X3 hx hZ hown (host := "") (Or.inl (hw _ (List.mem_of_getElem? (i := 19) rfl))) Via.refl e3 u6 (g := (mkF m 335 #[.val (.ref a), .val (.ref tx), .val (.int off), .val (.int ln), .val (.int D)] [(.ref a), (.int ex)])) rfl rfl (hb hby own_d_read_335)
        refine own_by (T' := T4) (g' := (mkF m 338 #[.val (.ref a), .val (.ref tx), .val (.int off), .val (.int ln), .val (.int D)] [(.int (off + ln)), (.int ex)])) st4 ?_
        refine own_by (T' := T4) (g' := (mkF m 341 #[.val (.ref a), .val (.ref tx), .val (.int off), .val (.int ln), .val (.int D)] [])) (fun t_ k_ => XS.icmpNo X4.here hx rfl (hb hby own_d_read_338) rfl (tlt ((own_lt4 off ln ex kk ho hl hs x2) : ex < (off + ln))).2.1 k_) ?_
        refine own_by (T' := T4) (g' := (mkF m 342 #[.val (.ref a), .val (.ref tx), .val (.int off), .val (.int ln), .val (.int D)] [(.ref tx)])) (fun t_ k_ => XS.aloadN X4.here hx rfl (hb hby own_d_read_341) rfl rfl k_) ?_
        refine own_by (T' := T4) (g' := (mkF m 343 #[.val (.ref a), .val (.ref tx), .val (.int off), .val (.int ln), .val (.int D)] [(.ref a), (.ref tx)])) (fun t_ k_ => XS.aloadN X4.here hx rfl (hb hby own_d_read_342) rfl rfl k_) ?_
        obtain ⟨T5, X5, e5, st5⟩ := getF X4 hx hZ hown (host := "") (Or.inl (hw _ (List.mem_of_getElem? (i := 41) rfl))) Via.refl e4 u13 (g := (mkF m 343 #[.val (.ref a), .val (.ref tx), .val (.int off), .val (.int ln), .val (.int D)] [(.ref a), (.ref tx)])) rfl rfl (hb hby own_d_read_343)
        refine own_by (T' := T5) (g' := (mkF m 346 #[.val (.ref a), .val (.ref tx), .val (.int off), .val (.int ln), .val (.int D)] [(.int ex), (.ref tx)])) st5 ?_
        refine own_by (T' := T5) (g' := (mkF m 347 #[.val (.ref a), .val (.ref tx), .val (.int off), .val (.int ln), .val (.int D)] [(.int (f ex.toNatClampNeg))])) (fun t_ k_ => own_cal X5 hx hZ e5 u3 (j := ex) (own_ix off ln ex ho hl hs x1 (own_lt2 off ln ex kk ho hl hs x2).1).1 (own_ix off ln ex ho hl hs x1 (own_lt2 off ln ex kk ho hl hs x2).1).2 (g := (mkF m 346 #[.val (.ref a), .val (.ref tx), .val (.int off), .val (.int ln), .val (.int D)] [(.int ex), (.ref tx)])) rfl rfl (hb hby own_d_read_346) _ k_) ?_
        refine own_by (T' := T5) (g' := (mkF m 349 #[.val (.ref a), .val (.ref tx), .val (.int off), .val (.int ln), .val (.int D)] [(.int (48 : Int32)), (.int (f ex.toNatClampNeg))])) (fun t_ k_ => XS.bipush X5.here hx rfl (hb hby own_d_read_347) k_) ?_
        by_cases c349_6 : (f ex.toNatClampNeg) = (48 : Int32)
        · skip
          refine own_by (T' := T5) (g' := (mkF m 352 #[.val (.ref a), .val (.ref tx), .val (.int off), .val (.int ln), .val (.int D)] [])) (fun t_ k_ => XS.icmpNo X5.here hx rfl (hb hby own_d_read_349) rfl (teq (c349_6 : (f ex.toNatClampNeg) = (48 : Int32))).2 k_) ?_
          refine own_by (T' := T5) (g' := (mkF m 353 #[.val (.ref a), .val (.ref tx), .val (.int off), .val (.int ln), .val (.int D)] [(.ref a)])) (fun t_ k_ => XS.aloadN X5.here hx rfl (hb hby own_d_read_352) rfl rfl k_) ?_
          refine own_by (T' := T5) (g' := (mkF m 354 #[.val (.ref a), .val (.ref tx), .val (.int off), .val (.int ln), .val (.int D)] [(.ref a), (.ref a)])) (fun t_ k_ => XS.dup X5.here hx rfl (hb hby own_d_read_353) rfl rfl k_) ?_
          obtain ⟨T7, X7, e7, st7⟩ := getF X5 hx hZ hown (host := "") (Or.inl (hw _ (List.mem_of_getElem? (i := 41) rfl))) Via.refl e5 u13 (g := (mkF m 354 #[.val (.ref a), .val (.ref tx), .val (.int off), .val (.int ln), .val (.int D)] [(.ref a), (.ref a)])) rfl rfl (hb hby own_d_read_354)
          refine own_by (T' := T7) (g' := (mkF m 357 #[.val (.ref a), .val (.ref tx), .val (.int off), .val (.int ln), .val (.int D)] [(.int ex), (.ref a)])) st7 ?_
          refine own_by (T' := T7) (g' := (mkF m 358 #[.val (.ref a), .val (.ref tx), .val (.int off), .val (.int ln), .val (.int D)] [(.int (1 : Int32)), (.int ex), (.ref a)])) (fun t_ k_ => XS.iconst X7.here hx rfl (hb hby own_d_read_357) k_) ?_
          refine own_by (T' := T7) (g' := (mkF m 359 #[.val (.ref a), .val (.ref tx), .val (.int off), .val (.int ln), .val (.int D)] [(.int (ex + (1 : Int32))), (.ref a)])) (fun t_ k_ => XS.iadd X7.here hx rfl (hb hby own_d_read_358) rfl k_) ?_
          obtain ⟨T8, h8, X8, e8, W8, st8⟩ := putF X7 hx hZ hown (host := "") (Or.inl (hw _ (List.mem_of_getElem? (i := 41) rfl))) Via.refl e7 u13 u2 (Or.inl (hw _ (List.mem_of_getElem? (i := 42) rfl))) (hw _ (List.mem_of_getElem? (i := 2) rfl)) (ty := .int) (by decide) rfl rfl (g := (mkF m 359 #[.val (.ref a), .val (.ref tx), .val (.int off), .val (.int ln), .val (.int D)] [(.int (ex + (1 : Int32))), (.ref a)])) rfl rfl (hb hby own_d_read_359)
          refine own_by (T' := T8) (g' := (mkF m 362 #[.val (.ref a), .val (.ref tx), .val (.int off), .val (.int ln), .val (.int D)] [])) st8 ?_
          have N8 := Fr.snoc X8 N1 G0
          have f9 := Nat.le_trans u0 (Keep.of_wr W8).1
          have f10 := Keep.wr u1 W8 (Or.inl (List.mem_of_getElem? (i := 0) rfl))
          have f11 := Exa.wr W8 u2
          have f12 := own_Ia_other W8 u3 n1
          have f13 := Fld.other W8 u4 (Or.inr (slot_ne (Or.inl (hw _ (List.mem_of_getElem? (i := 16) rfl))) (Or.inl (hw _ (List.mem_of_getElem? (i := 42) rfl))) (by decide) (t := (.array .char)) (t' := .int) (by decide) (by decide)))
          have f14 := Fld.other W8 u5 (Or.inr (slot_ne (Or.inl (hw _ (List.mem_of_getElem? (i := 18) rfl))) (Or.inl (hw _ (List.mem_of_getElem? (i := 42) rfl))) (by decide) (t := .int) (t' := .int) (by decide) (by decide)))
          have f15 := Fld.other W8 u6 (Or.inr (slot_ne (Or.inl (hw _ (List.mem_of_getElem? (i := 20) rfl))) (Or.inl (hw _ (List.mem_of_getElem? (i := 42) rfl))) (by decide) (t := .int) (t' := .int) (by decide) (by decide)))
          have f16 := Fld.other W8 u7 (Or.inr (slot_ne (Or.inl (hw _ (List.mem_of_getElem? (i := 22) rfl))) (Or.inl (hw _ (List.mem_of_getElem? (i := 42) rfl))) (by decide) (t := .boolean) (t' := .int) (by decide) (by decide)))
          have f17 := Fld.other W8 u8 (Or.inr (slot_ne (Or.inl (hw _ (List.mem_of_getElem? (i := 24) rfl))) (Or.inl (hw _ (List.mem_of_getElem? (i := 42) rfl))) (by decide) (t := .int) (t' := .int) (by decide) (by decide)))
          have f18 := Fld.other W8 u9 (Or.inr (slot_ne (Or.inl (hw _ (List.mem_of_getElem? (i := 26) rfl))) (Or.inl (hw _ (List.mem_of_getElem? (i := 42) rfl))) (by decide) (t := .int) (t' := .int) (by decide) (by decide)))
          have f19 := Fld.other W8 u10 (Or.inr (slot_ne (Or.inl (hw _ (List.mem_of_getElem? (i := 28) rfl))) (Or.inl (hw _ (List.mem_of_getElem? (i := 42) rfl))) (by decide) (t := .int) (t' := .int) (by decide) (by decide)))
          have f20 := Fld.other W8 u11 (Or.inr (slot_ne (Or.inl (hw _ (List.mem_of_getElem? (i := 30) rfl))) (Or.inl (hw _ (List.mem_of_getElem? (i := 42) rfl))) (by decide) (t := .int) (t' := .int) (by decide) (by decide)))
          have f21 := Fld.other W8 u12 (Or.inr (slot_ne (Or.inl (hw _ (List.mem_of_getElem? (i := 36) rfl))) (Or.inl (hw _ (List.mem_of_getElem? (i := 42) rfl))) (by decide) (t := .int) (t' := .int) (by decide) (by decide)))
          have f22 := Fld.same W8 u13
          have f23 := Fld.other W8 u14 (Or.inr (slot_ne (Or.inl (hw _ (List.mem_of_getElem? (i := 44) rfl))) (Or.inl (hw _ (List.mem_of_getElem? (i := 42) rfl))) (by decide) (t := .boolean) (t' := .int) (by decide) (by decide)))
          refine own_by (T' := T8) (g' := (mkF m 330 #[.val (.ref a), .val (.ref tx), .val (.int off), .val (.int ln), .val (.int D)] [])) (fun t_ k_ => XS.goto X8.here hx rfl (pc0 := 362) (pc' := 330) rfl (hb hby own_d_read_362) (by decide) (by decide) k_) ?_
          exact ih D ng dg en pt fi la (ex + (1 : Int32)) ne T8 h8 _ X8 e8 N8 f9 f10 f11 f12 f13 f14 f15 f16 f17 f18 f19 f20 f21 f22 f23 hR (own_p1 ex _ x1 (own_lt2 off ln ex kk ho hl hs x2)) (own_p2 off ln ex kk ho hl hs x1 x2)
        · skip
          refine own_by (T' := T5) (g' := (mkF m 365 #[.val (.ref a), .val (.ref tx), .val (.int off), .val (.int ln), .val (.int D)] [])) (fun t_ k_ => XS.icmpYes X5.here hx rfl (pc0 := 349) (pc' := 365) rfl (hb hby own_d_read_349) rfl (feq (c349_6 : ¬ ((f ex.toNatClampNeg) = (48 : Int32)))).2 (by decide) (by decide) k_) ?_
          refine own_by (T' := T5) (g' := (mkF m 366 #[.val (.ref a), .val (.ref tx), .val (.int off), .val (.int ln), .val (.int D)] [(.ref a)])) (fun t_ k_ => XS.aloadN X5.here hx rfl (hb hby own_d_read_365) rfl rfl k_) ?_
          refine own_retR X5 hx Bd.returns hlk rfl rfl (hb hby own_d_read_366) (by decide) (by decide) ?_
          rw [e5]
          exact ⟨_, _, _, _, _, _, _, _, rfl, N1, u1, u2, u4, u5, u6, u7, u8, u9, u10, u11, u12, u13, u14, hR⟩
  have m243 : ∀ (D : Int32) (ng : Int32) (dg : Int32) (en : Int32) (pt : Int32) (fi : Int32) (la : Int32) (ex : Int32) (ne : Int32) (T1 : State) (hh : Heap) (lo : List Loc), Stand p l e ({ frames := 1, cells := 0, slots := 0, locals := 14 } : Room) s m #[(.ref a), (.ref tx), (.int off), (.int ln)] below meth c T1 lo 0 0 → T1.heap = hh → Fr n0 lo → n0 ≤ hh.size → Keep h0 hh [a] → Exa Z hh a "com/example/enumconv/enumconv/core/Decimal$Reading" → own_Ia Z hh tx .char 5 f → Fld Z hh a "com/example/enumconv/enumconv/core/Decimal$Reading" "text" "[C" (.ref tx) → Fld Z hh a "com/example/enumconv/enumconv/core/Decimal$Reading" "start" "I" (.int off) → Fld Z hh a "com/example/enumconv/enumconv/core/Decimal$Reading" "stop" "I" (.int (off + ln)) → Fld Z hh a "com/example/enumconv/enumconv/core/Decimal$Reading" "negative" "Z" (.int ng) → Fld Z hh a "com/example/enumconv/enumconv/core/Decimal$Reading" "digitsAt" "I" (.int dg) → Fld Z hh a "com/example/enumconv/enumconv/core/Decimal$Reading" "end" "I" (.int en) → Fld Z hh a "com/example/enumconv/enumconv/core/Decimal$Reading" "point" "I" (.int pt) → Fld Z hh a "com/example/enumconv/enumconv/core/Decimal$Reading" "first" "I" (.int fi) → Fld Z hh a "com/example/enumconv/enumconv/core/Decimal$Reading" "last" "I" (.int la) → Fld Z hh a "com/example/enumconv/enumconv/core/Decimal$Reading" "exponentAt" "I" (.int ex) → Fld Z hh a "com/example/enumconv/enumconv/core/Decimal$Reading" "negativeExponent" "Z" (.int ne) → (own_R f off (off + ln) pt en) → (0 ≤ en.toInt) → (en.toInt ≤ off.toInt + ln.toInt) → own_Goes p e below (own_K (own_Q_read Z a tx off ln f u_text u_start u_stop u_negative u_digitsAt u_end u_point u_first u_last u_exponentAt u_negativeExponent h0 n0) s ({ frames := 1, cells := 0, slots := 0, locals := 14 } : Room).cells ({ frames := 1, cells := 0, slots := 0, locals := 14 } : Room).slots) T1 (mkF m 243 #[.val (.ref a), .val (.ref tx), .val (.int off), .val (.int ln), .val (.int D)] []) := by
    intro D ng dg en pt fi la ex ne T1 hh lo X1 e1 N1 u0 u1 u2 u3 u4 u5 u6 u7 u8 u9 u10 u11 u12 u13 u14 hR x1 x2
    refine own_by (T' := T1) (g' := (mkF m 244 #[.val (.ref a), .val (.ref tx), .val (.int off), .val (.int ln), .val (.int D)] [(.ref a)])) (fun t_ k_ => XS.aloadN X1.here hx rfl (hb hby own_d_read_243) rfl rfl k_) ?_
    refine own_by (T' := T1) (g' := (mkF m 245 #[.val (.ref a), .val (.ref tx), .val (.int off), .val (.int ln), .val (.int D)] [(.ref a), (.ref a)])) (fun t_ k_ => XS.aloadN X1.here hx rfl (hb hby own_d_read_244) rfl rfl k_) ?_
    obtain ⟨T24, X24, e24, st24⟩ := getF X1 hx hZ hown (host := "") (Or.inl (hw _ (List.mem_of_getElem? (i := 25) rfl))) Via.refl e1 u9 (g := (mkF m 245 #[.val (.ref a), .val (.ref tx), .val (.int off), .val (.int ln), .val (.int D)] [(.ref a), (.ref a)])) rfl rfl (hb hby own_d_read_245)
    refine own_by (T' := T24) (g' := (mkF m 248 #[.val (.ref a), .val (.ref tx), .val (.int off), .val (.int ln), .val (.int D)] [(.int en), (.ref a)])) st24 ?_
    refine own_by (T' := T24) (g' := (mkF m 249 #[.val (.ref a), .val (.ref tx), .val (.int off), .val (.int ln), .val (.int D)] [(.int (1 : Int32)), (.int en), (.ref a)])) (fun t_ k_ => XS.iconst X24.here hx rfl (hb hby own_d_read_248) k_) ?_
    refine own_by (T' := T24) (g' := (mkF m 250 #[.val (.ref a), .val (.ref tx), .val (.int off), .val (.int ln), .val (.int D)] [(.int (en + (1 : Int32))), (.ref a)])) (fun t_ k_ => XS.iadd X24.here hx rfl (hb hby own_d_read_249) rfl k_) ?_
    refine own_by (T' := T24) (g' := (mkF m 251 #[.val (.ref a), .val (.ref tx), .val (.int off), .val (.int ln), .val (.int D)] [(.ref a), (.int (en + (1 : Int32))), (.ref a)])) (fun t_ k_ => XS.aloadN X24.here hx rfl (hb hby own_d_read_250) rfl rfl k_) ?_
    obtain ⟨T25, X25, e25, st25⟩ := getF X24 hx hZ hown (host := "") (Or.inl (hw _ (List.mem_of_getElem? (i := 19) rfl))) Via.refl e24 u6 (g := (mkF m 251 #[.val (.ref a), .val (.ref tx), .val (.int off), .val (.int ln), .val (.int D)] [(.ref a), (.int (en + (1 : Int32))), (.ref a)])) rfl rfl (hb hby own_d_read_251)
    refine own_by (T' := T25) (g' := (mkF m 254 #[.val (.ref a), .val (.ref tx), .val (.int off), .val (.int ln), .val (.int D)] [(.int (off + ln)), (.int (en + (1 : Int32))), (.ref a)])) st25 ?_
    obtain ⟨_, T26, L26, X26, hQ26, st26⟩ := own_callS X25 hx hZ (y := (⟨"java/lang/Math", "min", "(II)I"⟩ : MethodName)) hown (hw _ (List.mem_of_getElem? (i := 37) rfl)) (hw _ (List.mem_of_getElem? (i := 38) rfl)) (hw _ (List.mem_of_getElem? (i := 39) rfl)) (hw _ (List.mem_of_getElem? (i := 40) rfl)) (by decide) (argsL := [(.int (en + (1 : Int32))), (.int (off + ln))]) (rest := [(.ref a)]) (own_rm_mi l Z a0 hw [] (en + (1 : Int32)) (off + ln)  hh n0 u0 ) e25 (W := 1) (by decide) (by decide) (by decide) (by decide) (g := (mkF m 254 #[.val (.ref a), .val (.ref tx), .val (.int off), .val (.int ln), .val (.int D)] [(.int (off + ln)), (.int (en + (1 : Int32))), (.ref a)])) rfl (by rw [hml]; rfl) (lenOf own_pd0 rfl) rfl (by show 2 * 0 + _ ≤ _; exact Nat.le_of_eq rfl) (hb hby own_d_read_254)
    obtain ⟨rfl, Nq26, e26⟩ := hQ26
    have N26 := Fr.app N1 Nq26
    refine st26 _ ?_
    show own_Goes p e below _ T26 (mkF m 257 #[.val (.ref a), .val (.ref tx), .val (.int off), .val (.int ln), .val (.int D)] [(.int (if (off + ln) < (en + (1 : Int32)) then (off + ln) else (en + (1 : Int32)))), (.ref a)])
    obtain ⟨T27, h27, X27, e27, W27, st27⟩ := putF X26 hx hZ hown (host := "") (Or.inl (hw _ (List.mem_of_getElem? (i := 41) rfl))) Via.refl e26 u13 u2 (Or.inl (hw _ (List.mem_of_getElem? (i := 42) rfl))) (hw _ (List.mem_of_getElem? (i := 2) rfl)) (ty := .int) (by decide) rfl rfl (g := (mkF m 257 #[.val (.ref a), .val (.ref tx), .val (.int off), .val (.int ln), .val (.int D)] [(.int (if (off + ln) < (en + (1 : Int32)) then (off + ln) else (en + (1 : Int32)))), (.ref a)])) rfl rfl (hb hby own_d_read_257)
    refine own_by (T' := T27) (g' := (mkF m 260 #[.val (.ref a), .val (.ref tx), .val (.int off), .val (.int ln), .val (.int D)] [])) st27 ?_
    have N27 := Fr.snoc X27 N26 G0
    have f28 := Nat.le_trans u0 (Keep.of_wr W27).1
    have f29 := Keep.wr u1 W27 (Or.inl (List.mem_of_getElem? (i := 0) rfl))
    have f30 := Exa.wr W27 u2
    have f31 := own_Ia_other W27 u3 n1
    have f32 := Fld.other W27 u4 (Or.inr (slot_ne (Or.inl (hw _ (List.mem_of_getElem? (i := 16) rfl))) (Or.inl (hw _ (List.mem_of_getElem? (i := 42) rfl))) (by decide) (t := (.array .char)) (t' := .int) (by decide) (by decide)))
    have f33 := Fld.other W27 u5 (Or.inr (slot_ne (Or.inl (hw _ (List.mem_of_getElem? (i := 18) rfl))) (Or.inl (hw _ (List.mem_of_getElem? (i := 42) rfl))) (by decide) (t := .int) (t' := .int) (by decide) (by decide)))
    have f34 := Fld.other W27 u6 (Or.inr (slot_ne (Or.inl (hw _ (List.mem_of_getElem? (i := 20) rfl))) (Or.inl (hw _ (List.mem_of_getElem? (i := 42) rfl))) (by decide) (t := .int) (t' := .int) (by decide) (by decide)))
    have f35 := Fld.other W27 u7 (Or.inr (slot_ne (Or.inl (hw _ (List.mem_of_getElem? (i := 22) rfl))) (Or.inl (hw _ (List.mem_of_getElem? (i := 42) rfl))) (by decide) (t := .boolean) (t' := .int) (by decide) (by decide)))
    have f36 := Fld.other W27 u8 (Or.inr (slot_ne (Or.inl (hw _ (List.mem_of_getElem? (i := 24) rfl))) (Or.inl (hw _ (List.mem_of_getElem? (i := 42) rfl))) (by decide) (t := .int) (t' := .int) (by decide) (by decide)))
    have f37 := Fld.other W27 u9 (Or.inr (slot_ne (Or.inl (hw _ (List.mem_of_getElem? (i := 26) rfl))) (Or.inl (hw _ (List.mem_of_getElem? (i := 42) rfl))) (by decide) (t := .int) (t' := .int) (by decide) (by decide)))
    have f38 := Fld.other W27 u10 (Or.inr (slot_ne (Or.inl (hw _ (List.mem_of_getElem? (i := 28) rfl))) (Or.inl (hw _ (List.mem_of_getElem? (i := 42) rfl))) (by decide) (t := .int) (t' := .int) (by decide) (by decide)))
    have f39 := Fld.other W27 u11 (Or.inr (slot_ne (Or.inl (hw _ (List.mem_of_getElem? (i := 30) rfl))) (Or.inl (hw _ (List.mem_of_getElem? (i := 42) rfl))) (by decide) (t := .int) (t' := .int) (by decide) (by decide)))
    have f40 := Fld.other W27 u12 (Or.inr (slot_ne (Or.inl (hw _ (List.mem_of_getElem? (i := 36) rfl))) (Or.inl (hw _ (List.mem_of_getElem? (i := 42) rfl))) (by decide) (t := .int) (t' := .int) (by decide) (by decide)))
    have f41 := Fld.same W27 u13
    have f42 := Fld.other W27 u14 (Or.inr (slot_ne (Or.inl (hw _ (List.mem_of_getElem? (i := 44) rfl))) (Or.inl (hw _ (List.mem_of_getElem? (i := 42) rfl))) (by decide) (t := .boolean) (t' := .int) (by decide) (by decide)))
    refine own_by (T' := T27) (g' := (mkF m 261 #[.val (.ref a), .val (.ref tx), .val (.int off), .val (.int ln), .val (.int D)] [(.ref a)])) (fun t_ k_ => XS.aloadN X27.here hx rfl (hb hby own_d_read_260) rfl rfl k_) ?_
    refine own_by (T' := T27) (g' := (mkF m 262 #[.val (.ref a), .val (.ref tx), .val (.int off), .val (.int ln), .val (.int D)] [(.ref a), (.ref a)])) (fun t_ k_ => XS.aloadN X27.here hx rfl (hb hby own_d_read_261) rfl rfl k_) ?_
    obtain ⟨T43, X43, e43, st43⟩ := getF X27 hx hZ hown (host := "") (Or.inl (hw _ (List.mem_of_getElem? (i := 41) rfl))) Via.refl e27 f41 (g := (mkF m 262 #[.val (.ref a), .val (.ref tx), .val (.int off), .val (.int ln), .val (.int D)] [(.ref a), (.ref a)])) rfl rfl (hb hby own_d_read_262)
    refine own_by (T' := T43) (g' := (mkF m 265 #[.val (.ref a), .val (.ref tx), .val (.int off), .val (.int ln), .val (.int D)] [(.int (if (off + ln) < (en + (1 : Int32)) then (off + ln) else (en + (1 : Int32)))), (.ref a)])) st43 ?_
    refine own_by (T' := T43) (g' := (mkF m 266 #[.val (.ref a), .val (.ref tx), .val (.int off), .val (.int ln), .val (.int D)] [(.ref a), (.int (if (off + ln) < (en + (1 : Int32)) then (off + ln) else (en + (1 : Int32)))), (.ref a)])) (fun t_ k_ => XS.aloadN X43.here hx rfl (hb hby own_d_read_265) rfl rfl k_) ?_
    obtain ⟨T44, X44, e44, st44⟩ := getF X43 hx hZ hown (host := "") (Or.inl (hw _ (List.mem_of_getElem? (i := 19) rfl))) Via.refl e43 f34 (g := (mkF m 266 #[.val (.ref a), .val (.ref tx), .val (.int off), .val (.int ln), .val (.int D)] [(.ref a), (.int (if (off + ln) < (en + (1 : Int32)) then (off + ln) else (en + (1 : Int32)))), (.ref a)])) rfl rfl (hb hby own_d_read_266)
    refine own_by (T' := T44) (g' := (mkF m 269 #[.val (.ref a), .val (.ref tx), .val (.int off), .val (.int ln), .val (.int D)] [(.int (off + ln)), (.int (if (off + ln) < (en + (1 : Int32)) then (off + ln) else (en + (1 : Int32)))), (.ref a)])) st44 ?_
    by_cases c269_45 : (if (off + ln) < (en + (1 : Int32)) then (off + ln) else (en + (1 : Int32))) < (off + ln)
    · skip
      refine own_by (T' := T44) (g' := (mkF m 272 #[.val (.ref a), .val (.ref tx), .val (.int off), .val (.int ln), .val (.int D)] [(.ref a)])) (fun t_ k_ => XS.icmpNo X44.here hx rfl (hb hby own_d_read_269) rfl (tlt (c269_45 : (if (off + ln) < (en + (1 : Int32)) then (off + ln) else (en + (1 : Int32))) < (off + ln))).2.1 k_) ?_
      refine own_by (T' := T44) (g' := (mkF m 273 #[.val (.ref a), .val (.ref tx), .val (.int off), .val (.int ln), .val (.int D)] [(.ref tx), (.ref a)])) (fun t_ k_ => XS.aloadN X44.here hx rfl (hb hby own_d_read_272) rfl rfl k_) ?_
      refine own_by (T' := T44) (g' := (mkF m 274 #[.val (.ref a), .val (.ref tx), .val (.int off), .val (.int ln), .val (.int D)] [(.ref a), (.ref tx), (.ref a)])) (fun t_ k_ => XS.aloadN X44.here hx rfl (hb hby own_d_read_273) rfl rfl k_) ?_
      obtain ⟨T46, X46, e46, st46⟩ := getF X44 hx hZ hown (host := "") (Or.inl (hw _ (List.mem_of_getElem? (i := 41) rfl))) Via.refl e44 f41 (g := (mkF m 274 #[.val (.ref a), .val (.ref tx), .val (.int off), .val (.int ln), .val (.int D)] [(.ref a), (.ref tx), (.ref a)])) rfl rfl (hb hby own_d_read_274)
      refine own_by (T' := T46) (g' := (mkF m 277 #[.val (.ref a), .val (.ref tx), .val (.int off), .val (.int ln), .val (.int D)] [(.int (if (off + ln) < (en + (1 : Int32)) then (off + ln) else (en + (1 : Int32)))), (.ref tx), (.ref a)])) st46 ?_
      refine own_by (T' := T46) (g' := (mkF m 278 #[.val (.ref a), .val (.ref tx), .val (.int off), .val (.int ln), .val (.int D)] [(.int (f ((if (off + ln) < (en + (1 : Int32)) then (off + ln) else (en + (1 : Int32)))).toNatClampNeg)), (.ref a)])) (fun t_ k_ => own_cal X46 hx hZ e46 f31 (j := (if (off + ln) < (en + (1 : Int32)) then (off + ln) else (en + (1 : Int32)))) (own_m1 off ln en ho hl hs x1 x2 c269_45).1 (own_m1 off ln en ho hl hs x1 x2 c269_45).2 (g := (mkF m 277 #[.val (.ref a), .val (.ref tx), .val (.int off), .val (.int ln), .val (.int D)] [(.int (if (off + ln) < (en + (1 : Int32)) then (off + ln) else (en + (1 : Int32)))), (.ref tx), (.ref a)])) rfl rfl (hb hby own_d_read_277) _ k_) ?_
      refine own_by (T' := T46) (g' := (mkF m 280 #[.val (.ref a), .val (.ref tx), .val (.int off), .val (.int ln), .val (.int D)] [(.int (45 : Int32)), (.int (f ((if (off + ln) < (en + (1 : Int32)) then (off + ln) else (en + (1 : Int32)))).toNatClampNeg)), (.ref a)])) (fun t_ k_ => XS.bipush X46.here hx rfl (hb hby own_d_read_278) k_) ?_
      by_cases c280_47 : (f ((if (off + ln) < (en + (1 : Int32)) then (off + ln) else (en + (1 : Int32)))).toNatClampNeg) = (45 : Int32)
      · skip
        refine own_by (T' := T46) (g' := (mkF m 283 #[.val (.ref a), .val (.ref tx), .val (.int off), .val (.int ln), .val (.int D)] [(.ref a)])) (fun t_ k_ => XS.icmpNo X46.here hx rfl (hb hby own_d_read_280) rfl (teq (c280_47 : (f ((if (off + ln) < (en + (1 : Int32)) then (off + ln) else (en + (1 : Int32)))).toNatClampNeg) = (45 : Int32))).2 k_) ?_
        refine own_by (T' := T46) (g' := (mkF m 284 #[.val (.ref a), .val (.ref tx), .val (.int off), .val (.int ln), .val (.int D)] [(.int (1 : Int32)), (.ref a)])) (fun t_ k_ => XS.iconst X46.here hx rfl (hb hby own_d_read_283) k_) ?_
        refine own_by (T' := T46) (g' := (mkF m 288 #[.val (.ref a), .val (.ref tx), .val (.int off), .val (.int ln), .val (.int D)] [(.int (1 : Int32)), (.ref a)])) (fun t_ k_ => XS.goto X46.here hx rfl (pc0 := 284) (pc' := 288) rfl (hb hby own_d_read_284) (by decide) (by decide) k_) ?_
        obtain ⟨T48, h48, X48, e48, W48, st48⟩ := putF X46 hx hZ hown (host := "") (Or.inl (hw _ (List.mem_of_getElem? (i := 43) rfl))) Via.refl e46 f42 f30 (Or.inl (hw _ (List.mem_of_getElem? (i := 44) rfl))) (hw _ (List.mem_of_getElem? (i := 2) rfl)) (ty := .boolean) (by decide) rfl rfl (g := (mkF m 288 #[.val (.ref a), .val (.ref tx), .val (.int off), .val (.int ln), .val (.int D)] [(.int (1 : Int32)), (.ref a)])) rfl rfl (hb hby own_d_read_288)
        refine own_by (T' := T48) (g' := (mkF m 291 #[.val (.ref a), .val (.ref tx), .val (.int off), .val (.int ln), .val (.int D)] [])) st48 ?_
        have N48 := Fr.snoc X48 N27 G0
        have f49 := Nat.le_trans f28 (Keep.of_wr W48).1
        have f50 := Keep.wr f29 W48 (Or.inl (List.mem_of_getElem? (i := 0) rfl))
        have f51 := Exa.wr W48 f30
        have f52 := own_Ia_other W48 f31 n1
        have f53 := Fld.other W48 f32 (Or.inr (slot_ne (Or.inl (hw _ (List.mem_of_getElem? (i := 16) rfl))) (Or.inl (hw _ (List.mem_of_getElem? (i := 44) rfl))) (by decide) (t := (.array .char)) (t' := .boolean) (by decide) (by decide)))
        have f54 := Fld.other W48 f33 (Or.inr (slot_ne (Or.inl (hw _ (List.mem_of_getElem? (i := 18) rfl))) (Or.inl (hw _ (List.mem_of_getElem? (i := 44) rfl))) (by decide) (t := .int) (t' := .boolean) (by decide) (by decide)))
        have f55 := Fld.other W48 f34 (Or.inr (slot_ne (Or.inl (hw _ (List.mem_of_getElem? (i := 20) rfl))) (Or.inl (hw _ (List.mem_of_getElem? (i := 44) rfl))) (by decide) (t := .int) (t' := .boolean) (by decide) (by decide)))
        have f56 := Fld.other W48 f35 (Or.inr (slot_ne (Or.inl (hw _ (List.mem_of_getElem? (i := 22) rfl))) (Or.inl (hw _ (List.mem_of_getElem? (i := 44) rfl))) (by decide) (t := .boolean) (t' := .boolean) (by decide) (by decide)))
        have f57 := Fld.other W48 f36 (Or.inr (slot_ne (Or.inl (hw _ (List.mem_of_getElem? (i := 24) rfl))) (Or.inl (hw _ (List.mem_of_getElem? (i := 44) rfl))) (by decide) (t := .int) (t' := .boolean) (by decide) (by decide)))
        have f58 := Fld.other W48 f37 (Or.inr (slot_ne (Or.inl (hw _ (List.mem_of_getElem? (i := 26) rfl))) (Or.inl (hw _ (List.mem_of_getElem? (i := 44) rfl))) (by decide) (t := .int) (t' := .boolean) (by decide) (by decide)))
        have f59 := Fld.other W48 f38 (Or.inr (slot_ne (Or.inl (hw _ (List.mem_of_getElem? (i := 28) rfl))) (Or.inl (hw _ (List.mem_of_getElem? (i := 44) rfl))) (by decide) (t := .int) (t' := .boolean) (by decide) (by decide)))
        have f60 := Fld.other W48 f39 (Or.inr (slot_ne (Or.inl (hw _ (List.mem_of_getElem? (i := 30) rfl))) (Or.inl (hw _ (List.mem_of_getElem? (i := 44) rfl))) (by decide) (t := .int) (t' := .boolean) (by decide) (by decide)))
        have f61 := Fld.other W48 f40 (Or.inr (slot_ne (Or.inl (hw _ (List.mem_of_getElem? (i := 36) rfl))) (Or.inl (hw _ (List.mem_of_getElem? (i := 44) rfl))) (by decide) (t := .int) (t' := .boolean) (by decide) (by decide)))
        have f62 := Fld.other W48 f41 (Or.inr (slot_ne (Or.inl (hw _ (List.mem_of_getElem? (i := 42) rfl))) (Or.inl (hw _ (List.mem_of_getElem? (i := 44) rfl))) (by decide) (t := .int) (t' := .boolean) (by decide) (by decide)))
        have f63 := Fld.same W48 f42
        refine own_by (T' := T48) (g' := (mkF m 292 #[.val (.ref a), .val (.ref tx), .val (.int off), .val (.int ln), .val (.int D)] [(.ref a)])) (fun t_ k_ => XS.aloadN X48.here hx rfl (hb hby own_d_read_291) rfl rfl k_) ?_
        obtain ⟨T64, X64, e64, st64⟩ := getF X48 hx hZ hown (host := "") (Or.inl (hw _ (List.mem_of_getElem? (i := 41) rfl))) Via.refl e48 f62 (g := (mkF m 292 #[.val (.ref a), .val (.ref tx), .val (.int off), .val (.int ln), .val (.int D)] [(.ref a)])) rfl rfl (hb hby own_d_read_292)
        refine own_by (T' := T64) (g' := (mkF m 295 #[.val (.ref a), .val (.ref tx), .val (.int off), .val (.int ln), .val (.int D)] [(.int (if (off + ln) < (en + (1 : Int32)) then (off + ln) else (en + (1 : Int32))))])) st64 ?_
        refine own_by (T' := T64) (g' := (mkF m 296 #[.val (.ref a), .val (.ref tx), .val (.int off), .val (.int ln), .val (.int D)] [(.ref a), (.int (if (off + ln) < (en + (1 : Int32)) then (off + ln) else (en + (1 : Int32))))])) (fun t_ k_ => XS.aloadN X64.here hx rfl (hb hby own_d_read_295) rfl rfl k_) ?_
        obtain ⟨T65, X65, e65, st65⟩ := getF X64 hx hZ hown (host := "") (Or.inl (hw _ (List.mem_of_getElem? (i := 19) rfl))) Via.refl e64 f55 (g := (mkF m 296 #[.val (.ref a), .val (.ref tx), .val (.int off), .val (.int ln), .val (.int D)] [(.ref a), (.int (if (off + ln) < (en + (1 : Int32)) then (off + ln) else (en + (1 : Int32))))])) rfl rfl (hb hby own_d_read_296)
        refine own_by (T' := T65) (g' := (mkF m 299 #[.val (.ref a), .val (.ref tx), .val (.int off), .val (.int ln), .val (.int D)] [(.int (off + ln)), (.int (if (off + ln) < (en + (1 : Int32)) then (off + ln) else (en + (1 : Int32))))])) st65 ?_
        by_cases c299_66 : (if (off + ln) < (en + (1 : Int32)) then (off + ln) else (en + (1 : Int32))) < (off + ln)
        · skip
          refine own_by (T' := T65) (g' := (mkF m 302 #[.val (.ref a), .val (.ref tx), .val (.int off), .val (.int ln), .val (.int D)] [])) (fun t_ k_ => XS.icmpNo X65.here hx rfl (hb hby own_d_read_299) rfl (tlt (c299_66 : (if (off + ln) < (en + (1 : Int32)) then (off + ln) else (en + (1 : Int32))) < (off + ln))).2.1 k_) ?_
          refine own_by (T' := T65) (g' := (mkF m 303 #[.val (.ref a), .val (.ref tx), .val (.int off), .val (.int ln), .val (.int D)] [(.ref a)])) (fun t_ k_ => XS.aloadN X65.here hx rfl (hb hby own_d_read_302) rfl rfl k_) ?_
          obtain ⟨T67, X67, e67, st67⟩ := getF X65 hx hZ hown (host := "") (Or.inl (hw _ (List.mem_of_getElem? (i := 43) rfl))) Via.refl e65 f63 (g := (mkF m 303 #[.val (.ref a), .val (.ref tx), .val (.int off), .val (.int ln), .val (.int D)] [(.ref a)])) rfl rfl (hb hby own_d_read_303)
          refine own_by (T' := T67) (g' := (mkF m 306 #[.val (.ref a), .val (.ref tx), .val (.int off), .val (.int ln), .val (.int D)] [(.int (1 : Int32))])) st67 ?_
          refine own_by (T' := T67) (g' := (mkF m 320 #[.val (.ref a), .val (.ref tx), .val (.int off), .val (.int ln), .val (.int D)] [])) (fun t_ k_ => XS.ifYes X67.here hx rfl (pc0 := 306) (pc' := 320) rfl (hb hby own_d_read_306) rfl ((if0 _ _).trans (feq ((by decide) : ¬ ((1 : Int32) = (0 : Int32)))).2) (by decide) (by decide) k_) ?_
          refine own_by (T' := T67) (g' := (mkF m 321 #[.val (.ref a), .val (.ref tx), .val (.int off), .val (.int ln), .val (.int D)] [(.ref a)])) (fun t_ k_ => XS.aloadN X67.here hx rfl (hb hby own_d_read_320) rfl rfl k_) ?_
          refine own_by (T' := T67) (g' := (mkF m 322 #[.val (.ref a), .val (.ref tx), .val (.int off), .val (.int ln), .val (.int D)] [(.ref a), (.ref a)])) (fun t_ k_ => XS.dup X67.here hx rfl (hb hby own_d_read_321) rfl rfl k_) ?_
          obtain ⟨T68, X68, e68, st68⟩ := getF X67 hx hZ hown (host := "") (Or.inl (hw _ (List.mem_of_getElem? (i := 41) rfl))) Via.refl e67 f62 (g := (mkF m 322 #[.val (.ref a), .val (.ref tx), .val (.int off), .val (.int ln), .val (.int D)] [(.ref a), (.ref a)])) rfl rfl (hb hby own_d_read_322)
          refine own_by (T' := T68) (g' := (mkF m 325 #[.val (.ref a), .val (.ref tx), .val (.int off), .val (.int ln), .val (.int D)] [(.int (if (off + ln) < (en + (1 : Int32)) then (off + ln) else (en + (1 : Int32)))), (.ref a)])) st68 ?_
          refine own_by (T' := T68) (g' := (mkF m 326 #[.val (.ref a), .val (.ref tx), .val (.int off), .val (.int ln), .val (.int D)] [(.int (1 : Int32)), (.int (if (off + ln) < (en + (1 : Int32)) then (off + ln) else (en + (1 : Int32)))), (.ref a)])) (fun t_ k_ => XS.iconst X68.here hx rfl (hb hby own_d_read_325) k_) ?_
          refine own_by (T' := T68) (g' := (mkF m 327 #[.val (.ref a), .val (.ref tx), .val (.int off), .val (.int ln), .val (.int D)] [(.int ((if (off + ln) < (en + (1 : Int32)) then (off + ln) else (en + (1 : Int32))) + (1 : Int32))), (.ref a)])) (fun t_ k_ => XS.iadd X68.here hx rfl (hb hby own_d_read_326) rfl k_) ?_
          obtain ⟨T69, h69, X69, e69, W69, st69⟩ := putF X68 hx hZ hown (host := "") (Or.inl (hw _ (List.mem_of_getElem? (i := 41) rfl))) Via.refl e68 f62 f51 (Or.inl (hw _ (List.mem_of_getElem? (i := 42) rfl))) (hw _ (List.mem_of_getElem? (i := 2) rfl)) (ty := .int) (by decide) rfl rfl (g := (mkF m 327 #[.val (.ref a), .val (.ref tx), .val (.int off), .val (.int ln), .val (.int D)] [(.int ((if (off + ln) < (en + (1 : Int32)) then (off + ln) else (en + (1 : Int32))) + (1 : Int32))), (.ref a)])) rfl rfl (hb hby own_d_read_327)
          refine own_by (T' := T69) (g' := (mkF m 330 #[.val (.ref a), .val (.ref tx), .val (.int off), .val (.int ln), .val (.int D)] [])) st69 ?_
          have N69 := Fr.snoc X69 N48 G0
          have f70 := Nat.le_trans f49 (Keep.of_wr W69).1
          have f71 := Keep.wr f50 W69 (Or.inl (List.mem_of_getElem? (i := 0) rfl))
          have f72 := Exa.wr W69 f51
          have f73 := own_Ia_other W69 f52 n1
          have f74 := Fld.other W69 f53 (Or.inr (slot_ne (Or.inl (hw _ (List.mem_of_getElem? (i := 16) rfl))) (Or.inl (hw _ (List.mem_of_getElem? (i := 42) rfl))) (by decide) (t := (.array .char)) (t' := .int) (by decide) (by decide)))
          have f75 := Fld.other W69 f54 (Or.inr (slot_ne (Or.inl (hw _ (List.mem_of_getElem? (i := 18) rfl))) (Or.inl (hw _ (List.mem_of_getElem? (i := 42) rfl))) (by decide) (t := .int) (t' := .int) (by decide) (by decide)))
          have f76 := Fld.other W69 f55 (Or.inr (slot_ne (Or.inl (hw _ (List.mem_of_getElem? (i := 20) rfl))) (Or.inl (hw _ (List.mem_of_getElem? (i := 42) rfl))) (by decide) (t := .int) (t' := .int) (by decide) (by decide)))
          have f77 := Fld.other W69 f56 (Or.inr (slot_ne (Or.inl (hw _ (List.mem_of_getElem? (i := 22) rfl))) (Or.inl (hw _ (List.mem_of_getElem? (i := 42) rfl))) (by decide) (t := .boolean) (t' := .int) (by decide) (by decide)))
          have f78 := Fld.other W69 f57 (Or.inr (slot_ne (Or.inl (hw _ (List.mem_of_getElem? (i := 24) rfl))) (Or.inl (hw _ (List.mem_of_getElem? (i := 42) rfl))) (by decide) (t := .int) (t' := .int) (by decide) (by decide)))
          have f79 := Fld.other W69 f58 (Or.inr (slot_ne (Or.inl (hw _ (List.mem_of_getElem? (i := 26) rfl))) (Or.inl (hw _ (List.mem_of_getElem? (i := 42) rfl))) (by decide) (t := .int) (t' := .int) (by decide) (by decide)))
          have f80 := Fld.other W69 f59 (Or.inr (slot_ne (Or.inl (hw _ (List.mem_of_getElem? (i := 28) rfl))) (Or.inl (hw _ (List.mem_of_getElem? (i := 42) rfl))) (by decide) (t := .int) (t' := .int) (by decide) (by decide)))
          have f81 := Fld.other W69 f60 (Or.inr (slot_ne (Or.inl (hw _ (List.mem_of_getElem? (i := 30) rfl))) (Or.inl (hw _ (List.mem_of_getElem? (i := 42) rfl))) (by decide) (t := .int) (t' := .int) (by decide) (by decide)))
          have f82 := Fld.other W69 f61 (Or.inr (slot_ne (Or.inl (hw _ (List.mem_of_getElem? (i := 36) rfl))) (Or.inl (hw _ (List.mem_of_getElem? (i := 42) rfl))) (by decide) (t := .int) (t' := .int) (by decide) (by decide)))
          have f83 := Fld.same W69 f62
          have f84 := Fld.other W69 f63 (Or.inr (slot_ne (Or.inl (hw _ (List.mem_of_getElem? (i := 44) rfl))) (Or.inl (hw _ (List.mem_of_getElem? (i := 42) rfl))) (by decide) (t := .boolean) (t' := .int) (by decide) (by decide)))
          exact l330 _ D ng dg en pt fi la (((if (off + ln) < (en + (1 : Int32)) then (off + ln) else (en + (1 : Int32))) + (1 : Int32))) (1 : Int32) T69 h69 _ X69 e69 N69 f70 f71 f72 f73 f74 f75 f76 f77 f78 f79 f80 f81 f82 f83 f84 hR (own_mn1 off ln en ho hl hs x1 x2) rfl
        · skip
          refine own_by (T' := T65) (g' := (mkF m 330 #[.val (.ref a), .val (.ref tx), .val (.int off), .val (.int ln), .val (.int D)] [])) (fun t_ k_ => XS.icmpYes X65.here hx rfl (pc0 := 299) (pc' := 330) rfl (hb hby own_d_read_299) rfl (flt (c299_66 : ¬ ((if (off + ln) < (en + (1 : Int32)) then (off + ln) else (en + (1 : Int32))) < (off + ln)))).2.1 (by decide) (by decide) k_) ?_
          exact l330 _ D ng dg en pt fi la ((if (off + ln) < (en + (1 : Int32)) then (off + ln) else (en + (1 : Int32)))) (1 : Int32) T65 h48 _ X65 e65 N48 f49 f50 f51 f52 f53 f54 f55 f56 f57 f58 f59 f60 f61 f62 f63 hR (own_mn off ln en ho hl hs x1 x2) rfl
      · skip
        refine own_by (T' := T46) (g' := (mkF m 287 #[.val (.ref a), .val (.ref tx), .val (.int off), .val (.int ln), .val (.int D)] [(.ref a)])) (fun t_ k_ => XS.icmpYes X46.here hx rfl (pc0 := 280) (pc' := 287) rfl (hb hby own_d_read_280) rfl (feq (c280_47 : ¬ ((f ((if (off + ln) < (en + (1 : Int32)) then (off + ln) else (en + (1 : Int32)))).toNatClampNeg) = (45 : Int32)))).2 (by decide) (by decide) k_) ?_
        refine own_by (T' := T46) (g' := (mkF m 288 #[.val (.ref a), .val (.ref tx), .val (.int off), .val (.int ln), .val (.int D)] [(.int (0 : Int32)), (.ref a)])) (fun t_ k_ => XS.iconst X46.here hx rfl (hb hby own_d_read_287) k_) ?_
        obtain ⟨T85, h85, X85, e85, W85, st85⟩ := putF X46 hx hZ hown (host := "") (Or.inl (hw _ (List.mem_of_getElem? (i := 43) rfl))) Via.refl e46 f42 f30 (Or.inl (hw _ (List.mem_of_getElem? (i := 44) rfl))) (hw _ (List.mem_of_getElem? (i := 2) rfl)) (ty := .boolean) (by decide) rfl rfl (g := (mkF m 288 #[.val (.ref a), .val (.ref tx), .val (.int off), .val (.int ln), .val (.int D)] [(.int (0 : Int32)), (.ref a)])) rfl rfl (hb hby own_d_read_288)
        refine own_by (T' := T85) (g' := (mkF m 291 #[.val (.ref a), .val (.ref tx), .val (.int off), .val (.int ln), .val (.int D)] [])) st85 ?_
        have N85 := Fr.snoc X85 N27 G0
        have f86 := Nat.le_trans f28 (Keep.of_wr W85).1
        have f87 := Keep.wr f29 W85 (Or.inl (List.mem_of_getElem? (i := 0) rfl))
        have f88 := Exa.wr W85 f30
        have f89 := own_Ia_other W85 f31 n1
        have f90 := Fld.other W85 f32 (Or.inr (slot_ne (Or.inl (hw _ (List.mem_of_getElem? (i := 16) rfl))) (Or.inl (hw _ (List.mem_of_getElem? (i := 44) rfl))) (by decide) (t := (.array .char)) (t' := .boolean) (by decide) (by decide)))
        have f91 := Fld.other W85 f33 (Or.inr (slot_ne (Or.inl (hw _ (List.mem_of_getElem? (i := 18) rfl))) (Or.inl (hw _ (List.mem_of_getElem? (i := 44) rfl))) (by decide) (t := .int) (t' := .boolean) (by decide) (by decide)))
        have f92 := Fld.other W85 f34 (Or.inr (slot_ne (Or.inl (hw _ (List.mem_of_getElem? (i := 20) rfl))) (Or.inl (hw _ (List.mem_of_getElem? (i := 44) rfl))) (by decide) (t := .int) (t' := .boolean) (by decide) (by decide)))
        have f93 := Fld.other W85 f35 (Or.inr (slot_ne (Or.inl (hw _ (List.mem_of_getElem? (i := 22) rfl))) (Or.inl (hw _ (List.mem_of_getElem? (i := 44) rfl))) (by decide) (t := .boolean) (t' := .boolean) (by decide) (by decide)))
        have f94 := Fld.other W85 f36 (Or.inr (slot_ne (Or.inl (hw _ (List.mem_of_getElem? (i := 24) rfl))) (Or.inl (hw _ (List.mem_of_getElem? (i := 44) rfl))) (by decide) (t := .int) (t' := .boolean) (by decide) (by decide)))
        have f95 := Fld.other W85 f37 (Or.inr (slot_ne (Or.inl (hw _ (List.mem_of_getElem? (i := 26) rfl))) (Or.inl (hw _ (List.mem_of_getElem? (i := 44) rfl))) (by decide) (t := .int) (t' := .boolean) (by decide) (by decide)))
        have f96 := Fld.other W85 f38 (Or.inr (slot_ne (Or.inl (hw _ (List.mem_of_getElem? (i := 28) rfl))) (Or.inl (hw _ (List.mem_of_getElem? (i := 44) rfl))) (by decide) (t := .int) (t' := .boolean) (by decide) (by decide)))
        have f97 := Fld.other W85 f39 (Or.inr (slot_ne (Or.inl (hw _ (List.mem_of_getElem? (i := 30) rfl))) (Or.inl (hw _ (List.mem_of_getElem? (i := 44) rfl))) (by decide) (t := .int) (t' := .boolean) (by decide) (by decide)))
        have f98 := Fld.other W85 f40 (Or.inr (slot_ne (Or.inl (hw _ (List.mem_of_getElem? (i := 36) rfl))) (Or.inl (hw _ (List.mem_of_getElem? (i := 44) rfl))) (by decide) (t := .int) (t' := .boolean) (by decide) (by decide)))
        have f99 := Fld.other W85 f41 (Or.inr (slot_ne (Or.inl (hw _ (List.mem_of_getElem? (i := 42) rfl))) (Or.inl (hw _ (List.mem_of_getElem? (i := 44) rfl))) (by decide) (t := .int) (t' := .boolean) (by decide) (by decide)))
        have f100 := Fld.same W85 f42
        refine own_by (T' := T85) (g' := (mkF m 292 #[.val (.ref a), .val (.ref tx), .val (.int off), .val (.int ln), .val (.int D)] [(.ref a)])) (fun t_ k_ => XS.aloadN X85.here hx rfl (hb hby own_d_read_291) rfl rfl k_) ?_
        obtain ⟨T101, X101, e101, st101⟩ := getF X85 hx hZ hown (host := "") (Or.inl (hw _ (List.mem_of_getElem? (i := 41) rfl))) Via.refl e85 f99 (g := (mkF m 292 #[.val (.ref a), .val (.ref tx), .val (.int off), .val (.int ln), .val (.int D)] [(.ref a)])) rfl rfl (hb hby own_d_read_292)
        refine own_by (T' := T101) (g' := (mkF m 295 #[.val (.ref a), .val (.ref tx), .val (.int off), .val (.int ln), .val (.int D)] [(.int (if (off + ln) < (en + (1 : Int32)) then (off + ln) else (en + (1 : Int32))))])) st101 ?_
        refine own_by (T' := T101) (g' := (mkF m 296 #[.val (.ref a), .val (.ref tx), .val (.int off), .val (.int ln), .val (.int D)] [(.ref a), (.int (if (off + ln) < (en + (1 : Int32)) then (off + ln) else (en + (1 : Int32))))])) (fun t_ k_ => XS.aloadN X101.here hx rfl (hb hby own_d_read_295) rfl rfl k_) ?_
        obtain ⟨T102, X102, e102, st102⟩ := getF X101 hx hZ hown (host := "") (Or.inl (hw _ (List.mem_of_getElem? (i := 19) rfl))) Via.refl e101 f92 (g := (mkF m 296 #[.val (.ref a), .val (.ref tx), .val (.int off), .val (.int ln), .val (.int D)] [(.ref a), (.int (if (off + ln) < (en + (1 : Int32)) then (off + ln) else (en + (1 : Int32))))])) rfl rfl (hb hby own_d_read_296)
        refine own_by (T' := T102) (g' := (mkF m 299 #[.val (.ref a), .val (.ref tx), .val (.int off), .val (.int ln), .val (.int D)] [(.int (off + ln)), (.int (if (off + ln) < (en + (1 : Int32)) then (off + ln) else (en + (1 : Int32))))])) st102 ?_
        by_cases c299_103 : (if (off + ln) < (en + (1 : Int32)) then (off + ln) else (en + (1 : Int32))) < (off + ln)
        · skip
          refine own_by (T' := T102) (g' := (mkF m 302 #[.val (.ref a), .val (.ref tx), .val (.int off), .val (.int ln), .val (.int D)] [])) (fun t_ k_ => XS.icmpNo X102.here hx rfl (hb hby own_d_read_299) rfl (tlt (c299_103 : (if (off + ln) < (en + (1 : Int32)) then (off + ln) else (en + (1 : Int32))) < (off + ln))).2.1 k_) ?_
          refine own_by (T' := T102) (g' := (mkF m 303 #[.val (.ref a), .val (.ref tx), .val (.int off), .val (.int ln), .val (.int D)] [(.ref a)])) (fun t_ k_ => XS.aloadN X102.here hx rfl (hb hby own_d_read_302) rfl rfl k_) ?_
          obtain ⟨T104, X104, e104, st104⟩ := getF X102 hx hZ hown (host := "") (Or.inl (hw _ (List.mem_of_getElem? (i := 43) rfl))) Via.refl e102 f100 (g := (mkF m 303 #[.val (.ref a), .val (.ref tx), .val (.int off), .val (.int ln), .val (.int D)] [(.ref a)])) rfl rfl (hb hby own_d_read_303)
          refine own_by (T' := T104) (g' := (mkF m 306 #[.val (.ref a), .val (.ref tx), .val (.int off), .val (.int ln), .val (.int D)] [(.int (0 : Int32))])) st104 ?_
          refine own_by (T' := T104) (g' := (mkF m 309 #[.val (.ref a), .val (.ref tx), .val (.int off), .val (.int ln), .val (.int D)] [])) (fun t_ k_ => XS.ifNo X104.here hx rfl (hb hby own_d_read_306) rfl ((if0 _ _).trans (teq ((by decide) : (0 : Int32) = (0 : Int32))).2) k_) ?_
          refine own_by (T' := T104) (g' := (mkF m 310 #[.val (.ref a), .val (.ref tx), .val (.int off), .val (.int ln), .val (.int D)] [(.ref tx)])) (fun t_ k_ => XS.aloadN X104.here hx rfl (hb hby own_d_read_309) rfl rfl k_) ?_
          refine own_by (T' := T104) (g' := (mkF m 311 #[.val (.ref a), .val (.ref tx), .val (.int off), .val (.int ln), .val (.int D)] [(.ref a), (.ref tx)])) (fun t_ k_ => XS.aloadN X104.here hx rfl (hb hby own_d_read_310) rfl rfl k_) ?_
          obtain ⟨T105, X105, e105, st105⟩ := getF X104 hx hZ hown (host := "") (Or.inl (hw _ (List.mem_of_getElem? (i := 41) rfl))) Via.refl e104 f99 (g := (mkF m 311 #[.val (.ref a), .val (.ref tx), .val (.int off), .val (.int ln), .val (.int D)] [(.ref a), (.ref tx)])) rfl rfl (hb hby own_d_read_311)
          refine own_by (T' := T105) (g' := (mkF m 314 #[.val (.ref a), .val (.ref tx), .val (.int off), .val (.int ln), .val (.int D)] [(.int (if (off + ln) < (en + (1 : Int32)) then (off + ln) else (en + (1 : Int32)))), (.ref tx)])) st105 ?_
          refine own_by (T' := T105) (g' := (mkF m 315 #[.val (.ref a), .val (.ref tx), .val (.int off), .val (.int ln), .val (.int D)] [(.int (f ((if (off + ln) < (en + (1 : Int32)) then (off + ln) else (en + (1 : Int32)))).toNatClampNeg))])) (fun t_ k_ => own_cal X105 hx hZ e105 f89 (j := (if (off + ln) < (en + (1 : Int32)) then (off + ln) else (en + (1 : Int32)))) (own_m1 off ln en ho hl hs x1 x2 c299_103).1 (own_m1 off ln en ho hl hs x1 x2 c299_103).2 (g := (mkF m 314 #[.val (.ref a), .val (.ref tx), .val (.int off), .val (.int ln), .val (.int D)] [(.int (if (off + ln) < (en + (1 : Int32)) then (off + ln) else (en + (1 : Int32)))), (.ref tx)])) rfl rfl (hb hby own_d_read_314) _ k_) ?_
          refine own_by (T' := T105) (g' := (mkF m 317 #[.val (.ref a), .val (.ref tx), .val (.int off), .val (.int ln), .val (.int D)] [(.int (43 : Int32)), (.int (f ((if (off + ln) < (en + (1 : Int32)) then (off + ln) else (en + (1 : Int32)))).toNatClampNeg))])) (fun t_ k_ => XS.bipush X105.here hx rfl (hb hby own_d_read_315) k_) ?_
          by_cases c317_106 : (f ((if (off + ln) < (en + (1 : Int32)) then (off + ln) else (en + (1 : Int32)))).toNatClampNeg) = (43 : Int32)
          · skip
            refine own_by (T' := T105) (g' := (mkF m 320 #[.val (.ref a), .val (.ref tx), .val (.int off), .val (.int ln), .val (.int D)] [])) (fun t_ k_ => XS.icmpNo X105.here hx rfl (hb hby own_d_read_317) rfl (teq (c317_106 : (f ((if (off + ln) < (en + (1 : Int32)) then (off + ln) else (en + (1 : Int32)))).toNatClampNeg) = (43 : Int32))).2 k_) ?_
            refine own_by (T' := T105) (g' := (mkF m 321 #[.val (.ref a), .val (.ref tx), .val (.int off), .val (.int ln), .val (.int D)] [(.ref a)])) (fun t_ k_ => XS.aloadN X105.here hx rfl (hb hby own_d_read_320) rfl rfl k_) ?_
            refine own_by (T' := T105) (g' := (mkF m 322 #[.val (.ref a), .val (.ref tx), .val (.int off), .val (.int ln), .val (.int D)] [(.ref a), (.ref a)])) (fun t_ k_ => XS.dup X105.here hx rfl (hb hby own_d_read_321) rfl rfl k_) ?_
            obtain ⟨T107, X107, e107, st107⟩ := getF X105 hx hZ hown (host := "") (Or.inl (hw _ (List.mem_of_getElem? (i := 41) rfl))) Via.refl e105 f99 (g := (mkF m 322 #[.val (.ref a), .val (.ref tx), .val (.int off), .val (.int ln), .val (.int D)] [(.ref a), (.ref a)])) rfl rfl (hb hby own_d_read_322)
            refine own_by (T' := T107) (g' := (mkF m 325 #[.val (.ref a), .val (.ref tx), .val (.int off), .val (.int ln), .val (.int D)] [(.int (if (off + ln) < (en + (1 : Int32)) then (off + ln) else (en + (1 : Int32)))), (.ref a)])) st107 ?_
            refine own_by (T' := T107) (g' := (mkF m 326 #[.val (.ref a), .val (.ref tx), .val (.int off), .val (.int ln), .val (.int D)] [(.int (1 : Int32)), (.int (if (off + ln) < (en + (1 : Int32)) then (off + ln) else (en + (1 : Int32)))), (.ref a)])) (fun t_ k_ => XS.iconst X107.here hx rfl (hb hby own_d_read_325) k_) ?_
            refine own_by (T' := T107) (g' := (mkF m 327 #[.val (.ref a), .val (.ref tx), .val (.int off), .val (.int ln), .val (.int D)] [(.int ((if (off + ln) < (en + (1 : Int32)) then (off + ln) else (en + (1 : Int32))) + (1 : Int32))), (.ref a)])) (fun t_ k_ => XS.iadd X107.here hx rfl (hb hby own_d_read_326) rfl k_) ?_
            obtain ⟨T108, h108, X108, e108, W108, st108⟩ := putF X107 hx hZ hown (host := "") (Or.inl (hw _ (List.mem_of_getElem? (i := 41) rfl))) Via.refl e107 f99 f88 (Or.inl (hw _ (List.mem_of_getElem? (i := 42) rfl))) (hw _ (List.mem_of_getElem? (i := 2) rfl)) (ty := .int) (by decide) rfl rfl (g := (mkF m 327 #[.val (.ref a), .val (.ref tx), .val (.int off), .val (.int ln), .val (.int D)] [(.int ((if (off + ln) < (en + (1 : Int32)) then (off + ln) else (en + (1 : Int32))) + (1 : Int32))), (.ref a)])) rfl rfl (hb hby own_d_read_327)
            refine own_by (T' := T108) (g' := (mkF m 330 #[.val (.ref a), .val (.ref tx), .val (.int off), .val (.int ln), .val (.int D)] [])) st108 ?_
            have N108 := Fr.snoc X108 N85 G0
            have f109 := Nat.le_trans f86 (Keep.of_wr W108).1
            have f110 := Keep.wr f87 W108 (Or.inl (List.mem_of_getElem? (i := 0) rfl))
            have f111 := Exa.wr W108 f88
            have f112 := own_Ia_other W108 f89 n1
            have f113 := Fld.other W108 f90 (Or.inr (slot_ne (Or.inl (hw _ (List.mem_of_getElem? (i := 16) rfl))) (Or.inl (hw _ (List.mem_of_getElem? (i := 42) rfl))) (by decide) (t := (.array .char)) (t' := .int) (by decide) (by decide)))
            have f114 := Fld.other W108 f91 (Or.inr (slot_ne (Or.inl (hw _ (List.mem_of_getElem? (i := 18) rfl))) (Or.inl (hw _ (List.mem_of_getElem? (i := 42) rfl))) (by decide) (t := .int) (t' := .int) (by decide) (by decide)))
            have f115 := Fld.other W108 f92 (Or.inr (slot_ne (Or.inl (hw _ (List.mem_of_getElem? (i := 20) rfl))) (Or.inl (hw _ (List.mem_of_getElem? (i := 42) rfl))) (by decide) (t := .int) (t' := .int) (by decide) (by decide)))
            have f116 := Fld.other W108 f93 (Or.inr (slot_ne (Or.inl (hw _ (List.mem_of_getElem? (i := 22) rfl))) (Or.inl (hw _ (List.mem_of_getElem? (i := 42) rfl))) (by decide) (t := .boolean) (t' := .int) (by decide) (by decide)))
            have f117 := Fld.other W108 f94 (Or.inr (slot_ne (Or.inl (hw _ (List.mem_of_getElem? (i := 24) rfl))) (Or.inl (hw _ (List.mem_of_getElem? (i := 42) rfl))) (by decide) (t := .int) (t' := .int) (by decide) (by decide)))
            have f118 := Fld.other W108 f95 (Or.inr (slot_ne (Or.inl (hw _ (List.mem_of_getElem? (i := 26) rfl))) (Or.inl (hw _ (List.mem_of_getElem? (i := 42) rfl))) (by decide) (t := .int) (t' := .int) (by decide) (by decide)))
            have f119 := Fld.other W108 f96 (Or.inr (slot_ne (Or.inl (hw _ (List.mem_of_getElem? (i := 28) rfl))) (Or.inl (hw _ (List.mem_of_getElem? (i := 42) rfl))) (by decide) (t := .int) (t' := .int) (by decide) (by decide)))
            have f120 := Fld.other W108 f97 (Or.inr (slot_ne (Or.inl (hw _ (List.mem_of_getElem? (i := 30) rfl))) (Or.inl (hw _ (List.mem_of_getElem? (i := 42) rfl))) (by decide) (t := .int) (t' := .int) (by decide) (by decide)))
            have f121 := Fld.other W108 f98 (Or.inr (slot_ne (Or.inl (hw _ (List.mem_of_getElem? (i := 36) rfl))) (Or.inl (hw _ (List.mem_of_getElem? (i := 42) rfl))) (by decide) (t := .int) (t' := .int) (by decide) (by decide)))
            have f122 := Fld.same W108 f99
            have f123 := Fld.other W108 f100 (Or.inr (slot_ne (Or.inl (hw _ (List.mem_of_getElem? (i := 44) rfl))) (Or.inl (hw _ (List.mem_of_getElem? (i := 42) rfl))) (by decide) (t := .boolean) (t' := .int) (by decide) (by decide)))
            exact l330 _ D ng dg en pt fi la (((if (off + ln) < (en + (1 : Int32)) then (off + ln) else (en + (1 : Int32))) + (1 : Int32))) (0 : Int32) T108 h108 _ X108 e108 N108 f109 f110 f111 f112 f113 f114 f115 f116 f117 f118 f119 f120 f121 f122 f123 hR (own_mn1 off ln en ho hl hs x1 x2) rfl
          · skip
            refine own_by (T' := T105) (g' := (mkF m 330 #[.val (.ref a), .val (.ref tx), .val (.int off), .val (.int ln), .val (.int D)] [])) (fun t_ k_ => XS.icmpYes X105.here hx rfl (pc0 := 317) (pc' := 330) rfl (hb hby own_d_read_317) rfl (feq (c317_106 : ¬ ((f ((if (off + ln) < (en + (1 : Int32)) then (off + ln) else (en + (1 : Int32)))).toNatClampNeg) = (43 : Int32)))).2 (by decide) (by decide) k_) ?_
            exact l330 _ D ng dg en pt fi la ((if (off + ln) < (en + (1 : Int32)) then (off + ln) else (en + (1 : Int32)))) (0 : Int32) T105 h85 _ X105 e105 N85 f86 f87 f88 f89 f90 f91 f92 f93 f94 f95 f96 f97 f98 f99 f100 hR (own_mn off ln en ho hl hs x1 x2) rfl
        · skip
          refine own_by (T' := T102) (g' := (mkF m 330 #[.val (.ref a), .val (.ref tx), .val (.int off), .val (.int ln), .val (.int D)] [])) (fun t_ k_ => XS.icmpYes X102.here hx rfl (pc0 := 299) (pc' := 330) rfl (hb hby own_d_read_299) rfl (flt (c299_103 : ¬ ((if (off + ln) < (en + (1 : Int32)) then (off + ln) else (en + (1 : Int32))) < (off + ln)))).2.1 (by decide) (by decide) k_) ?_
          exact l330 _ D ng dg en pt fi la ((if (off + ln) < (en + (1 : Int32)) then (off + ln) else (en + (1 : Int32)))) (0 : Int32) T102 h85 _ X102 e102 N85 f86 f87 f88 f89 f90 f91 f92 f93 f94 f95 f96 f97 f98 f99 f100 hR (own_mn off ln en ho hl hs x1 x2) rfl
    · skip
      refine own_by (T' := T44) (g' := (mkF m 287 #[.val (.ref a), .val (.ref tx), .val (.int off), .val (.int ln), .val (.int D)] [(.ref a)])) (fun t_ k_ => XS.icmpYes X44.here hx rfl (pc0 := 269) (pc' := 287) rfl (hb hby own_d_read_269) rfl (flt (c269_45 : ¬ ((if (off + ln) < (en + (1 : Int32)) then (off + ln) else (en + (1 : Int32))) < (off + ln)))).2.1 (by decide) (by decide) k_) ?_
      refine own_by (T' := T44) (g' := (mkF m 288 #[.val (.ref a), .val (.ref tx), .val (.int off), .val (.int ln), .val (.int D)] [(.int (0 : Int32)), (.ref a)])) (fun t_ k_ => XS.iconst X44.here hx rfl (hb hby own_d_read_287) k_) ?_
      obtain ⟨T124, h124, X124, e124, W124, st124⟩ := putF X44 hx hZ hown (host := "") (Or.inl (hw _ (List.mem_of_getElem? (i := 43) rfl))) Via.refl e44 f42 f30 (Or.inl (hw _ (List.mem_of_getElem? (i := 44) rfl))) (hw _ (List.mem_of_getElem? (i := 2) rfl)) (ty := .boolean) (by decide) rfl rfl (g := (mkF m 288 #[.val (.ref a), .val (.ref tx), .val (.int off), .val (.int ln), .val (.int D)] [(.int (0 : Int32)), (.ref a)])) rfl rfl (hb hby own_d_read_288)
      refine own_by (T' := T124) (g' := (mkF m 291 #[.val (.ref a), .val (.ref tx), .val (.int off), .val (.int ln), .val (.int D)] [])) st124 ?_
      have N124 := Fr.snoc X124 N27 G0
      have f125 := Nat.le_trans f28 (Keep.of_wr W124).1
      have f126 := Keep.wr f29 W124 (Or.inl (List.mem_of_getElem? (i := 0) rfl))
      have f127 := Exa.wr W124 f30
      have f128 := own_Ia_other W124 f31 n1
      have f129 := Fld.other W124 f32 (Or.inr (slot_ne (Or.inl (hw _ (List.mem_of_getElem? (i := 16) rfl))) (Or.inl (hw _ (List.mem_of_getElem? (i := 44) rfl))) (by decide) (t := (.array .char)) (t' := .boolean) (by decide) (by decide)))
      have f130 := Fld.other W124 f33 (Or.inr (slot_ne (Or.inl (hw _ (List.mem_of_getElem? (i := 18) rfl))) (Or.inl (hw _ (List.mem_of_getElem? (i := 44) rfl))) (by decide) (t := .int) (t' := .boolean) (by decide) (by decide)))
      have f131 := Fld.other W124 f34 (Or.inr (slot_ne (Or.inl (hw _ (List.mem_of_getElem? (i := 20) rfl))) (Or.inl (hw _ (List.mem_of_getElem? (i := 44) rfl))) (by decide) (t := .int) (t' := .boolean) (by decide) (by decide)))
      have f132 := Fld.other W124 f35 (Or.inr (slot_ne (Or.inl (hw _ (List.mem_of_getElem? (i := 22) rfl))) (Or.inl (hw _ (List.mem_of_getElem? (i := 44) rfl))) (by decide) (t := .boolean) (t' := .boolean) (by decide) (by decide)))
      have f133 := Fld.other W124 f36 (Or.inr (slot_ne (Or.inl (hw _ (List.mem_of_getElem? (i := 24) rfl))) (Or.inl (hw _ (List.mem_of_getElem? (i := 44) rfl))) (by decide) (t := .int) (t' := .boolean) (by decide) (by decide)))
      have f134 := Fld.other W124 f37 (Or.inr (slot_ne (Or.inl (hw _ (List.mem_of_getElem? (i := 26) rfl))) (Or.inl (hw _ (List.mem_of_getElem? (i := 44) rfl))) (by decide) (t := .int) (t' := .boolean) (by decide) (by decide)))
      have f135 := Fld.other W124 f38 (Or.inr (slot_ne (Or.inl (hw _ (List.mem_of_getElem? (i := 28) rfl))) (Or.inl (hw _ (List.mem_of_getElem? (i := 44) rfl))) (by decide) (t := .int) (t' := .boolean) (by decide) (by decide)))
      have f136 := Fld.other W124 f39 (Or.inr (slot_ne (Or.inl (hw _ (List.mem_of_getElem? (i := 30) rfl))) (Or.inl (hw _ (List.mem_of_getElem? (i := 44) rfl))) (by decide) (t := .int) (t' := .boolean) (by decide) (by decide)))
      have f137 := Fld.other W124 f40 (Or.inr (slot_ne (Or.inl (hw _ (List.mem_of_getElem? (i := 36) rfl))) (Or.inl (hw _ (List.mem_of_getElem? (i := 44) rfl))) (by decide) (t := .int) (t' := .boolean) (by decide) (by decide)))
      have f138 := Fld.other W124 f41 (Or.inr (slot_ne (Or.inl (hw _ (List.mem_of_getElem? (i := 42) rfl))) (Or.inl (hw _ (List.mem_of_getElem? (i := 44) rfl))) (by decide) (t := .int) (t' := .boolean) (by decide) (by decide)))
      have f139 := Fld.same W124 f42
      refine own_by (T' := T124) (g' := (mkF m 292 #[.val (.ref a), .val (.ref tx), .val (.int off), .val (.int ln), .val (.int D)] [(.ref a)])) (fun t_ k_ => XS.aloadN X124.here hx rfl (hb hby own_d_read_291) rfl rfl k_) ?_
      obtain ⟨T140, X140, e140, st140⟩ := getF X124 hx hZ hown (host := "") (Or.inl (hw _ (List.mem_of_getElem? (i := 41) rfl))) Via.refl e124 f138 (g := (mkF m 292 #[.val (.ref a), .val (.ref tx), .val (.int off), .val (.int ln), .val (.int D)] [(.ref a)])) rfl rfl (hb hby own_d_read_292)
      refine own_by (T' := T140) (g' := (mkF m 295 #[.val (.ref a), .val (.ref tx), .val (.int off), .val (.int ln), .val (.int D)] [(.int (if (off + ln) < (en + (1 : Int32)) then (off + ln) else (en + (1 : Int32))))])) st140 ?_
      refine own_by (T' := T140) (g' := (mkF m 296 #[.val (.ref a), .val (.ref tx), .val (.int off), .val (.int ln), .val (.int D)] [(.ref a), (.int (if (off + ln) < (en + (1 : Int32)) then (off + ln) else (en + (1 : Int32))))])) (fun t_ k_ => XS.aloadN X140.here hx rfl (hb hby own_d_read_295) rfl rfl k_) ?_
      obtain ⟨T141, X141, e141, st141⟩ := getF X140 hx hZ hown (host := "") (Or.inl (hw _ (List.mem_of_getElem? (i := 19) rfl))) Via.refl e140 f131 (g := (mkF m 296 #[.val (.ref a), .val (.ref tx), .val (.int off), .val (.int ln), .val (.int D)] [(.ref a), (.int (if (off + ln) < (en + (1 : Int32)) then (off + ln) else (en + (1 : Int32))))])) rfl rfl (hb hby own_d_read_296)
      refine own_by (T' := T141) (g' := (mkF m 299 #[.val (.ref a), .val (.ref tx), .val (.int off), .val (.int ln), .val (.int D)] [(.int (off + ln)), (.int (if (off + ln) < (en + (1 : Int32)) then (off + ln) else (en + (1 : Int32))))])) st141 ?_
      by_cases c299_142 : (if (off + ln) < (en + (1 : Int32)) then (off + ln) else (en + (1 : Int32))) < (off + ln)
      · skip
        refine own_by (T' := T141) (g' := (mkF m 302 #[.val (.ref a), .val (.ref tx), .val (.int off), .val (.int ln), .val (.int D)] [])) (fun t_ k_ => XS.icmpNo X141.here hx rfl (hb hby own_d_read_299) rfl (tlt (c299_142 : (if (off + ln) < (en + (1 : Int32)) then (off + ln) else (en + (1 : Int32))) < (off + ln))).2.1 k_) ?_
        refine own_by (T' := T141) (g' := (mkF m 303 #[.val (.ref a), .val (.ref tx), .val (.int off), .val (.int ln), .val (.int D)] [(.ref a)])) (fun t_ k_ => XS.aloadN X141.here hx rfl (hb hby own_d_read_302) rfl rfl k_) ?_
        obtain ⟨T143, X143, e143, st143⟩ := getF X141 hx hZ hown (host := "") (Or.inl (hw _ (List.mem_of_getElem? (i := 43) rfl))) Via.refl e141 f139 (g := (mkF m 303 #[.val (.ref a), .val (.ref tx), .val (.int off), .val (.int ln), .val (.int D)] [(.ref a)])) rfl rfl (hb hby own_d_read_303)
        refine own_by (T' := T143) (g' := (mkF m 306 #[.val (.ref a), .val (.ref tx), .val (.int off), .val (.int ln), .val (.int D)] [(.int (0 : Int32))])) st143 ?_
        refine own_by (T' := T143) (g' := (mkF m 309 #[.val (.ref a), .val (.ref tx), .val (.int off), .val (.int ln), .val (.int D)] [])) (fun t_ k_ => XS.ifNo X143.here hx rfl (hb hby own_d_read_306) rfl ((if0 _ _).trans (teq ((by decide) : (0 : Int32) = (0 : Int32))).2) k_) ?_
        refine own_by (T' := T143) (g' := (mkF m 310 #[.val (.ref a), .val (.ref tx), .val (.int off), .val (.int ln), .val (.int D)] [(.ref tx)])) (fun t_ k_ => XS.aloadN X143.here hx rfl (hb hby own_d_read_309) rfl rfl k_) ?_
        refine own_by (T' := T143) (g' := (mkF m 311 #[.val (.ref a), .val (.ref tx), .val (.int off), .val (.int ln), .val (.int D)] [(.ref a), (.ref tx)])) (fun t_ k_ => XS.aloadN X143.here hx rfl (hb hby own_d_read_310) rfl rfl k_) ?_
        obtain ⟨T144, X144, e144, st144⟩ := getF X143 hx hZ hown (host := "") (Or.inl (hw _ (List.mem_of_getElem? (i := 41) rfl))) Via.refl e143 f138 (g := (mkF m 311 #[.val (.ref a), .val (.ref tx), .val (.int off), .val (.int ln), .val (.int D)] [(.ref a), (.ref tx)])) rfl rfl (hb hby own_d_read_311)
        refine own_by (T' := T144) (g' := (mkF m 314 #[.val (.ref a), .val (.ref tx), .val (.int off), .val (.int ln), .val (.int D)] [(.int (if (off + ln) < (en + (1 : Int32)) then (off + ln) else (en + (1 : Int32)))), (.ref tx)])) st144 ?_
        refine own_by (T' := T144) (g' := (mkF m 315 #[.val (.ref a), .val (.ref tx), .val (.int off), .val (.int ln), .val (.int D)] [(.int (f ((if (off + ln) < (en + (1 : Int32)) then (off + ln) else (en + (1 : Int32)))).toNatClampNeg))])) (fun t_ k_ => own_cal X144 hx hZ e144 f128 (j := (if (off + ln) < (en + (1 : Int32)) then (off + ln) else (en + (1 : Int32)))) (own_m1 off ln en ho hl hs x1 x2 c299_142).1 (own_m1 off ln en ho hl hs x1 x2 c299_142).2 (g := (mkF m 314 #[.val (.ref a), .val (.ref tx), .val (.int off), .val (.int ln), .val (.int D)] [(.int (if (off + ln) < (en + (1 : Int32)) then (off + ln) else (en + (1 : Int32)))), (.ref tx)])) rfl rfl (hb hby own_d_read_314) _ k_) ?_
        refine own_by (T' := T144) (g' := (mkF m 317 #[.val (.ref a), .val (.ref tx), .val (.int off), .val (.int ln), .val (.int D)] [(.int (43 : Int32)), (.int (f ((if (off + ln) < (en + (1 : Int32)) then (off + ln) else (en + (1 : Int32)))).toNatClampNeg))])) (fun t_ k_ => XS.bipush X144.here hx rfl (hb hby own_d_read_315) k_) ?_
        by_cases c317_145 : (f ((if (off + ln) < (en + (1 : Int32)) then (off + ln) else (en + (1 : Int32)))).toNatClampNeg) = (43 : Int32)
        · skip
          refine own_by (T' := T144) (g' := (mkF m 320 #[.val (.ref a), .val (.ref tx), .val (.int off), .val (.int ln), .val (.int D)] [])) (fun t_ k_ => XS.icmpNo X144.here hx rfl (hb hby own_d_read_317) rfl (teq (c317_145 : (f ((if (off + ln) < (en + (1 : Int32)) then (off + ln) else (en + (1 : Int32)))).toNatClampNeg) = (43 : Int32))).2 k_) ?_
          refine own_by (T' := T144) (g' := (mkF m 321 #[.val (.ref a), .val (.ref tx), .val (.int off), .val (.int ln), .val (.int D)] [(.ref a)])) (fun t_ k_ => XS.aloadN X144.here hx rfl (hb hby own_d_read_320) rfl rfl k_) ?_
          refine own_by (T' := T144) (g' := (mkF m 322 #[.val (.ref a), .val (.ref tx), .val (.int off), .val (.int ln), .val (.int D)] [(.ref a), (.ref a)])) (fun t_ k_ => XS.dup X144.here hx rfl (hb hby own_d_read_321) rfl rfl k_) ?_
          obtain ⟨T146, X146, e146, st146⟩ := getF X144 hx hZ hown (host := "") (Or.inl (hw _ (List.mem_of_getElem? (i := 41) rfl))) Via.refl e144 f138 (g := (mkF m 322 #[.val (.ref a), .val (.ref tx), .val (.int off), .val (.int ln), .val (.int D)] [(.ref a), (.ref a)])) rfl rfl (hb hby own_d_read_322)
          refine own_by (T' := T146) (g' := (mkF m 325 #[.val (.ref a), .val (.ref tx), .val (.int off), .val (.int ln), .val (.int D)] [(.int (if (off + ln) < (en + (1 : Int32)) then (off + ln) else (en + (1 : Int32)))), (.ref a)])) st146 ?_
          refine own_by (T' := T146) (g' := (mkF m 326 #[.val (.ref a), .val (.ref tx), .val (.int off), .val (.int ln), .val (.int D)] [(.int (1 : Int32)), (.int (if (off + ln) < (en + (1 : Int32)) then (off + ln) else (en + (1 : Int32)))), (.ref a)])) (fun t_ k_ => XS.iconst X146.here hx rfl (hb hby own_d_read_325) k_) ?_
          refine own_by (T' := T146) (g' := (mkF m 327 #[.val (.ref a), .val (.ref tx), .val (.int off), .val (.int ln), .val (.int D)] [(.int ((if (off + ln) < (en + (1 : Int32)) then (off + ln) else (en + (1 : Int32))) + (1 : Int32))), (.ref a)])) (fun t_ k_ => XS.iadd X146.here hx rfl (hb hby own_d_read_326) rfl k_) ?_
          obtain ⟨T147, h147, X147, e147, W147, st147⟩ := putF X146 hx hZ hown (host := "") (Or.inl (hw _ (List.mem_of_getElem? (i := 41) rfl))) Via.refl e146 f138 f127 (Or.inl (hw _ (List.mem_of_getElem? (i := 42) rfl))) (hw _ (List.mem_of_getElem? (i := 2) rfl)) (ty := .int) (by decide) rfl rfl (g := (mkF m 327 #[.val (.ref a), .val (.ref tx), .val (.int off), .val (.int ln), .val (.int D)] [(.int ((if (off + ln) < (en + (1 : Int32)) then (off + ln) else (en + (1 : Int32))) + (1 : Int32))), (.ref a)])) rfl rfl (hb hby own_d_read_327)
          refine own_by (T' := T147) (g' := (mkF m 330 #[.val (.ref a), .val (.ref tx), .val (.int off), .val (.int ln), .val (.int D)] [])) st147 ?_
          have N147 := Fr.snoc X147 N124 G0
          have f148 := Nat.le_trans f125 (Keep.of_wr W147).1
          have f149 := Keep.wr f126 W147 (Or.inl (List.mem_of_getElem? (i := 0) rfl))
          have f150 := Exa.wr W147 f127
          have f151 := own_Ia_other W147 f128 n1
          have f152 := Fld.other W147 f129 (Or.inr (slot_ne (Or.inl (hw _ (List.mem_of_getElem? (i := 16) rfl))) (Or.inl (hw _ (List.mem_of_getElem? (i := 42) rfl))) (by decide) (t := (.array .char)) (t' := .int) (by decide) (by decide)))
          have f153 := Fld.other W147 f130 (Or.inr (slot_ne (Or.inl (hw _ (List.mem_of_getElem? (i := 18) rfl))) (Or.inl (hw _ (List.mem_of_getElem? (i := 42) rfl))) (by decide) (t := .int) (t' := .int) (by decide) (by decide)))
          have f154 := Fld.other W147 f131 (Or.inr (slot_ne (Or.inl (hw _ (List.mem_of_getElem? (i := 20) rfl))) (Or.inl (hw _ (List.mem_of_getElem? (i := 42) rfl))) (by decide) (t := .int) (t' := .int) (by decide) (by decide)))
          have f155 := Fld.other W147 f132 (Or.inr (slot_ne (Or.inl (hw _ (List.mem_of_getElem? (i := 22) rfl))) (Or.inl (hw _ (List.mem_of_getElem? (i := 42) rfl))) (by decide) (t := .boolean) (t' := .int) (by decide) (by decide)))
          have f156 := Fld.other W147 f133 (Or.inr (slot_ne (Or.inl (hw _ (List.mem_of_getElem? (i := 24) rfl))) (Or.inl (hw _ (List.mem_of_getElem? (i := 42) rfl))) (by decide) (t := .int) (t' := .int) (by decide) (by decide)))
          have f157 := Fld.other W147 f134 (Or.inr (slot_ne (Or.inl (hw _ (List.mem_of_getElem? (i := 26) rfl))) (Or.inl (hw _ (List.mem_of_getElem? (i := 42) rfl))) (by decide) (t := .int) (t' := .int) (by decide) (by decide)))
          have f158 := Fld.other W147 f135 (Or.inr (slot_ne (Or.inl (hw _ (List.mem_of_getElem? (i := 28) rfl))) (Or.inl (hw _ (List.mem_of_getElem? (i := 42) rfl))) (by decide) (t := .int) (t' := .int) (by decide) (by decide)))
          have f159 := Fld.other W147 f136 (Or.inr (slot_ne (Or.inl (hw _ (List.mem_of_getElem? (i := 30) rfl))) (Or.inl (hw _ (List.mem_of_getElem? (i := 42) rfl))) (by decide) (t := .int) (t' := .int) (by decide) (by decide)))
          have f160 := Fld.other W147 f137 (Or.inr (slot_ne (Or.inl (hw _ (List.mem_of_getElem? (i := 36) rfl))) (Or.inl (hw _ (List.mem_of_getElem? (i := 42) rfl))) (by decide) (t := .int) (t' := .int) (by decide) (by decide)))
          have f161 := Fld.same W147 f138
          have f162 := Fld.other W147 f139 (Or.inr (slot_ne (Or.inl (hw _ (List.mem_of_getElem? (i := 44) rfl))) (Or.inl (hw _ (List.mem_of_getElem? (i := 42) rfl))) (by decide) (t := .boolean) (t' := .int) (by decide) (by decide)))
          exact l330 _ D ng dg en pt fi la (((if (off + ln) < (en + (1 : Int32)) then (off + ln) else (en + (1 : Int32))) + (1 : Int32))) (0 : Int32) T147 h147 _ X147 e147 N147 f148 f149 f150 f151 f152 f153 f154 f155 f156 f157 f158 f159 f160 f161 f162 hR (own_mn1 off ln en ho hl hs x1 x2) rfl
        · skip
          refine own_by (T' := T144) (g' := (mkF m 330 #[.val (.ref a), .val (.ref tx), .val (.int off), .val (.int ln), .val (.int D)] [])) (fun t_ k_ => XS.icmpYes X144.here hx rfl (pc0 := 317) (pc' := 330) rfl (hb hby own_d_read_317) rfl (feq (c317_145 : ¬ ((f ((if (off + ln) < (en + (1 : Int32)) then (off + ln) else (en + (1 : Int32)))).toNatClampNeg) = (43 : Int32)))).2 (by decide) (by decide) k_) ?_
          exact l330 _ D ng dg en pt fi la ((if (off + ln) < (en + (1 : Int32)) then (off + ln) else (en + (1 : Int32)))) (0 : Int32) T144 h124 _ X144 e144 N124 f125 f126 f127 f128 f129 f130 f131 f132 f133 f134 f135 f136 f137 f138 f139 hR (own_mn off ln en ho hl hs x1 x2) rfl
      · skip
        refine own_by (T' := T141) (g' := (mkF m 330 #[.val (.ref a), .val (.ref tx), .val (.int off), .val (.int ln), .val (.int D)] [])) (fun t_ k_ => XS.icmpYes X141.here hx rfl (pc0 := 299) (pc' := 330) rfl (hb hby own_d_read_299) rfl (flt (c299_142 : ¬ ((if (off + ln) < (en + (1 : Int32)) then (off + ln) else (en + (1 : Int32))) < (off + ln)))).2.1 (by decide) (by decide) k_) ?_
        exact l330 _ D ng dg en pt fi la ((if (off + ln) < (en + (1 : Int32)) then (off + ln) else (en + (1 : Int32)))) (0 : Int32) T141 h124 _ X141 e141 N124 f125 f126 f127 f128 f129 f130 f131 f132 f133 f134 f135 f136 f137 f138 f139 hR (own_mn off ln en ho hl hs x1 x2) rfl
  have l204 : ∀ (kk : Nat) (D : Int32) (ng : Int32) (dg : Int32) (en : Int32) (pt : Int32) (fi : Int32) (la : Int32) (ex : Int32) (ne : Int32) (T1 : State) (hh : Heap) (lo : List Loc), Stand p l e ({ frames := 1, cells := 0, slots := 0, locals := 14 } : Room) s m #[(.ref a), (.ref tx), (.int off), (.int ln)] below meth c T1 lo 0 0 → T1.heap = hh → Fr n0 lo → n0 ≤ hh.size → Keep h0 hh [a] → Exa Z hh a "com/example/enumconv/enumconv/core/Decimal$Reading" → own_Ia Z hh tx .char 5 f → Fld Z hh a "com/example/enumconv/enumconv/core/Decimal$Reading" "text" "[C" (.ref tx) → Fld Z hh a "com/example/enumconv/enumconv/core/Decimal$Reading" "start" "I" (.int off) → Fld Z hh a "com/example/enumconv/enumconv/core/Decimal$Reading" "stop" "I" (.int (off + ln)) → Fld Z hh a "com/example/enumconv/enumconv/core/Decimal$Reading" "negative" "Z" (.int ng) → Fld Z hh a "com/example/enumconv/enumconv/core/Decimal$Reading" "digitsAt" "I" (.int dg) → Fld Z hh a "com/example/enumconv/enumconv/core/Decimal$Reading" "end" "I" (.int en) → Fld Z hh a "com/example/enumconv/enumconv/core/Decimal$Reading" "point" "I" (.int pt) → Fld Z hh a "com/example/enumconv/enumconv/core/Decimal$Reading" "first" "I" (.int fi) → Fld Z hh a "com/example/enumconv/enumconv/core/Decimal$Reading" "last" "I" (.int la) → Fld Z hh a "com/example/enumconv/enumconv/core/Decimal$Reading" "exponentAt" "I" (.int ex) → Fld Z hh a "com/example/enumconv/enumconv/core/Decimal$Reading" "negativeExponent" "Z" (.int ne) → (own_R f off (off + ln) pt en) → (0 ≤ dg.toInt) → (0 ≤ en.toInt ∧ en.toInt ≤ off.toInt + ln.toInt) → (0 ≤ D.toInt ∧ dg.toInt + D.toInt ≤ en.toInt) → (0 ≤ pt.toInt → dg.toInt + D.toInt + 1 ≤ en.toInt) → (0 ≤ fi.toInt ∧ fi.toInt ≤ la.toInt ∧ la.toInt ≤ D.toInt) → ((la.toInt - fi.toInt).toNat = kk) → own_Goes p e below (own_K (own_Q_read Z a tx off ln f u_text u_start u_stop u_negative u_digitsAt u_end u_point u_first u_last u_exponentAt u_negativeExponent h0 n0) s ({ frames := 1, cells := 0, slots := 0, locals := 14 } : Room).cells ({ frames := 1, cells := 0, slots := 0, locals := 14 } : Room).slots) T1 (mkF m 204 #[.val (.ref a), .val (.ref tx), .val (.int off), .val (.int ln), .val (.int D)] []) := by
    intro kk
    induction kk with
      | zero =>
        intro D ng dg en pt fi la ex ne T1 hh lo X1 e1 N1 u0 u1 u2 u3 u4 u5 u6 u7 u8 u9 u10 u11 u12 u13 u14 hR y0 y1 y2 y3 z1 z2
        refine own_by (T' := T1) (g' := (mkF m 205 #[.val (.ref a), .val (.ref tx), .val (.int off), .val (.int ln), .val (.int D)] [(.ref a)])) (fun t_ k_ => XS.aloadN X1.here hx rfl (hb hby own_d_read_204) rfl rfl k_) ?_
        obtain ⟨T163, X163, e163, st163⟩ := getF X1 hx hZ hown (host := "") (Or.inl (hw _ (List.mem_of_getElem? (i := 35) rfl))) Via.refl e1 u12 (g := (mkF m 205 #[.val (.ref a), .val (.ref tx), .val (.int off), .val (.int ln), .val (.int D)] [(.ref a)])) rfl rfl (hb hby own_d_read_205)
        refine own_by (T' := T163) (g' := (mkF m 208 #[.val (.ref a), .val (.ref tx), .val (.int off), .val (.int ln), .val (.int D)] [(.int la)])) st163 ?_
        refine own_by (T' := T163) (g' := (mkF m 209 #[.val (.ref a), .val (.ref tx), .val (.int off), .val (.int ln), .val (.int D)] [(.ref a), (.int la)])) (fun t_ k_ => XS.aloadN X163.here hx rfl (hb hby own_d_read_208) rfl rfl k_) ?_
        obtain ⟨T164, X164, e164, st164⟩ := getF X163 hx hZ hown (host := "") (Or.inl (hw _ (List.mem_of_getElem? (i := 29) rfl))) Via.refl e163 u11 (g := (mkF m 209 #[.val (.ref a), .val (.ref tx), .val (.int off), .val (.int ln), .val (.int D)] [(.ref a), (.int la)])) rfl rfl (hb hby own_d_read_209)
        refine own_by (T' := T164) (g' := (mkF m 212 #[.val (.ref a), .val (.ref tx), .val (.int off), .val (.int ln), .val (.int D)] [(.int fi), (.int la)])) st164 ?_
        refine own_by (T' := T164) (g' := (mkF m 243 #[.val (.ref a), .val (.ref tx), .val (.int off), .val (.int ln), .val (.int D)] [])) (fun t_ k_ => XS.icmpYes X164.here hx rfl (pc0 := 212) (pc' := 243) rfl (hb hby own_d_read_212) rfl (flt ((own_ge1 fi la z2) : ¬ (fi < la))).2.2.2 (by decide) (by decide) k_) ?_
        exact m243 D ng dg en pt fi la ex ne T164 hh _ X164 e164 N1 u0 u1 u2 u3 u4 u5 u6 u7 u8 u9 u10 u11 u12 u13 u14 hR y1.1 y1.2
      | succ kk ih =>
        intro D ng dg en pt fi la ex ne T1 hh lo X1 e1 N1 u0 u1 u2 u3 u4 u5 u6 u7 u8 u9 u10 u11 u12 u13 u14 hR y0 y1 y2 y3 z1 z2
        refine own_by (T' := T1) (g' := (mkF m 205 #[.val (.ref a), .val (.ref tx), .val (.int off), .val (.int ln), .val (.int D)] [(.ref a)])) (fun t_ k_ => XS.aloadN X1.here hx rfl (hb hby own_d_read_204) rfl rfl k_) ?_
        obtain ⟨T165, X165, e165, st165⟩ := getF X1 hx hZ hown (host := "") (Or.inl (hw _ (List.mem_of_getElem? (i := 35) rfl))) Via.refl e1 u12 (g := (mkF m 205 #[.val (.ref a), .val (.ref tx), .val (.int off), .val (.int ln), .val (.int D)] [(.ref a)])) rfl rfl (hb hby own_d_read_205)
        refine own_by (T' := T165) (g' := (mkF m 208 #[.val (.ref a), .val (.ref tx), .val (.int off), .val (.int ln), .val (.int D)] [(.int la)])) st165 ?_
        refine own_by (T' := T165) (g' := (mkF m 209 #[.val (.ref a), .val (.ref tx), .val (.int off), .val (.int ln), .val (.int D)] [(.ref a), (.int la)])) (fun t_ k_ => XS.aloadN X165.here hx rfl (hb hby own_d_read_208) rfl rfl k_) ?_
        obtain ⟨T166, X166, e166, st166⟩ := getF X165 hx hZ hown (host := "") (Or.inl (hw _ (List.mem_of_getElem? (i := 29) rfl))) Via.refl e165 u11 (g := (mkF m 209 #[.val (.ref a), .val (.ref tx), .val (.int off), .val (.int ln), .val (.int D)] [(.ref a), (.int la)])) rfl rfl (hb hby own_d_read_209)
        refine own_by (T' := T166) (g' := (mkF m 212 #[.val (.ref a), .val (.ref tx), .val (.int off), .val (.int ln), .val (.int D)] [(.int fi), (.int la)])) st166 ?_
        refine own_by (T' := T166) (g' := (mkF m 215 #[.val (.ref a), .val (.ref tx), .val (.int off), .val (.int ln), .val (.int D)] [])) (fun t_ k_ => XS.icmpNo X166.here hx rfl (hb hby own_d_read_212) rfl (tlt ((own_lt1 fi la kk z2) : fi < la)).2.2.2 k_) ?_
        refine own_by (T' := T166) (g' := (mkF m 216 #[.val (.ref a), .val (.ref tx), .val (.int off), .val (.int ln), .val (.int D)] [(.ref a)])) (fun t_ k_ => XS.aloadN X166.here hx rfl (hb hby own_d_read_215) rfl rfl k_) ?_
        refine own_by (T' := T166) (g' := (mkF m 217 #[.val (.ref a), .val (.ref tx), .val (.int off), .val (.int ln), .val (.int D)] [(.ref a), (.ref a)])) (fun t_ k_ => XS.aloadN X166.here hx rfl (hb hby own_d_read_216) rfl rfl k_) ?_
        obtain ⟨T167, X167, e167, st167⟩ := getF X166 hx hZ hown (host := "") (Or.inl (hw _ (List.mem_of_getElem? (i := 35) rfl))) Via.refl e166 u12 (g := (mkF m 217 #[.val (.ref a), .val (.ref tx), .val (.int off), .val (.int ln), .val (.int D)] [(.ref a), (.ref a)])) rfl rfl (hb hby own_d_read_217)
        refine own_by (T' := T167) (g' := (mkF m 220 #[.val (.ref a), .val (.ref tx), .val (.int off), .val (.int ln), .val (.int D)] [(.int la), (.ref a)])) st167 ?_
        refine own_by (T' := T167) (g' := (mkF m 221 #[.val (.ref a), .val (.ref tx), .val (.int off), .val (.int ln), .val (.int D)] [(.int (1 : Int32)), (.int la), (.ref a)])) (fun t_ k_ => XS.iconst X167.here hx rfl (hb hby own_d_read_220) k_) ?_
        refine own_by (T' := T167) (g' := (mkF m 222 #[.val (.ref a), .val (.ref tx), .val (.int off), .val (.int ln), .val (.int D)] [(.int (la - (1 : Int32))), (.ref a)])) (fun t_ k_ => XS.isub X167.here hx rfl (hb hby own_d_read_221) rfl k_) ?_
        obtain ⟨_, T168, L168, X168, hQ168, st168⟩ := own_callPv X167 hx hZ (y := (⟨"com/example/enumconv/enumconv/core/Decimal$Reading", "digit", "(I)C"⟩ : MethodName)) hown (hw _ (List.mem_of_getElem? (i := 31) rfl)) (own_selp (hw _ (List.mem_of_getElem? (i := 33) rfl)) (hw _ (List.mem_of_getElem? (i := 32) rfl)) (hw _ (List.mem_of_getElem? (i := 2) rfl)) (by decide)) (hw _ (List.mem_of_getElem? (i := 32) rfl)) (hw _ (List.mem_of_getElem? (i := 33) rfl)) (hw _ (List.mem_of_getElem? (i := 3) rfl)) (hw _ (List.mem_of_getElem? (i := 34) rfl)) (by decide) (argsL := [(.int (la - (1 : Int32)))]) (rest := []) u2 (own_rm_dgt l Z a0 hw [] a (la - (1 : Int32)) dg tx pt f hh n0 u0 u8 u4 u10 u3 (own_v3 off ln dg fi la D en kk ho hl hs z1 z2 y0 y1 y2) (own_v4 off ln dg fi la D en pt kk ho hl hs z1 z2 y0 y1 y2 y3)) e167 (W := 0) (by decide) (by decide) (by decide) (by decide) (g := (mkF m 222 #[.val (.ref a), .val (.ref tx), .val (.int off), .val (.int ln), .val (.int D)] [(.int (la - (1 : Int32))), (.ref a)])) rfl (by rw [hml]; rfl) (lenOf own_pd1 rfl) rfl (by show 2 * 0 + _ ≤ _; exact Nat.le_of_eq rfl) (hb hby own_d_read_222)
        obtain ⟨d168, rfl, Nq168, e168⟩ := hQ168
        have N168 := Fr.app N1 Nq168
        refine st168 _ ?_
        show own_Goes p e below _ T168 (mkF m 225 #[.val (.ref a), .val (.ref tx), .val (.int off), .val (.int ln), .val (.int D)] [(.int d168)])
        refine own_by (T' := T168) (g' := (mkF m 227 #[.val (.ref a), .val (.ref tx), .val (.int off), .val (.int ln), .val (.int D)] [(.int (48 : Int32)), (.int d168)])) (fun t_ k_ => XS.bipush X168.here hx rfl (hb hby own_d_read_225) k_) ?_
        by_cases c227_169 : d168 = (48 : Int32)
        · skip
          refine own_by (T' := T168) (g' := (mkF m 230 #[.val (.ref a), .val (.ref tx), .val (.int off), .val (.int ln), .val (.int D)] [])) (fun t_ k_ => XS.icmpNo X168.here hx rfl (hb hby own_d_read_227) rfl (teq (c227_169 : d168 = (48 : Int32))).2 k_) ?_
          refine own_by (T' := T168) (g' := (mkF m 231 #[.val (.ref a), .val (.ref tx), .val (.int off), .val (.int ln), .val (.int D)] [(.ref a)])) (fun t_ k_ => XS.aloadN X168.here hx rfl (hb hby own_d_read_230) rfl rfl k_) ?_
          refine own_by (T' := T168) (g' := (mkF m 232 #[.val (.ref a), .val (.ref tx), .val (.int off), .val (.int ln), .val (.int D)] [(.ref a), (.ref a)])) (fun t_ k_ => XS.dup X168.here hx rfl (hb hby own_d_read_231) rfl rfl k_) ?_
          obtain ⟨T170, X170, e170, st170⟩ := getF X168 hx hZ hown (host := "") (Or.inl (hw _ (List.mem_of_getElem? (i := 35) rfl))) Via.refl e168 u12 (g := (mkF m 232 #[.val (.ref a), .val (.ref tx), .val (.int off), .val (.int ln), .val (.int D)] [(.ref a), (.ref a)])) rfl rfl (hb hby own_d_read_232)
          refine own_by (T' := T170) (g' := (mkF m 235 #[.val (.ref a), .val (.ref tx), .val (.int off), .val (.int ln), .val (.int D)] [(.int la), (.ref a)])) st170 ?_
          refine own_by (T' := T170) (g' := (mkF m 236 #[.val (.ref a), .val (.ref tx), .val (.int off), .val (.int ln), .val (.int D)] [(.int (1 : Int32)), (.int la), (.ref a)])) (fun t_ k_ => XS.iconst X170.here hx rfl (hb hby own_d_read_235) k_) ?_
          refine own_by (T' := T170) (g' := (mkF m 237 #[.val (.ref a), .val (.ref tx), .val (.int off), .val (.int ln), .val (.int D)] [(.int (la - (1 : Int32))), (.ref a)])) (fun t_ k_ => XS.isub X170.here hx rfl (hb hby own_d_read_236) rfl k_) ?_
          obtain ⟨T171, h171, X171, e171, W171, st171⟩ := putF X170 hx hZ hown (host := "") (Or.inl (hw _ (List.mem_of_getElem? (i := 35) rfl))) Via.refl e170 u12 u2 (Or.inl (hw _ (List.mem_of_getElem? (i := 36) rfl))) (hw _ (List.mem_of_getElem? (i := 2) rfl)) (ty := .int) (by decide) rfl rfl (g := (mkF m 237 #[.val (.ref a), .val (.ref tx), .val (.int off), .val (.int ln), .val (.int D)] [(.int (la - (1 : Int32))), (.ref a)])) rfl rfl (hb hby own_d_read_237)
          refine own_by (T' := T171) (g' := (mkF m 240 #[.val (.ref a), .val (.ref tx), .val (.int off), .val (.int ln), .val (.int D)] [])) st171 ?_
          have N171 := Fr.snoc X171 N168 G0
          have f172 := Nat.le_trans u0 (Keep.of_wr W171).1
          have f173 := Keep.wr u1 W171 (Or.inl (List.mem_of_getElem? (i := 0) rfl))
          have f174 := Exa.wr W171 u2
          have f175 := own_Ia_other W171 u3 n1
          have f176 := Fld.other W171 u4 (Or.inr (slot_ne (Or.inl (hw _ (List.mem_of_getElem? (i := 16) rfl))) (Or.inl (hw _ (List.mem_of_getElem? (i := 36) rfl))) (by decide) (t := (.array .char)) (t' := .int) (by decide) (by decide)))
          have f177 := Fld.other W171 u5 (Or.inr (slot_ne (Or.inl (hw _ (List.mem_of_getElem? (i := 18) rfl))) (Or.inl (hw _ (List.mem_of_getElem? (i := 36) rfl))) (by decide) (t := .int) (t' := .int) (by decide) (by decide)))
          have f178 := Fld.other W171 u6 (Or.inr (slot_ne (Or.inl (hw _ (List.mem_of_getElem? (i := 20) rfl))) (Or.inl (hw _ (List.mem_of_getElem? (i := 36) rfl))) (by decide) (t := .int) (t' := .int) (by decide) (by decide)))
          have f179 := Fld.other W171 u7 (Or.inr (slot_ne (Or.inl (hw _ (List.mem_of_getElem? (i := 22) rfl))) (Or.inl (hw _ (List.mem_of_getElem? (i := 36) rfl))) (by decide) (t := .boolean) (t' := .int) (by decide) (by decide)))
          have f180 := Fld.other W171 u8 (Or.inr (slot_ne (Or.inl (hw _ (List.mem_of_getElem? (i := 24) rfl))) (Or.inl (hw _ (List.mem_of_getElem? (i := 36) rfl))) (by decide) (t := .int) (t' := .int) (by decide) (by decide)))
          have f181 := Fld.other W171 u9 (Or.inr (slot_ne (Or.inl (hw _ (List.mem_of_getElem? (i := 26) rfl))) (Or.inl (hw _ (List.mem_of_getElem? (i := 36) rfl))) (by decide) (t := .int) (t' := .int) (by decide) (by decide)))
          have f182 := Fld.other W171 u10 (Or.inr (slot_ne (Or.inl (hw _ (List.mem_of_getElem? (i := 28) rfl))) (Or.inl (hw _ (List.mem_of_getElem? (i := 36) rfl))) (by decide) (t := .int) (t' := .int) (by decide) (by decide)))
          have f183 := Fld.other W171 u11 (Or.inr (slot_ne (Or.inl (hw _ (List.mem_of_getElem? (i := 30) rfl))) (Or.inl (hw _ (List.mem_of_getElem? (i := 36) rfl))) (by decide) (t := .int) (t' := .int) (by decide) (by decide)))
          have f184 := Fld.same W171 u12
          have f185 := Fld.other W171 u13 (Or.inr (slot_ne (Or.inl (hw _ (List.mem_of_getElem? (i := 42) rfl))) (Or.inl (hw _ (List.mem_of_getElem? (i := 36) rfl))) (by decide) (t := .int) (t' := .int) (by decide) (by decide)))
          have f186 := Fld.other W171 u14 (Or.inr (slot_ne (Or.inl (hw _ (List.mem_of_getElem? (i := 44) rfl))) (Or.inl (hw _ (List.mem_of_getElem? (i := 36) rfl))) (by decide) (t := .boolean) (t' := .int) (by decide) (by decide)))
          refine own_by (T' := T171) (g' := (mkF m 204 #[.val (.ref a), .val (.ref tx), .val (.int off), .val (.int ln), .val (.int D)] [])) (fun t_ k_ => XS.goto X171.here hx rfl (pc0 := 240) (pc' := 204) rfl (hb hby own_d_read_240) (by decide) (by decide) k_) ?_
          exact ih D ng dg en pt fi (la - (1 : Int32)) ex ne T171 h171 _ X171 e171 N171 f172 f173 f174 f175 f176 f177 f178 f179 f180 f181 f182 f183 f184 f185 f186 hR y0 y1 y2 y3 (own_g1 fi la D kk z1 y2.1 z2) (own_g2 fi la D kk z1 y2.1 z2)
        · skip
          refine own_by (T' := T168) (g' := (mkF m 243 #[.val (.ref a), .val (.ref tx), .val (.int off), .val (.int ln), .val (.int D)] [])) (fun t_ k_ => XS.icmpYes X168.here hx rfl (pc0 := 227) (pc' := 243) rfl (hb hby own_d_read_227) rfl (feq (c227_169 : ¬ (d168 = (48 : Int32)))).2 (by decide) (by decide) k_) ?_
          exact m243 D ng dg en pt fi la ex ne T168 hh _ X168 e168 N168 u0 u1 u2 u3 u4 u5 u6 u7 u8 u9 u10 u11 u12 u13 u14 hR y1.1 y1.2
  have l163 : ∀ (kk : Nat) (D : Int32) (ng : Int32) (dg : Int32) (en : Int32) (pt : Int32) (fi : Int32) (la : Int32) (ex : Int32) (ne : Int32) (T1 : State) (hh : Heap) (lo : List Loc), Stand p l e ({ frames := 1, cells := 0, slots := 0, locals := 14 } : Room) s m #[(.ref a), (.ref tx), (.int off), (.int ln)] below meth c T1 lo 0 0 → T1.heap = hh → Fr n0 lo → n0 ≤ hh.size → Keep h0 hh [a] → Exa Z hh a "com/example/enumconv/enumconv/core/Decimal$Reading" → own_Ia Z hh tx .char 5 f → Fld Z hh a "com/example/enumconv/enumconv/core/Decimal$Reading" "text" "[C" (.ref tx) → Fld Z hh a "com/example/enumconv/enumconv/core/Decimal$Reading" "start" "I" (.int off) → Fld Z hh a "com/example/enumconv/enumconv/core/Decimal$Reading" "stop" "I" (.int (off + ln)) → Fld Z hh a "com/example/enumconv/enumconv/core/Decimal$Reading" "negative" "Z" (.int ng) → Fld Z hh a "com/example/enumconv/enumconv/core/Decimal$Reading" "digitsAt" "I" (.int dg) → Fld Z hh a "com/example/enumconv/enumconv/core/Decimal$Reading" "end" "I" (.int en) → Fld Z hh a "com/example/enumconv/enumconv/core/Decimal$Reading" "point" "I" (.int pt) → Fld Z hh a "com/example/enumconv/enumconv/core/Decimal$Reading" "first" "I" (.int fi) → Fld Z hh a "com/example/enumconv/enumconv/core/Decimal$Reading" "last" "I" (.int la) → Fld Z hh a "com/example/enumconv/enumconv/core/Decimal$Reading" "exponentAt" "I" (.int ex) → Fld Z hh a "com/example/enumconv/enumconv/core/Decimal$Reading" "negativeExponent" "Z" (.int ne) → (own_R f off (off + ln) pt en) → (0 ≤ dg.toInt) → (0 ≤ en.toInt ∧ en.toInt ≤ off.toInt + ln.toInt) → (0 ≤ D.toInt ∧ dg.toInt + D.toInt ≤ en.toInt) → (0 ≤ pt.toInt → dg.toInt + D.toInt + 1 ≤ en.toInt) → (0 ≤ fi.toInt ∧ fi.toInt ≤ D.toInt) → ((D.toInt - fi.toInt).toNat = kk) → own_Goes p e below (own_K (own_Q_read Z a tx off ln f u_text u_start u_stop u_negative u_digitsAt u_end u_point u_first u_last u_exponentAt u_negativeExponent h0 n0) s ({ frames := 1, cells := 0, slots := 0, locals := 14 } : Room).cells ({ frames := 1, cells := 0, slots := 0, locals := 14 } : Room).slots) T1 (mkF m 163 #[.val (.ref a), .val (.ref tx), .val (.int off), .val (.int ln), .val (.int D)] []) := by
    intro kk
    induction kk with
      | zero =>
        intro D ng dg en pt fi la ex ne T1 hh lo X1 e1 N1 u0 u1 u2 u3 u4 u5 u6 u7 u8 u9 u10 u11 u12 u13 u14 hR y0 y1 y2 y3 z1 z2
        refine own_by (T' := T1) (g' := (mkF m 164 #[.val (.ref a), .val (.ref tx), .val (.int off), .val (.int ln), .val (.int D)] [(.ref a)])) (fun t_ k_ => XS.aloadN X1.here hx rfl (hb hby own_d_read_163) rfl rfl k_) ?_
        obtain ⟨T187, X187, e187, st187⟩ := getF X1 hx hZ hown (host := "") (Or.inl (hw _ (List.mem_of_getElem? (i := 29) rfl))) Via.refl e1 u11 (g := (mkF m 164 #[.val (.ref a), .val (.ref tx), .val (.int off), .val (.int ln), .val (.int D)] [(.ref a)])) rfl rfl (hb hby own_d_read_164)
        refine own_by (T' := T187) (g' := (mkF m 167 #[.val (.ref a), .val (.ref tx), .val (.int off), .val (.int ln), .val (.int D)] [(.int fi)])) st187 ?_
        refine own_by (T' := T187) (g' := (mkF m 169 #[.val (.ref a), .val (.ref tx), .val (.int off), .val (.int ln), .val (.int D)] [(.int D), (.int fi)])) (fun t_ k_ => XS.iload X187.here hx rfl (hb hby own_d_read_167) rfl k_) ?_
        refine own_by (T' := T187) (g' := (mkF m 198 #[.val (.ref a), .val (.ref tx), .val (.int off), .val (.int ln), .val (.int D)] [])) (fun t_ k_ => XS.icmpYes X187.here hx rfl (pc0 := 169) (pc' := 198) rfl (hb hby own_d_read_169) rfl (flt ((own_ge1 fi D z2) : ¬ (fi < D))).2.1 (by decide) (by decide) k_) ?_
        refine own_by (T' := T187) (g' := (mkF m 199 #[.val (.ref a), .val (.ref tx), .val (.int off), .val (.int ln), .val (.int D)] [(.ref a)])) (fun t_ k_ => XS.aloadN X187.here hx rfl (hb hby own_d_read_198) rfl rfl k_) ?_
        refine own_by (T' := T187) (g' := (mkF m 201 #[.val (.ref a), .val (.ref tx), .val (.int off), .val (.int ln), .val (.int D)] [(.int D), (.ref a)])) (fun t_ k_ => XS.iload X187.here hx rfl (hb hby own_d_read_199) rfl k_) ?_
        obtain ⟨T188, h188, X188, e188, W188, st188⟩ := putF X187 hx hZ hown (host := "") (Or.inl (hw _ (List.mem_of_getElem? (i := 35) rfl))) Via.refl e187 u12 u2 (Or.inl (hw _ (List.mem_of_getElem? (i := 36) rfl))) (hw _ (List.mem_of_getElem? (i := 2) rfl)) (ty := .int) (by decide) rfl rfl (g := (mkF m 201 #[.val (.ref a), .val (.ref tx), .val (.int off), .val (.int ln), .val (.int D)] [(.int D), (.ref a)])) rfl rfl (hb hby own_d_read_201)
        refine own_by (T' := T188) (g' := (mkF m 204 #[.val (.ref a), .val (.ref tx), .val (.int off), .val (.int ln), .val (.int D)] [])) st188 ?_
        have N188 := Fr.snoc X188 N1 G0
        have f189 := Nat.le_trans u0 (Keep.of_wr W188).1
        have f190 := Keep.wr u1 W188 (Or.inl (List.mem_of_getElem? (i := 0) rfl))
        have f191 := Exa.wr W188 u2
        have f192 := own_Ia_other W188 u3 n1
        have f193 := Fld.other W188 u4 (Or.inr (slot_ne (Or.inl (hw _ (List.mem_of_getElem? (i := 16) rfl))) (Or.inl (hw _ (List.mem_of_getElem? (i := 36) rfl))) (by decide) (t := (.array .char)) (t' := .int) (by decide) (by decide)))
        have f194 := Fld.other W188 u5 (Or.inr (slot_ne (Or.inl (hw _ (List.mem_of_getElem? (i := 18) rfl))) (Or.inl (hw _ (List.mem_of_getElem? (i := 36) rfl))) (by decide) (t := .int) (t' := .int) (by decide) (by decide)))
        have f195 := Fld.other W188 u6 (Or.inr (slot_ne (Or.inl (hw _ (List.mem_of_getElem? (i := 20) rfl))) (Or.inl (hw _ (List.mem_of_getElem? (i := 36) rfl))) (by decide) (t := .int) (t' := .int) (by decide) (by decide)))
        have f196 := Fld.other W188 u7 (Or.inr (slot_ne (Or.inl (hw _ (List.mem_of_getElem? (i := 22) rfl))) (Or.inl (hw _ (List.mem_of_getElem? (i := 36) rfl))) (by decide) (t := .boolean) (t' := .int) (by decide) (by decide)))
        have f197 := Fld.other W188 u8 (Or.inr (slot_ne (Or.inl (hw _ (List.mem_of_getElem? (i := 24) rfl))) (Or.inl (hw _ (List.mem_of_getElem? (i := 36) rfl))) (by decide) (t := .int) (t' := .int) (by decide) (by decide)))
        have f198 := Fld.other W188 u9 (Or.inr (slot_ne (Or.inl (hw _ (List.mem_of_getElem? (i := 26) rfl))) (Or.inl (hw _ (List.mem_of_getElem? (i := 36) rfl))) (by decide) (t := .int) (t' := .int) (by decide) (by decide)))
        have f199 := Fld.other W188 u10 (Or.inr (slot_ne (Or.inl (hw _ (List.mem_of_getElem? (i := 28) rfl))) (Or.inl (hw _ (List.mem_of_getElem? (i := 36) rfl))) (by decide) (t := .int) (t' := .int) (by decide) (by decide)))
        have f200 := Fld.other W188 u11 (Or.inr (slot_ne (Or.inl (hw _ (List.mem_of_getElem? (i := 30) rfl))) (Or.inl (hw _ (List.mem_of_getElem? (i := 36) rfl))) (by decide) (t := .int) (t' := .int) (by decide) (by decide)))
        have f201 := Fld.same W188 u12
        have f202 := Fld.other W188 u13 (Or.inr (slot_ne (Or.inl (hw _ (List.mem_of_getElem? (i := 42) rfl))) (Or.inl (hw _ (List.mem_of_getElem? (i := 36) rfl))) (by decide) (t := .int) (t' := .int) (by decide) (by decide)))
        have f203 := Fld.other W188 u14 (Or.inr (slot_ne (Or.inl (hw _ (List.mem_of_getElem? (i := 44) rfl))) (Or.inl (hw _ (List.mem_of_getElem? (i := 36) rfl))) (by decide) (t := .boolean) (t' := .int) (by decide) (by decide)))
        exact l204 _ D ng dg en pt fi D ex ne T188 h188 _ X188 e188 N188 f189 f190 f191 f192 f193 f194 f195 f196 f197 f198 f199 f200 f201 f202 f203 hR y0 y1 y2 y3 ⟨z1.1, z1.2, Int.le_refl _⟩ rfl
      | succ kk ih =>
        intro D ng dg en pt fi la ex ne T1 hh lo X1 e1 N1 u0 u1 u2 u3 u4 u5 u6 u7 u8 u9 u10 u11 u12 u13 u14 hR y0 y1 y2 y3 z1 z2
        refine own_by (T' := T1) (g' := (mkF m 164 #[.val (.ref a), .val (.ref tx), .val (.int off), .val (.int ln), .val (.int D)] [(.ref a)])) (fun t_ k_ => XS.aloadN X1.here hx rfl (hb hby own_d_read_163) rfl rfl k_) ?_
        obtain ⟨T204, X204, e204, st204⟩ := getF X1 hx hZ hown (host := "") (Or.inl (hw _ (List.mem_of_getElem? (i := 29) rfl))) Via.refl e1 u11 (g := (mkF m 164 #[.val (.ref a), .val (.ref tx), .val (.int off), .val (.int ln), .val (.int D)] [(.ref a)])) rfl rfl (hb hby own_d_read_164)
        refine own_by (T' := T204) (g' := (mkF m 167 #[.val (.ref a), .val (.ref tx), .val (.int off), .val (.int ln), .val (.int D)] [(.int fi)])) st204 ?_
        refine own_by (T' := T204) (g' := (mkF m 169 #[.val (.ref a), .val (.ref tx), .val (.int off), .val (.int ln), .val (.int D)] [(.int D), (.int fi)])) (fun t_ k_ => XS.iload X204.here hx rfl (hb hby own_d_read_167) rfl k_) ?_
        refine own_by (T' := T204) (g' := (mkF m 172 #[.val (.ref a), .val (.ref tx), .val (.int off), .val (.int ln), .val (.int D)] [])) (fun t_ k_ => XS.icmpNo X204.here hx rfl (hb hby own_d_read_169) rfl (tlt ((own_lt1 fi D kk z2) : fi < D)).2.1 k_) ?_
        refine own_by (T' := T204) (g' := (mkF m 173 #[.val (.ref a), .val (.ref tx), .val (.int off), .val (.int ln), .val (.int D)] [(.ref a)])) (fun t_ k_ => XS.aloadN X204.here hx rfl (hb hby own_d_read_172) rfl rfl k_) ?_
        refine own_by (T' := T204) (g' := (mkF m 174 #[.val (.ref a), .val (.ref tx), .val (.int off), .val (.int ln), .val (.int D)] [(.ref a), (.ref a)])) (fun t_ k_ => XS.aloadN X204.here hx rfl (hb hby own_d_read_173) rfl rfl k_) ?_
        obtain ⟨T205, X205, e205, st205⟩ := getF X204 hx hZ hown (host := "") (Or.inl (hw _ (List.mem_of_getElem? (i := 29) rfl))) Via.refl e204 u11 (g := (mkF m 174 #[.val (.ref a), .val (.ref tx), .val (.int off), .val (.int ln), .val (.int D)] [(.ref a), (.ref a)])) rfl rfl (hb hby own_d_read_174)
        refine own_by (T' := T205) (g' := (mkF m 177 #[.val (.ref a), .val (.ref tx), .val (.int off), .val (.int ln), .val (.int D)] [(.int fi), (.ref a)])) st205 ?_
        obtain ⟨_, T206, L206, X206, hQ206, st206⟩ := own_callPv X205 hx hZ (y := (⟨"com/example/enumconv/enumconv/core/Decimal$Reading", "digit", "(I)C"⟩ : MethodName)) hown (hw _ (List.mem_of_getElem? (i := 31) rfl)) (own_selp (hw _ (List.mem_of_getElem? (i := 33) rfl)) (hw _ (List.mem_of_getElem? (i := 32) rfl)) (hw _ (List.mem_of_getElem? (i := 2) rfl)) (by decide)) (hw _ (List.mem_of_getElem? (i := 32) rfl)) (hw _ (List.mem_of_getElem? (i := 33) rfl)) (hw _ (List.mem_of_getElem? (i := 3) rfl)) (hw _ (List.mem_of_getElem? (i := 34) rfl)) (by decide) (argsL := [(.int fi)]) (rest := []) u2 (own_rm_dgt l Z a0 hw [] a fi dg tx pt f hh n0 u0 u8 u4 u10 u3 (own_v1 off ln dg fi D en kk ho hl hs z1 z2 y0 y1 y2) (own_v2 off ln dg fi D en pt kk ho hl hs z1 z2 y0 y1 y3)) e205 (W := 0) (by decide) (by decide) (by decide) (by decide) (g := (mkF m 177 #[.val (.ref a), .val (.ref tx), .val (.int off), .val (.int ln), .val (.int D)] [(.int fi), (.ref a)])) rfl (by rw [hml]; rfl) (lenOf own_pd1 rfl) rfl (by show 2 * 0 + _ ≤ _; exact Nat.le_of_eq rfl) (hb hby own_d_read_177)
        obtain ⟨d206, rfl, Nq206, e206⟩ := hQ206
        have N206 := Fr.app N1 Nq206
        refine st206 _ ?_
        show own_Goes p e below _ T206 (mkF m 180 #[.val (.ref a), .val (.ref tx), .val (.int off), .val (.int ln), .val (.int D)] [(.int d206)])
        refine own_by (T' := T206) (g' := (mkF m 182 #[.val (.ref a), .val (.ref tx), .val (.int off), .val (.int ln), .val (.int D)] [(.int (48 : Int32)), (.int d206)])) (fun t_ k_ => XS.bipush X206.here hx rfl (hb hby own_d_read_180) k_) ?_
        by_cases c182_207 : d206 = (48 : Int32)
        · skip
          refine own_by (T' := T206) (g' := (mkF m 185 #[.val (.ref a), .val (.ref tx), .val (.int off), .val (.int ln), .val (.int D)] [])) (fun t_ k_ => XS.icmpNo X206.here hx rfl (hb hby own_d_read_182) rfl (teq (c182_207 : d206 = (48 : Int32))).2 k_) ?_
          refine own_by (T' := T206) (g' := (mkF m 186 #[.val (.ref a), .val (.ref tx), .val (.int off), .val (.int ln), .val (.int D)] [(.ref a)])) (fun t_ k_ => XS.aloadN X206.here hx rfl (hb hby own_d_read_185) rfl rfl k_) ?_
          refine own_by (T' := T206) (g' := (mkF m 187 #[.val (.ref a), .val (.ref tx), .val (.int off), .val (.int ln), .val (.int D)] [(.ref a), (.ref a)])) (fun t_ k_ => XS.dup X206.here hx rfl (hb hby own_d_read_186) rfl rfl k_) ?_
          obtain ⟨T208, X208, e208, st208⟩ := getF X206 hx hZ hown (host := "") (Or.inl (hw _ (List.mem_of_getElem? (i := 29) rfl))) Via.refl e206 u11 (g := (mkF m 187 #[.val (.ref a), .val (.ref tx), .val (.int off), .val (.int ln), .val (.int D)] [(.ref a), (.ref a)])) rfl rfl (hb hby own_d_read_187)
          refine own_by (T' := T208) (g' := (mkF m 190 #[.val (.ref a), .val (.ref tx), .val (.int off), .val (.int ln), .val (.int D)] [(.int fi), (.ref a)])) st208 ?_
          refine own_by (T' := T208) (g' := (mkF m 191 #[.val (.ref a), .val (.ref tx), .val (.int off), .val (.int ln), .val (.int D)] [(.int (1 : Int32)), (.int fi), (.ref a)])) (fun t_ k_ => XS.iconst X208.here hx rfl (hb hby own_d_read_190) k_) ?_
          refine own_by (T' := T208) (g' := (mkF m 192 #[.val (.ref a), .val (.ref tx), .val (.int off), .val (.int ln), .val (.int D)] [(.int (fi + (1 : Int32))), (.ref a)])) (fun t_ k_ => XS.iadd X208.here hx rfl (hb hby own_d_read_191) rfl k_) ?_
          obtain ⟨T209, h209, X209, e209, W209, st209⟩ := putF X208 hx hZ hown (host := "") (Or.inl (hw _ (List.mem_of_getElem? (i := 29) rfl))) Via.refl e208 u11 u2 (Or.inl (hw _ (List.mem_of_getElem? (i := 30) rfl))) (hw _ (List.mem_of_getElem? (i := 2) rfl)) (ty := .int) (by decide) rfl rfl (g := (mkF m 192 #[.val (.ref a), .val (.ref tx), .val (.int off), .val (.int ln), .val (.int D)] [(.int (fi + (1 : Int32))), (.ref a)])) rfl rfl (hb hby own_d_read_192)
          refine own_by (T' := T209) (g' := (mkF m 195 #[.val (.ref a), .val (.ref tx), .val (.int off), .val (.int ln), .val (.int D)] [])) st209 ?_
          have N209 := Fr.snoc X209 N206 G0
          have f210 := Nat.le_trans u0 (Keep.of_wr W209).1
          have f211 := Keep.wr u1 W209 (Or.inl (List.mem_of_getElem? (i := 0) rfl))
          have f212 := Exa.wr W209 u2
          have f213 := own_Ia_other W209 u3 n1
          have f214 := Fld.other W209 u4 (Or.inr (slot_ne (Or.inl (hw _ (List.mem_of_getElem? (i := 16) rfl))) (Or.inl (hw _ (List.mem_of_getElem? (i := 30) rfl))) (by decide) (t := (.array .char)) (t' := .int) (by decide) (by decide)))
          have f215 := Fld.other W209 u5 (Or.inr (slot_ne (Or.inl (hw _ (List.mem_of_getElem? (i := 18) rfl))) (Or.inl (hw _ (List.mem_of_getElem? (i := 30) rfl))) (by decide) (t := .int) (t' := .int) (by decide) (by decide)))
          have f216 := Fld.other W209 u6 (Or.inr (slot_ne (Or.inl (hw _ (List.mem_of_getElem? (i := 20) rfl))) (Or.inl (hw _ (List.mem_of_getElem? (i := 30) rfl))) (by decide) (t := .int) (t' := .int) (by decide) (by decide)))
          have f217 := Fld.other W209 u7 (Or.inr (slot_ne (Or.inl (hw _ (List.mem_of_getElem? (i := 22) rfl))) (Or.inl (hw _ (List.mem_of_getElem? (i := 30) rfl))) (by decide) (t := .boolean) (t' := .int) (by decide) (by decide)))
          have f218 := Fld.other W209 u8 (Or.inr (slot_ne (Or.inl (hw _ (List.mem_of_getElem? (i := 24) rfl))) (Or.inl (hw _ (List.mem_of_getElem? (i := 30) rfl))) (by decide) (t := .int) (t' := .int) (by decide) (by decide)))
          have f219 := Fld.other W209 u9 (Or.inr (slot_ne (Or.inl (hw _ (List.mem_of_getElem? (i := 26) rfl))) (Or.inl (hw _ (List.mem_of_getElem? (i := 30) rfl))) (by decide) (t := .int) (t' := .int) (by decide) (by decide)))
          have f220 := Fld.other W209 u10 (Or.inr (slot_ne (Or.inl (hw _ (List.mem_of_getElem? (i := 28) rfl))) (Or.inl (hw _ (List.mem_of_getElem? (i := 30) rfl))) (by decide) (t := .int) (t' := .int) (by decide) (by decide)))
          have f221 := Fld.same W209 u11
          have f222 := Fld.other W209 u12 (Or.inr (slot_ne (Or.inl (hw _ (List.mem_of_getElem? (i := 36) rfl))) (Or.inl (hw _ (List.mem_of_getElem? (i := 30) rfl))) (by decide) (t := .int) (t' := .int) (by decide) (by decide)))
          have f223 := Fld.other W209 u13 (Or.inr (slot_ne (Or.inl (hw _ (List.mem_of_getElem? (i := 42) rfl))) (Or.inl (hw _ (List.mem_of_getElem? (i := 30) rfl))) (by decide) (t := .int) (t' := .int) (by decide) (by decide)))
          have f224 := Fld.other W209 u14 (Or.inr (slot_ne (Or.inl (hw _ (List.mem_of_getElem? (i := 44) rfl))) (Or.inl (hw _ (List.mem_of_getElem? (i := 30) rfl))) (by decide) (t := .boolean) (t' := .int) (by decide) (by decide)))
          refine own_by (T' := T209) (g' := (mkF m 163 #[.val (.ref a), .val (.ref tx), .val (.int off), .val (.int ln), .val (.int D)] [])) (fun t_ k_ => XS.goto X209.here hx rfl (pc0 := 195) (pc' := 163) rfl (hb hby own_d_read_195) (by decide) (by decide) k_) ?_
          exact ih D ng dg en pt (fi + (1 : Int32)) la ex ne T209 h209 _ X209 e209 N209 f210 f211 f212 f213 f214 f215 f216 f217 f218 f219 f220 f221 f222 f223 f224 hR y0 y1 y2 y3 (own_k1 fi D dg en kk z1 z2 y0 y2) (own_k2 fi D dg en kk z1 z2 y0 y2)
        · skip
          refine own_by (T' := T206) (g' := (mkF m 198 #[.val (.ref a), .val (.ref tx), .val (.int off), .val (.int ln), .val (.int D)] [])) (fun t_ k_ => XS.icmpYes X206.here hx rfl (pc0 := 182) (pc' := 198) rfl (hb hby own_d_read_182) rfl (feq (c182_207 : ¬ (d206 = (48 : Int32)))).2 (by decide) (by decide) k_) ?_
          refine own_by (T' := T206) (g' := (mkF m 199 #[.val (.ref a), .val (.ref tx), .val (.int off), .val (.int ln), .val (.int D)] [(.ref a)])) (fun t_ k_ => XS.aloadN X206.here hx rfl (hb hby own_d_read_198) rfl rfl k_) ?_
          refine own_by (T' := T206) (g' := (mkF m 201 #[.val (.ref a), .val (.ref tx), .val (.int off), .val (.int ln), .val (.int D)] [(.int D), (.ref a)])) (fun t_ k_ => XS.iload X206.here hx rfl (hb hby own_d_read_199) rfl k_) ?_
          obtain ⟨T225, h225, X225, e225, W225, st225⟩ := putF X206 hx hZ hown (host := "") (Or.inl (hw _ (List.mem_of_getElem? (i := 35) rfl))) Via.refl e206 u12 u2 (Or.inl (hw _ (List.mem_of_getElem? (i := 36) rfl))) (hw _ (List.mem_of_getElem? (i := 2) rfl)) (ty := .int) (by decide) rfl rfl (g := (mkF m 201 #[.val (.ref a), .val (.ref tx), .val (.int off), .val (.int ln), .val (.int D)] [(.int D), (.ref a)])) rfl rfl (hb hby own_d_read_201)
          refine own_by (T' := T225) (g' := (mkF m 204 #[.val (.ref a), .val (.ref tx), .val (.int off), .val (.int ln), .val (.int D)] [])) st225 ?_
          have N225 := Fr.snoc X225 N206 G0
          have f226 := Nat.le_trans u0 (Keep.of_wr W225).1
          have f227 := Keep.wr u1 W225 (Or.inl (List.mem_of_getElem? (i := 0) rfl))
          have f228 := Exa.wr W225 u2
          have f229 := own_Ia_other W225 u3 n1
          have f230 := Fld.other W225 u4 (Or.inr (slot_ne (Or.inl (hw _ (List.mem_of_getElem? (i := 16) rfl))) (Or.inl (hw _ (List.mem_of_getElem? (i := 36) rfl))) (by decide) (t := (.array .char)) (t' := .int) (by decide) (by decide)))
          have f231 := Fld.other W225 u5 (Or.inr (slot_ne (Or.inl (hw _ (List.mem_of_getElem? (i := 18) rfl))) (Or.inl (hw _ (List.mem_of_getElem? (i := 36) rfl))) (by decide) (t := .int) (t' := .int) (by decide) (by decide)))
          have f232 := Fld.other W225 u6 (Or.inr (slot_ne (Or.inl (hw _ (List.mem_of_getElem? (i := 20) rfl))) (Or.inl (hw _ (List.mem_of_getElem? (i := 36) rfl))) (by decide) (t := .int) (t' := .int) (by decide) (by decide)))
          have f233 := Fld.other W225 u7 (Or.inr (slot_ne (Or.inl (hw _ (List.mem_of_getElem? (i := 22) rfl))) (Or.inl (hw _ (List.mem_of_getElem? (i := 36) rfl))) (by decide) (t := .boolean) (t' := .int) (by decide) (by decide)))
          have f234 := Fld.other W225 u8 (Or.inr (slot_ne (Or.inl (hw _ (List.mem_of_getElem? (i := 24) rfl))) (Or.inl (hw _ (List.mem_of_getElem? (i := 36) rfl))) (by decide) (t := .int) (t' := .int) (by decide) (by decide)))
          have f235 := Fld.other W225 u9 (Or.inr (slot_ne (Or.inl (hw _ (List.mem_of_getElem? (i := 26) rfl))) (Or.inl (hw _ (List.mem_of_getElem? (i := 36) rfl))) (by decide) (t := .int) (t' := .int) (by decide) (by decide)))
          have f236 := Fld.other W225 u10 (Or.inr (slot_ne (Or.inl (hw _ (List.mem_of_getElem? (i := 28) rfl))) (Or.inl (hw _ (List.mem_of_getElem? (i := 36) rfl))) (by decide) (t := .int) (t' := .int) (by decide) (by decide)))
          have f237 := Fld.other W225 u11 (Or.inr (slot_ne (Or.inl (hw _ (List.mem_of_getElem? (i := 30) rfl))) (Or.inl (hw _ (List.mem_of_getElem? (i := 36) rfl))) (by decide) (t := .int) (t' := .int) (by decide) (by decide)))
          have f238 := Fld.same W225 u12
          have f239 := Fld.other W225 u13 (Or.inr (slot_ne (Or.inl (hw _ (List.mem_of_getElem? (i := 42) rfl))) (Or.inl (hw _ (List.mem_of_getElem? (i := 36) rfl))) (by decide) (t := .int) (t' := .int) (by decide) (by decide)))
          have f240 := Fld.other W225 u14 (Or.inr (slot_ne (Or.inl (hw _ (List.mem_of_getElem? (i := 44) rfl))) (Or.inl (hw _ (List.mem_of_getElem? (i := 36) rfl))) (by decide) (t := .boolean) (t' := .int) (by decide) (by decide)))
          exact l204 _ D ng dg en pt fi D ex ne T225 h225 _ X225 e225 N225 f226 f227 f228 f229 f230 f231 f232 f233 f234 f235 f236 f237 f238 f239 f240 hR y0 y1 y2 y3 ⟨z1.1, z1.2, Int.le_refl _⟩ rfl
  have m134 : ∀ (ng : Int32) (dg : Int32) (en : Int32) (pt : Int32) (fi : Int32) (la : Int32) (ex : Int32) (ne : Int32) (T1 : State) (hh : Heap) (lo : List Loc), Stand p l e ({ frames := 1, cells := 0, slots := 0, locals := 14 } : Room) s m #[(.ref a), (.ref tx), (.int off), (.int ln)] below meth c T1 lo 0 0 → T1.heap = hh → Fr n0 lo → n0 ≤ hh.size → Keep h0 hh [a] → Exa Z hh a "com/example/enumconv/enumconv/core/Decimal$Reading" → own_Ia Z hh tx .char 5 f → Fld Z hh a "com/example/enumconv/enumconv/core/Decimal$Reading" "text" "[C" (.ref tx) → Fld Z hh a "com/example/enumconv/enumconv/core/Decimal$Reading" "start" "I" (.int off) → Fld Z hh a "com/example/enumconv/enumconv/core/Decimal$Reading" "stop" "I" (.int (off + ln)) → Fld Z hh a "com/example/enumconv/enumconv/core/Decimal$Reading" "negative" "Z" (.int ng) → Fld Z hh a "com/example/enumconv/enumconv/core/Decimal$Reading" "digitsAt" "I" (.int dg) → Fld Z hh a "com/example/enumconv/enumconv/core/Decimal$Reading" "end" "I" (.int en) → Fld Z hh a "com/example/enumconv/enumconv/core/Decimal$Reading" "point" "I" (.int pt) → Fld Z hh a "com/example/enumconv/enumconv/core/Decimal$Reading" "first" "I" (.int fi) → Fld Z hh a "com/example/enumconv/enumconv/core/Decimal$Reading" "last" "I" (.int la) → Fld Z hh a "com/example/enumconv/enumconv/core/Decimal$Reading" "exponentAt" "I" (.int ex) → Fld Z hh a "com/example/enumconv/enumconv/core/Decimal$Reading" "negativeExponent" "Z" (.int ne) → (own_R f off (off + ln) pt en) → (0 ≤ dg.toInt) → (0 ≤ en.toInt ∧ en.toInt ≤ off.toInt + ln.toInt) → (dg.toInt ≤ en.toInt) → (0 ≤ pt.toInt → dg.toInt ≤ pt.toInt ∧ pt.toInt < en.toInt) → own_Goes p e below (own_K (own_Q_read Z a tx off ln f u_text u_start u_stop u_negative u_digitsAt u_end u_point u_first u_last u_exponentAt u_negativeExponent h0 n0) s ({ frames := 1, cells := 0, slots := 0, locals := 14 } : Room).cells ({ frames := 1, cells := 0, slots := 0, locals := 14 } : Room).slots) T1 (mkF m 134 #[.val (.ref a), .val (.ref tx), .val (.int off), .val (.int ln), .unset] []) := by
    intro ng dg en pt fi la ex ne T1 hh lo X1 e1 N1 u0 u1 u2 u3 u4 u5 u6 u7 u8 u9 u10 u11 u12 u13 u14 hR y0 y1 y2 y3
    refine own_by (T' := T1) (g' := (mkF m 135 #[.val (.ref a), .val (.ref tx), .val (.int off), .val (.int ln), .unset] [(.ref a)])) (fun t_ k_ => XS.aloadN X1.here hx rfl (hb hby own_d_read_134) rfl rfl k_) ?_
    obtain ⟨T241, X241, e241, st241⟩ := getF X1 hx hZ hown (host := "") (Or.inl (hw _ (List.mem_of_getElem? (i := 25) rfl))) Via.refl e1 u9 (g := (mkF m 135 #[.val (.ref a), .val (.ref tx), .val (.int off), .val (.int ln), .unset] [(.ref a)])) rfl rfl (hb hby own_d_read_135)
    refine own_by (T' := T241) (g' := (mkF m 138 #[.val (.ref a), .val (.ref tx), .val (.int off), .val (.int ln), .unset] [(.int en)])) st241 ?_
    refine own_by (T' := T241) (g' := (mkF m 139 #[.val (.ref a), .val (.ref tx), .val (.int off), .val (.int ln), .unset] [(.ref a), (.int en)])) (fun t_ k_ => XS.aloadN X241.here hx rfl (hb hby own_d_read_138) rfl rfl k_) ?_
    obtain ⟨T242, X242, e242, st242⟩ := getF X241 hx hZ hown (host := "") (Or.inl (hw _ (List.mem_of_getElem? (i := 23) rfl))) Via.refl e241 u8 (g := (mkF m 139 #[.val (.ref a), .val (.ref tx), .val (.int off), .val (.int ln), .unset] [(.ref a), (.int en)])) rfl rfl (hb hby own_d_read_139)
    refine own_by (T' := T242) (g' := (mkF m 142 #[.val (.ref a), .val (.ref tx), .val (.int off), .val (.int ln), .unset] [(.int dg), (.int en)])) st242 ?_
    refine own_by (T' := T242) (g' := (mkF m 143 #[.val (.ref a), .val (.ref tx), .val (.int off), .val (.int ln), .unset] [(.int (en - dg))])) (fun t_ k_ => XS.isub X242.here hx rfl (hb hby own_d_read_142) rfl k_) ?_
    refine own_by (T' := T242) (g' := (mkF m 144 #[.val (.ref a), .val (.ref tx), .val (.int off), .val (.int ln), .unset] [(.ref a), (.int (en - dg))])) (fun t_ k_ => XS.aloadN X242.here hx rfl (hb hby own_d_read_143) rfl rfl k_) ?_
    obtain ⟨T243, X243, e243, st243⟩ := getF X242 hx hZ hown (host := "") (Or.inl (hw _ (List.mem_of_getElem? (i := 27) rfl))) Via.refl e242 u10 (g := (mkF m 144 #[.val (.ref a), .val (.ref tx), .val (.int off), .val (.int ln), .unset] [(.ref a), (.int (en - dg))])) rfl rfl (hb hby own_d_read_144)
    refine own_by (T' := T243) (g' := (mkF m 147 #[.val (.ref a), .val (.ref tx), .val (.int off), .val (.int ln), .unset] [(.int pt), (.int (en - dg))])) st243 ?_
    by_cases c147_244 : pt < (0 : Int32)
    · skip
      refine own_by (T' := T243) (g' := (mkF m 150 #[.val (.ref a), .val (.ref tx), .val (.int off), .val (.int ln), .unset] [(.int (en - dg))])) (fun t_ k_ => XS.ifNo X243.here hx rfl (hb hby own_d_read_147) rfl ((if0 _ _).trans (tlt (c147_244 : pt < (0 : Int32))).2.1) k_) ?_
      refine own_by (T' := T243) (g' := (mkF m 151 #[.val (.ref a), .val (.ref tx), .val (.int off), .val (.int ln), .unset] [(.int (0 : Int32)), (.int (en - dg))])) (fun t_ k_ => XS.iconst X243.here hx rfl (hb hby own_d_read_150) k_) ?_
      refine own_by (T' := T243) (g' := (mkF m 155 #[.val (.ref a), .val (.ref tx), .val (.int off), .val (.int ln), .unset] [(.int (0 : Int32)), (.int (en - dg))])) (fun t_ k_ => XS.goto X243.here hx rfl (pc0 := 151) (pc' := 155) rfl (hb hby own_d_read_151) (by decide) (by decide) k_) ?_
      refine own_by (T' := T243) (g' := (mkF m 156 #[.val (.ref a), .val (.ref tx), .val (.int off), .val (.int ln), .unset] [(.int ((en - dg) - (0 : Int32)))])) (fun t_ k_ => XS.isub X243.here hx rfl (hb hby own_d_read_155) rfl k_) ?_
      refine own_by (T' := T243) (g' := (mkF m 158 #[.val (.ref a), .val (.ref tx), .val (.int off), .val (.int ln), .val (.int ((en - dg) - (0 : Int32)))] [])) (fun t_ k_ => XS.istore X243.here hx rfl (hb hby own_d_read_156) rfl (l' := #[.val (.ref a), .val (.ref tx), .val (.int off), .val (.int ln), .val (.int ((en - dg) - (0 : Int32)))]) rfl k_) ?_
      refine own_by (T' := T243) (g' := (mkF m 159 #[.val (.ref a), .val (.ref tx), .val (.int off), .val (.int ln), .val (.int ((en - dg) - (0 : Int32)))] [(.ref a)])) (fun t_ k_ => XS.aloadN X243.here hx rfl (hb hby own_d_read_158) rfl rfl k_) ?_
      refine own_by (T' := T243) (g' := (mkF m 160 #[.val (.ref a), .val (.ref tx), .val (.int off), .val (.int ln), .val (.int ((en - dg) - (0 : Int32)))] [(.int (0 : Int32)), (.ref a)])) (fun t_ k_ => XS.iconst X243.here hx rfl (hb hby own_d_read_159) k_) ?_
      obtain ⟨T245, h245, X245, e245, W245, st245⟩ := putF X243 hx hZ hown (host := "") (Or.inl (hw _ (List.mem_of_getElem? (i := 29) rfl))) Via.refl e243 u11 u2 (Or.inl (hw _ (List.mem_of_getElem? (i := 30) rfl))) (hw _ (List.mem_of_getElem? (i := 2) rfl)) (ty := .int) (by decide) rfl rfl (g := (mkF m 160 #[.val (.ref a), .val (.ref tx), .val (.int off), .val (.int ln), .val (.int ((en - dg) - (0 : Int32)))] [(.int (0 : Int32)), (.ref a)])) rfl rfl (hb hby own_d_read_160)
      refine own_by (T' := T245) (g' := (mkF m 163 #[.val (.ref a), .val (.ref tx), .val (.int off), .val (.int ln), .val (.int ((en - dg) - (0 : Int32)))] [])) st245 ?_
      have N245 := Fr.snoc X245 N1 G0
      have f246 := Nat.le_trans u0 (Keep.of_wr W245).1
      have f247 := Keep.wr u1 W245 (Or.inl (List.mem_of_getElem? (i := 0) rfl))
      have f248 := Exa.wr W245 u2
      have f249 := own_Ia_other W245 u3 n1
      have f250 := Fld.other W245 u4 (Or.inr (slot_ne (Or.inl (hw _ (List.mem_of_getElem? (i := 16) rfl))) (Or.inl (hw _ (List.mem_of_getElem? (i := 30) rfl))) (by decide) (t := (.array .char)) (t' := .int) (by decide) (by decide)))
      have f251 := Fld.other W245 u5 (Or.inr (slot_ne (Or.inl (hw _ (List.mem_of_getElem? (i := 18) rfl))) (Or.inl (hw _ (List.mem_of_getElem? (i := 30) rfl))) (by decide) (t := .int) (t' := .int) (by decide) (by decide)))
      have f252 := Fld.other W245 u6 (Or.inr (slot_ne (Or.inl (hw _ (List.mem_of_getElem? (i := 20) rfl))) (Or.inl (hw _ (List.mem_of_getElem? (i := 30) rfl))) (by decide) (t := .int) (t' := .int) (by decide) (by decide)))
      have f253 := Fld.other W245 u7 (Or.inr (slot_ne (Or.inl (hw _ (List.mem_of_getElem? (i := 22) rfl))) (Or.inl (hw _ (List.mem_of_getElem? (i := 30) rfl))) (by decide) (t := .boolean) (t' := .int) (by decide) (by decide)))
      have f254 := Fld.other W245 u8 (Or.inr (slot_ne (Or.inl (hw _ (List.mem_of_getElem? (i := 24) rfl))) (Or.inl (hw _ (List.mem_of_getElem? (i := 30) rfl))) (by decide) (t := .int) (t' := .int) (by decide) (by decide)))
      have f255 := Fld.other W245 u9 (Or.inr (slot_ne (Or.inl (hw _ (List.mem_of_getElem? (i := 26) rfl))) (Or.inl (hw _ (List.mem_of_getElem? (i := 30) rfl))) (by decide) (t := .int) (t' := .int) (by decide) (by decide)))
      have f256 := Fld.other W245 u10 (Or.inr (slot_ne (Or.inl (hw _ (List.mem_of_getElem? (i := 28) rfl))) (Or.inl (hw _ (List.mem_of_getElem? (i := 30) rfl))) (by decide) (t := .int) (t' := .int) (by decide) (by decide)))
      have f257 := Fld.same W245 u11
      have f258 := Fld.other W245 u12 (Or.inr (slot_ne (Or.inl (hw _ (List.mem_of_getElem? (i := 36) rfl))) (Or.inl (hw _ (List.mem_of_getElem? (i := 30) rfl))) (by decide) (t := .int) (t' := .int) (by decide) (by decide)))
      have f259 := Fld.other W245 u13 (Or.inr (slot_ne (Or.inl (hw _ (List.mem_of_getElem? (i := 42) rfl))) (Or.inl (hw _ (List.mem_of_getElem? (i := 30) rfl))) (by decide) (t := .int) (t' := .int) (by decide) (by decide)))
      have f260 := Fld.other W245 u14 (Or.inr (slot_ne (Or.inl (hw _ (List.mem_of_getElem? (i := 44) rfl))) (Or.inl (hw _ (List.mem_of_getElem? (i := 30) rfl))) (by decide) (t := .boolean) (t' := .int) (by decide) (by decide)))
      exact l163 _ (((en - dg) - (0 : Int32))) ng dg en pt (0 : Int32) la ex ne T245 h245 _ X245 e245 N245 f246 f247 f248 f249 f250 f251 f252 f253 f254 f255 f256 f257 f258 f259 f260 hR y0 y1 (own_dn1 dg en off ln pt ho hl hs y0 y1 y2 y3 c147_244) (own_dn2 dg en off ln pt ho hl hs y0 y1 y2 y3 c147_244) ⟨by decide, (own_dn1 dg en off ln pt ho hl hs y0 y1 y2 y3 c147_244).1⟩ rfl
    · skip
      refine own_by (T' := T243) (g' := (mkF m 154 #[.val (.ref a), .val (.ref tx), .val (.int off), .val (.int ln), .unset] [(.int (en - dg))])) (fun t_ k_ => XS.ifYes X243.here hx rfl (pc0 := 147) (pc' := 154) rfl (hb hby own_d_read_147) rfl ((if0 _ _).trans (flt (c147_244 : ¬ (pt < (0 : Int32)))).2.1) (by decide) (by decide) k_) ?_
      refine own_by (T' := T243) (g' := (mkF m 155 #[.val (.ref a), .val (.ref tx), .val (.int off), .val (.int ln), .unset] [(.int (1 : Int32)), (.int (en - dg))])) (fun t_ k_ => XS.iconst X243.here hx rfl (hb hby own_d_read_154) k_) ?_
      refine own_by (T' := T243) (g' := (mkF m 156 #[.val (.ref a), .val (.ref tx), .val (.int off), .val (.int ln), .unset] [(.int ((en - dg) - (1 : Int32)))])) (fun t_ k_ => XS.isub X243.here hx rfl (hb hby own_d_read_155) rfl k_) ?_
      refine own_by (T' := T243) (g' := (mkF m 158 #[.val (.ref a), .val (.ref tx), .val (.int off), .val (.int ln), .val (.int ((en - dg) - (1 : Int32)))] [])) (fun t_ k_ => XS.istore X243.here hx rfl (hb hby own_d_read_156) rfl (l' := #[.val (.ref a), .val (.ref tx), .val (.int off), .val (.int ln), .val (.int ((en - dg) - (1 : Int32)))]) rfl k_) ?_
      refine own_by (T' := T243) (g' := (mkF m 159 #[.val (.ref a), .val (.ref tx), .val (.int off), .val (.int ln), .val (.int ((en - dg) - (1 : Int32)))] [(.ref a)])) (fun t_ k_ => XS.aloadN X243.here hx rfl (hb hby own_d_read_158) rfl rfl k_) ?_
      refine own_by (T' := T243) (g' := (mkF m 160 #[.val (.ref a), .val (.ref tx), .val (.int off), .val (.int ln), .val (.int ((en - dg) - (1 : Int32)))] [(.int (0 : Int32)), (.ref a)])) (fun t_ k_ => XS.iconst X243.here hx rfl (hb hby own_d_read_159) k_) ?_
      obtain ⟨T261, h261, X261, e261, W261, st261⟩ := putF X243 hx hZ hown (host := "") (Or.inl (hw _ (List.mem_of_getElem? (i := 29) rfl))) Via.refl e243 u11 u2 (Or.inl (hw _ (List.mem_of_getElem? (i := 30) rfl))) (hw _ (List.mem_of_getElem? (i := 2) rfl)) (ty := .int) (by decide) rfl rfl (g := (mkF m 160 #[.val (.ref a), .val (.ref tx), .val (.int off), .val (.int ln), .val (.int ((en - dg) - (1 : Int32)))] [(.int (0 : Int32)), (.ref a)])) rfl rfl (hb hby own_d_read_160)
      refine own_by (T' := T261) (g' := (mkF m 163 #[.val (.ref a), .val (.ref tx), .val (.int off), .val (.int ln), .val (.int ((en - dg) - (1 : Int32)))] [])) st261 ?_
      have N261 := Fr.snoc X261 N1 G0
      have f262 := Nat.le_trans u0 (Keep.of_wr W261).1
      have f263 := Keep.wr u1 W261 (Or.inl (List.mem_of_getElem? (i := 0) rfl))
      have f264 := Exa.wr W261 u2
      have f265 := own_Ia_other W261 u3 n1
      have f266 := Fld.other W261 u4 (Or.inr (slot_ne (Or.inl (hw _ (List.mem_of_getElem? (i := 16) rfl))) (Or.inl (hw _ (List.mem_of_getElem? (i := 30) rfl))) (by decide) (t := (.array .char)) (t' := .int) (by decide) (by decide)))
      have f267 := Fld.other W261 u5 (Or.inr (slot_ne (Or.inl (hw _ (List.mem_of_getElem? (i := 18) rfl))) (Or.inl (hw _ (List.mem_of_getElem? (i := 30) rfl))) (by decide) (t := .int) (t' := .int) (by decide) (by decide)))
      have f268 := Fld.other W261 u6 (Or.inr (slot_ne (Or.inl (hw _ (List.mem_of_getElem? (i := 20) rfl))) (Or.inl (hw _ (List.mem_of_getElem? (i := 30) rfl))) (by decide) (t := .int) (t' := .int) (by decide) (by decide)))
      have f269 := Fld.other W261 u7 (Or.inr (slot_ne (Or.inl (hw _ (List.mem_of_getElem? (i := 22) rfl))) (Or.inl (hw _ (List.mem_of_getElem? (i := 30) rfl))) (by decide) (t := .boolean) (t' := .int) (by decide) (by decide)))
      have f270 := Fld.other W261 u8 (Or.inr (slot_ne (Or.inl (hw _ (List.mem_of_getElem? (i := 24) rfl))) (Or.inl (hw _ (List.mem_of_getElem? (i := 30) rfl))) (by decide) (t := .int) (t' := .int) (by decide) (by decide)))
      have f271 := Fld.other W261 u9 (Or.inr (slot_ne (Or.inl (hw _ (List.mem_of_getElem? (i := 26) rfl))) (Or.inl (hw _ (List.mem_of_getElem? (i := 30) rfl))) (by decide) (t := .int) (t' := .int) (by decide) (by decide)))
      have f272 := Fld.other W261 u10 (Or.inr (slot_ne (Or.inl (hw _ (List.mem_of_getElem? (i := 28) rfl))) (Or.inl (hw _ (List.mem_of_getElem? (i := 30) rfl))) (by decide) (t := .int) (t' := .int) (by decide) (by decide)))
      have f273 := Fld.same W261 u11
      have f274 := Fld.other W261 u12 (Or.inr (slot_ne (Or.inl (hw _ (List.mem_of_getElem? (i := 36) rfl))) (Or.inl (hw _ (List.mem_of_getElem? (i := 30) rfl))) (by decide) (t := .int) (t' := .int) (by decide) (by decide)))
      have f275 := Fld.other W261 u13 (Or.inr (slot_ne (Or.inl (hw _ (List.mem_of_getElem? (i := 42) rfl))) (Or.inl (hw _ (List.mem_of_getElem? (i := 30) rfl))) (by decide) (t := .int) (t' := .int) (by decide) (by decide)))
      have f276 := Fld.other W261 u14 (Or.inr (slot_ne (Or.inl (hw _ (List.mem_of_getElem? (i := 44) rfl))) (Or.inl (hw _ (List.mem_of_getElem? (i := 30) rfl))) (by decide) (t := .boolean) (t' := .int) (by decide) (by decide)))
      exact l163 _ (((en - dg) - (1 : Int32))) ng dg en pt (0 : Int32) la ex ne T261 h261 _ X261 e261 N261 f262 f263 f264 f265 f266 f267 f268 f269 f270 f271 f272 f273 f274 f275 f276 hR y0 y1 (own_dp1 dg en off ln pt ho hl hs y0 y1 y2 y3 c147_244) (own_dp2 dg en off ln pt ho hl hs y0 y1 y2 y3 c147_244) ⟨by decide, (own_dp1 dg en off ln pt ho hl hs y0 y1 y2 y3 c147_244).1⟩ rfl
  have l69 : ∀ (kk : Nat) (ng : Int32) (dg : Int32) (en : Int32) (pt : Int32) (fi : Int32) (la : Int32) (ex : Int32) (ne : Int32) (T1 : State) (hh : Heap) (lo : List Loc), Stand p l e ({ frames := 1, cells := 0, slots := 0, locals := 14 } : Room) s m #[(.ref a), (.ref tx), (.int off), (.int ln)] below meth c T1 lo 0 0 → T1.heap = hh → Fr n0 lo → n0 ≤ hh.size → Keep h0 hh [a] → Exa Z hh a "com/example/enumconv/enumconv/core/Decimal$Reading" → own_Ia Z hh tx .char 5 f → Fld Z hh a "com/example/enumconv/enumconv/core/Decimal$Reading" "text" "[C" (.ref tx) → Fld Z hh a "com/example/enumconv/enumconv/core/Decimal$Reading" "start" "I" (.int off) → Fld Z hh a "com/example/enumconv/enumconv/core/Decimal$Reading" "stop" "I" (.int (off + ln)) → Fld Z hh a "com/example/enumconv/enumconv/core/Decimal$Reading" "negative" "Z" (.int ng) → Fld Z hh a "com/example/enumconv/enumconv/core/Decimal$Reading" "digitsAt" "I" (.int dg) → Fld Z hh a "com/example/enumconv/enumconv/core/Decimal$Reading" "end" "I" (.int en) → Fld Z hh a "com/example/enumconv/enumconv/core/Decimal$Reading" "point" "I" (.int pt) → Fld Z hh a "com/example/enumconv/enumconv/core/Decimal$Reading" "first" "I" (.int fi) → Fld Z hh a "com/example/enumconv/enumconv/core/Decimal$Reading" "last" "I" (.int la) → Fld Z hh a "com/example/enumconv/enumconv/core/Decimal$Reading" "exponentAt" "I" (.int ex) → Fld Z hh a "com/example/enumconv/enumconv/core/Decimal$Reading" "negativeExponent" "Z" (.int ne) → (0 ≤ dg.toInt) → (off.toInt ≤ en.toInt ∧ en.toInt ≤ off.toInt + ln.toInt) → (dg.toInt ≤ en.toInt) → (0 ≤ pt.toInt → dg.toInt ≤ pt.toInt ∧ pt.toInt < en.toInt) → (own_J f off en pt) → ((off.toInt + ln.toInt - en.toInt).toNat = kk) → own_Goes p e below (own_K (own_Q_read Z a tx off ln f u_text u_start u_stop u_negative u_digitsAt u_end u_point u_first u_last u_exponentAt u_negativeExponent h0 n0) s ({ frames := 1, cells := 0, slots := 0, locals := 14 } : Room).cells ({ frames := 1, cells := 0, slots := 0, locals := 14 } : Room).slots) T1 (mkF m 69 #[.val (.ref a), .val (.ref tx), .val (.int off), .val (.int ln), .unset] []) := by
    intro kk
    induction kk with
      | zero =>
        intro ng dg en pt fi la ex ne T1 hh lo X1 e1 N1 u0 u1 u2 u3 u4 u5 u6 u7 u8 u9 u10 u11 u12 u13 u14 y0 y1 y2 y3 hJ y4
        refine own_by (T' := T1) (g' := (mkF m 70 #[.val (.ref a), .val (.ref tx), .val (.int off), .val (.int ln), .unset] [(.ref a)])) (fun t_ k_ => XS.aloadN X1.here hx rfl (hb hby own_d_read_69) rfl rfl k_) ?_
        obtain ⟨T277, X277, e277, st277⟩ := getF X1 hx hZ hown (host := "") (Or.inl (hw _ (List.mem_of_getElem? (i := 25) rfl))) Via.refl e1 u9 (g := (mkF m 70 #[.val (.ref a), .val (.ref tx), .val (.int off), .val (.int ln), .unset] [(.ref a)])) rfl rfl (hb hby own_d_read_70)
        refine own_by (T' := T277) (g' := (mkF m 73 #[.val (.ref a), .val (.ref tx), .val (.int off), .val (.int ln), .unset] [(.int en)])) st277 ?_
        refine own_by (T' := T277) (g' := (mkF m 74 #[.val (.ref a), .val (.ref tx), .val (.int off), .val (.int ln), .unset] [(.ref a), (.int en)])) (fun t_ k_ => XS.aloadN X277.here hx rfl (hb hby own_d_read_73) rfl rfl k_) ?_
        obtain ⟨T278, X278, e278, st278⟩ := getF X277 hx hZ hown (host := "") (Or.inl (hw _ (List.mem_of_getElem? (i := 19) rfl))) Via.refl e277 u6 (g := (mkF m 74 #[.val (.ref a), .val (.ref tx), .val (.int off), .val (.int ln), .unset] [(.ref a), (.int en)])) rfl rfl (hb hby own_d_read_74)
        refine own_by (T' := T278) (g' := (mkF m 77 #[.val (.ref a), .val (.ref tx), .val (.int off), .val (.int ln), .unset] [(.int (off + ln)), (.int en)])) st278 ?_
        refine own_by (T' := T278) (g' := (mkF m 134 #[.val (.ref a), .val (.ref tx), .val (.int off), .val (.int ln), .unset] [])) (fun t_ k_ => XS.icmpYes X278.here hx rfl (pc0 := 77) (pc' := 134) rfl (hb hby own_d_read_77) rfl (flt ((own_ge3 off ln en ho hl hs y4) : ¬ (en < (off + ln)))).2.1 (by decide) (by decide) k_) ?_
        exact m134 ng dg en pt fi la ex ne T278 hh _ X278 e278 N1 u0 u1 u2 u3 u4 u5 u6 u7 u8 u9 u10 u11 u12 u13 u14 (own_Rs off ln en pt f ho hl hs y1 y4 hJ) y0 ⟨Int.le_trans ho y1.1, y1.2⟩ y2 y3
      | succ kk ih =>
        intro ng dg en pt fi la ex ne T1 hh lo X1 e1 N1 u0 u1 u2 u3 u4 u5 u6 u7 u8 u9 u10 u11 u12 u13 u14 y0 y1 y2 y3 hJ y4
        refine own_by (T' := T1) (g' := (mkF m 70 #[.val (.ref a), .val (.ref tx), .val (.int off), .val (.int ln), .unset] [(.ref a)])) (fun t_ k_ => XS.aloadN X1.here hx rfl (hb hby own_d_read_69) rfl rfl k_) ?_
        obtain ⟨T279, X279, e279, st279⟩ := getF X1 hx hZ hown (host := "") (Or.inl (hw _ (List.mem_of_getElem? (i := 25) rfl))) Via.refl e1 u9 (g := (mkF m 70 #[.val (.ref a), .val (.ref tx), .val (.int off), .val (.int ln), .unset] [(.ref a)])) rfl rfl (hb hby own_d_read_70)
        refine own_by (T' := T279) (g' := (mkF m 73 #[.val (.ref a), .val (.ref tx), .val (.int off), .val (.int ln), .unset] [(.int en)])) st279 ?_
        refine own_by (T' := T279) (g' := (mkF m 74 #[.val (.ref a), .val (.ref tx), .val (.int off), .val (.int ln), .unset] [(.ref a), (.int en)])) (fun t_ k_ => XS.aloadN X279.here hx rfl (hb hby own_d_read_73) rfl rfl k_) ?_
        obtain ⟨T280, X280, e280, st280⟩ := getF X279 hx hZ hown (host := "") (Or.inl (hw _ (List.mem_of_getElem? (i := 19) rfl))) Via.refl e279 u6 (g := (mkF m 74 #[.val (.ref a), .val (.ref tx), .val (.int off), .val (.int ln), .unset] [(.ref a), (.int en)])) rfl rfl (hb hby own_d_read_74)
        refine own_by (T' := T280) (g' := (mkF m 77 #[.val (.ref a), .val (.ref tx), .val (.int off), .val (.int ln), .unset] [(.int (off + ln)), (.int en)])) st280 ?_
        refine own_by (T' := T280) (g' := (mkF m 80 #[.val (.ref a), .val (.ref tx), .val (.int off), .val (.int ln), .unset] [])) (fun t_ k_ => XS.icmpNo X280.here hx rfl (hb hby own_d_read_77) rfl (tlt ((own_lt4 off ln en kk ho hl hs y4) : en < (off + ln))).2.1 k_) ?_
        refine own_by (T' := T280) (g' := (mkF m 81 #[.val (.ref a), .val (.ref tx), .val (.int off), .val (.int ln), .unset] [(.ref tx)])) (fun t_ k_ => XS.aloadN X280.here hx rfl (hb hby own_d_read_80) rfl rfl k_) ?_
        refine own_by (T' := T280) (g' := (mkF m 82 #[.val (.ref a), .val (.ref tx), .val (.int off), .val (.int ln), .unset] [(.ref a), (.ref tx)])) (fun t_ k_ => XS.aloadN X280.here hx rfl (hb hby own_d_read_81) rfl rfl k_) ?_
        obtain ⟨T281, X281, e281, st281⟩ := getF X280 hx hZ hown (host := "") (Or.inl (hw _ (List.mem_of_getElem? (i := 25) rfl))) Via.refl e280 u9 (g := (mkF m 82 #[.val (.ref a), .val (.ref tx), .val (.int off), .val (.int ln), .unset] [(.ref a), (.ref tx)])) rfl rfl (hb hby own_d_read_82)
        refine own_by (T' := T281) (g' := (mkF m 85 #[.val (.ref a), .val (.ref tx), .val (.int off), .val (.int ln), .unset] [(.int en), (.ref tx)])) st281 ?_
        refine own_by (T' := T281) (g' := (mkF m 86 #[.val (.ref a), .val (.ref tx), .val (.int off), .val (.int ln), .unset] [(.int (f en.toNatClampNeg))])) (fun t_ k_ => own_cal X281 hx hZ e281 u3 (j := en) (own_ix off ln en ho hl hs (Int.le_trans ho y1.1) (own_lt3 off ln en kk y4)).1 (own_ix off ln en ho hl hs (Int.le_trans ho y1.1) (own_lt3 off ln en kk y4)).2 (g := (mkF m 85 #[.val (.ref a), .val (.ref tx), .val (.int off), .val (.int ln), .unset] [(.int en), (.ref tx)])) rfl rfl (hb hby own_d_read_85) _ k_) ?_
        refine own_by (T' := T281) (g' := (mkF m 88 #[.val (.ref a), .val (.ref tx), .val (.int off), .val (.int ln), .unset] [(.int (101 : Int32)), (.int (f en.toNatClampNeg))])) (fun t_ k_ => XS.bipush X281.here hx rfl (hb hby own_d_read_86) k_) ?_
        by_cases c88_282 : (f en.toNatClampNeg) = (101 : Int32)
        · skip
          refine own_by (T' := T281) (g' := (mkF m 134 #[.val (.ref a), .val (.ref tx), .val (.int off), .val (.int ln), .unset] [])) (fun t_ k_ => XS.icmpYes X281.here hx rfl (pc0 := 88) (pc' := 134) rfl (hb hby own_d_read_88) rfl (teq (c88_282 : (f en.toNatClampNeg) = (101 : Int32))).1 (by decide) (by decide) k_) ?_
          exact m134 ng dg en pt fi la ex ne T281 hh _ X281 e281 N1 u0 u1 u2 u3 u4 u5 u6 u7 u8 u9 u10 u11 u12 u13 u14 (own_Re off ln en pt f ho hl hs y1 (own_lt3 off ln en kk y4) (Or.inl c88_282)) y0 ⟨Int.le_trans ho y1.1, y1.2⟩ y2 y3
        · skip
          refine own_by (T' := T281) (g' := (mkF m 91 #[.val (.ref a), .val (.ref tx), .val (.int off), .val (.int ln), .unset] [])) (fun t_ k_ => XS.icmpNo X281.here hx rfl (hb hby own_d_read_88) rfl (feq (c88_282 : ¬ ((f en.toNatClampNeg) = (101 : Int32)))).1 k_) ?_
          refine own_by (T' := T281) (g' := (mkF m 92 #[.val (.ref a), .val (.ref tx), .val (.int off), .val (.int ln), .unset] [(.ref tx)])) (fun t_ k_ => XS.aloadN X281.here hx rfl (hb hby own_d_read_91) rfl rfl k_) ?_
          refine own_by (T' := T281) (g' := (mkF m 93 #[.val (.ref a), .val (.ref tx), .val (.int off), .val (.int ln), .unset] [(.ref a), (.ref tx)])) (fun t_ k_ => XS.aloadN X281.here hx rfl (hb hby own_d_read_92) rfl rfl k_) ?_
          obtain ⟨T283, X283, e283, st283⟩ := getF X281 hx hZ hown (host := "") (Or.inl (hw _ (List.mem_of_getElem? (i := 25) rfl))) Via.refl e281 u9 (g := (mkF m 93 #[.val (.ref a), .val (.ref tx), .val (.int off), .val (.int ln), .unset] [(.ref a), (.ref tx)])) rfl rfl (hb hby own_d_read_93)
          refine own_by (T' := T283) (g' := (mkF m 96 #[.val (.ref a), .val (.ref tx), .val (.int off), .val (.int ln), .unset] [(.int en), (.ref tx)])) st283 ?_
          refine own_by (T' := T283) (g' := (mkF m 97 #[.val (.ref a), .val (.ref tx), .val (.int off), .val (.int ln), .unset] [(.int (f en.toNatClampNeg))])) (fun t_ k_ => own_cal X283 hx hZ e283 u3 (j := en) (own_ix off ln en ho hl hs (Int.le_trans ho y1.1) (own_lt3 off ln en kk y4)).1 (own_ix off ln en ho hl hs (Int.le_trans ho y1.1) (own_lt3 off ln en kk y4)).2 (g := (mkF m 96 #[.val (.ref a), .val (.ref tx), .val (.int off), .val (.int ln), .unset] [(.int en), (.ref tx)])) rfl rfl (hb hby own_d_read_96) _ k_) ?_
          refine own_by (T' := T283) (g' := (mkF m 99 #[.val (.ref a), .val (.ref tx), .val (.int off), .val (.int ln), .unset] [(.int (69 : Int32)), (.int (f en.toNatClampNeg))])) (fun t_ k_ => XS.bipush X283.here hx rfl (hb hby own_d_read_97) k_) ?_
          by_cases c99_284 : (f en.toNatClampNeg) = (69 : Int32)
          · skip
            refine own_by (T' := T283) (g' := (mkF m 134 #[.val (.ref a), .val (.ref tx), .val (.int off), .val (.int ln), .unset] [])) (fun t_ k_ => XS.icmpYes X283.here hx rfl (pc0 := 99) (pc' := 134) rfl (hb hby own_d_read_99) rfl (teq (c99_284 : (f en.toNatClampNeg) = (69 : Int32))).1 (by decide) (by decide) k_) ?_
            exact m134 ng dg en pt fi la ex ne T283 hh _ X283 e283 N1 u0 u1 u2 u3 u4 u5 u6 u7 u8 u9 u10 u11 u12 u13 u14 (own_Re off ln en pt f ho hl hs y1 (own_lt3 off ln en kk y4) (Or.inr c99_284)) y0 ⟨Int.le_trans ho y1.1, y1.2⟩ y2 y3
          · skip
            refine own_by (T' := T283) (g' := (mkF m 102 #[.val (.ref a), .val (.ref tx), .val (.int off), .val (.int ln), .unset] [])) (fun t_ k_ => XS.icmpNo X283.here hx rfl (hb hby own_d_read_99) rfl (feq (c99_284 : ¬ ((f en.toNatClampNeg) = (69 : Int32)))).1 k_) ?_
            refine own_by (T' := T283) (g' := (mkF m 103 #[.val (.ref a), .val (.ref tx), .val (.int off), .val (.int ln), .unset] [(.ref tx)])) (fun t_ k_ => XS.aloadN X283.here hx rfl (hb hby own_d_read_102) rfl rfl k_) ?_
            refine own_by (T' := T283) (g' := (mkF m 104 #[.val (.ref a), .val (.ref tx), .val (.int off), .val (.int ln), .unset] [(.ref a), (.ref tx)])) (fun t_ k_ => XS.aloadN X283.here hx rfl (hb hby own_d_read_103) rfl rfl k_) ?_
            obtain ⟨T285, X285, e285, st285⟩ := getF X283 hx hZ hown (host := "") (Or.inl (hw _ (List.mem_of_getElem? (i := 25) rfl))) Via.refl e283 u9 (g := (mkF m 104 #[.val (.ref a), .val (.ref tx), .val (.int off), .val (.int ln), .unset] [(.ref a), (.ref tx)])) rfl rfl (hb hby own_d_read_104)
            refine own_by (T' := T285) (g' := (mkF m 107 #[.val (.ref a), .val (.ref tx), .val (.int off), .val (.int ln), .unset] [(.int en), (.ref tx)])) st285 ?_
            refine own_by (T' := T285) (g' := (mkF m 108 #[.val (.ref a), .val (.ref tx), .val (.int off), .val (.int ln), .unset] [(.int (f en.toNatClampNeg))])) (fun t_ k_ => own_cal X285 hx hZ e285 u3 (j := en) (own_ix off ln en ho hl hs (Int.le_trans ho y1.1) (own_lt3 off ln en kk y4)).1 (own_ix off ln en ho hl hs (Int.le_trans ho y1.1) (own_lt3 off ln en kk y4)).2 (g := (mkF m 107 #[.val (.ref a), .val (.ref tx), .val (.int off), .val (.int ln), .unset] [(.int en), (.ref tx)])) rfl rfl (hb hby own_d_read_107) _ k_) ?_
            refine own_by (T' := T285) (g' := (mkF m 110 #[.val (.ref a), .val (.ref tx), .val (.int off), .val (.int ln), .unset] [(.int (46 : Int32)), (.int (f en.toNatClampNeg))])) (fun t_ k_ => XS.bipush X285.here hx rfl (hb hby own_d_read_108) k_) ?_
            by_cases c110_286 : (f en.toNatClampNeg) = (46 : Int32)
            · skip
              refine own_by (T' := T285) (g' := (mkF m 113 #[.val (.ref a), .val (.ref tx), .val (.int off), .val (.int ln), .unset] [])) (fun t_ k_ => XS.icmpNo X285.here hx rfl (hb hby own_d_read_110) rfl (teq (c110_286 : (f en.toNatClampNeg) = (46 : Int32))).2 k_) ?_
              refine own_by (T' := T285) (g' := (mkF m 114 #[.val (.ref a), .val (.ref tx), .val (.int off), .val (.int ln), .unset] [(.ref a)])) (fun t_ k_ => XS.aloadN X285.here hx rfl (hb hby own_d_read_113) rfl rfl k_) ?_
              refine own_by (T' := T285) (g' := (mkF m 115 #[.val (.ref a), .val (.ref tx), .val (.int off), .val (.int ln), .unset] [(.ref a), (.ref a)])) (fun t_ k_ => XS.aloadN X285.here hx rfl (hb hby own_d_read_114) rfl rfl k_) ?_
              obtain ⟨T287, X287, e287, st287⟩ := getF X285 hx hZ hown (host := "") (Or.inl (hw _ (List.mem_of_getElem? (i := 25) rfl))) Via.refl e285 u9 (g := (mkF m 115 #[.val (.ref a), .val (.ref tx), .val (.int off), .val (.int ln), .unset] [(.ref a), (.ref a)])) rfl rfl (hb hby own_d_read_115)
              refine own_by (T' := T287) (g' := (mkF m 118 #[.val (.ref a), .val (.ref tx), .val (.int off), .val (.int ln), .unset] [(.int en), (.ref a)])) st287 ?_
              obtain ⟨T288, h288, X288, e288, W288, st288⟩ := putF X287 hx hZ hown (host := "") (Or.inl (hw _ (List.mem_of_getElem? (i := 27) rfl))) Via.refl e287 u10 u2 (Or.inl (hw _ (List.mem_of_getElem? (i := 28) rfl))) (hw _ (List.mem_of_getElem? (i := 2) rfl)) (ty := .int) (by decide) rfl rfl (g := (mkF m 118 #[.val (.ref a), .val (.ref tx), .val (.int off), .val (.int ln), .unset] [(.int en), (.ref a)])) rfl rfl (hb hby own_d_read_118)
              refine own_by (T' := T288) (g' := (mkF m 121 #[.val (.ref a), .val (.ref tx), .val (.int off), .val (.int ln), .unset] [])) st288 ?_
              have N288 := Fr.snoc X288 N1 G0
              have f289 := Nat.le_trans u0 (Keep.of_wr W288).1
              have f290 := Keep.wr u1 W288 (Or.inl (List.mem_of_getElem? (i := 0) rfl))
              have f291 := Exa.wr W288 u2
              have f292 := own_Ia_other W288 u3 n1
              have f293 := Fld.other W288 u4 (Or.inr (slot_ne (Or.inl (hw _ (List.mem_of_getElem? (i := 16) rfl))) (Or.inl (hw _ (List.mem_of_getElem? (i := 28) rfl))) (by decide) (t := (.array .char)) (t' := .int) (by decide) (by decide)))
              have f294 := Fld.other W288 u5 (Or.inr (slot_ne (Or.inl (hw _ (List.mem_of_getElem? (i := 18) rfl))) (Or.inl (hw _ (List.mem_of_getElem? (i := 28) rfl))) (by decide) (t := .int) (t' := .int) (by decide) (by decide)))
              have f295 := Fld.other W288 u6 (Or.inr (slot_ne (Or.inl (hw _ (List.mem_of_getElem? (i := 20) rfl))) (Or.inl (hw _ (List.mem_of_getElem? (i := 28) rfl))) (by decide) (t := .int) (t' := .int) (by decide) (by decide)))
              have f296 := Fld.other W288 u7 (Or.inr (slot_ne (Or.inl (hw _ (List.mem_of_getElem? (i := 22) rfl))) (Or.inl (hw _ (List.mem_of_getElem? (i := 28) rfl))) (by decide) (t := .boolean) (t' := .int) (by decide) (by decide)))
              have f297 := Fld.other W288 u8 (Or.inr (slot_ne (Or.inl (hw _ (List.mem_of_getElem? (i := 24) rfl))) (Or.inl (hw _ (List.mem_of_getElem? (i := 28) rfl))) (by decide) (t := .int) (t' := .int) (by decide) (by decide)))
              have f298 := Fld.other W288 u9 (Or.inr (slot_ne (Or.inl (hw _ (List.mem_of_getElem? (i := 26) rfl))) (Or.inl (hw _ (List.mem_of_getElem? (i := 28) rfl))) (by decide) (t := .int) (t' := .int) (by decide) (by decide)))
              have f299 := Fld.same W288 u10
              have f300 := Fld.other W288 u11 (Or.inr (slot_ne (Or.inl (hw _ (List.mem_of_getElem? (i := 30) rfl))) (Or.inl (hw _ (List.mem_of_getElem? (i := 28) rfl))) (by decide) (t := .int) (t' := .int) (by decide) (by decide)))
              have f301 := Fld.other W288 u12 (Or.inr (slot_ne (Or.inl (hw _ (List.mem_of_getElem? (i := 36) rfl))) (Or.inl (hw _ (List.mem_of_getElem? (i := 28) rfl))) (by decide) (t := .int) (t' := .int) (by decide) (by decide)))
              have f302 := Fld.other W288 u13 (Or.inr (slot_ne (Or.inl (hw _ (List.mem_of_getElem? (i := 42) rfl))) (Or.inl (hw _ (List.mem_of_getElem? (i := 28) rfl))) (by decide) (t := .int) (t' := .int) (by decide) (by decide)))
              have f303 := Fld.other W288 u14 (Or.inr (slot_ne (Or.inl (hw _ (List.mem_of_getElem? (i := 44) rfl))) (Or.inl (hw _ (List.mem_of_getElem? (i := 28) rfl))) (by decide) (t := .boolean) (t' := .int) (by decide) (by decide)))
              refine own_by (T' := T288) (g' := (mkF m 122 #[.val (.ref a), .val (.ref tx), .val (.int off), .val (.int ln), .unset] [(.ref a)])) (fun t_ k_ => XS.aloadN X288.here hx rfl (hb hby own_d_read_121) rfl rfl k_) ?_
              refine own_by (T' := T288) (g' := (mkF m 123 #[.val (.ref a), .val (.ref tx), .val (.int off), .val (.int ln), .unset] [(.ref a), (.ref a)])) (fun t_ k_ => XS.dup X288.here hx rfl (hb hby own_d_read_122) rfl rfl k_) ?_
              obtain ⟨T304, X304, e304, st304⟩ := getF X288 hx hZ hown (host := "") (Or.inl (hw _ (List.mem_of_getElem? (i := 25) rfl))) Via.refl e288 f298 (g := (mkF m 123 #[.val (.ref a), .val (.ref tx), .val (.int off), .val (.int ln), .unset] [(.ref a), (.ref a)])) rfl rfl (hb hby own_d_read_123)
              refine own_by (T' := T304) (g' := (mkF m 126 #[.val (.ref a), .val (.ref tx), .val (.int off), .val (.int ln), .unset] [(.int en), (.ref a)])) st304 ?_
              refine own_by (T' := T304) (g' := (mkF m 127 #[.val (.ref a), .val (.ref tx), .val (.int off), .val (.int ln), .unset] [(.int (1 : Int32)), (.int en), (.ref a)])) (fun t_ k_ => XS.iconst X304.here hx rfl (hb hby own_d_read_126) k_) ?_
              refine own_by (T' := T304) (g' := (mkF m 128 #[.val (.ref a), .val (.ref tx), .val (.int off), .val (.int ln), .unset] [(.int (en + (1 : Int32))), (.ref a)])) (fun t_ k_ => XS.iadd X304.here hx rfl (hb hby own_d_read_127) rfl k_) ?_
              obtain ⟨T305, h305, X305, e305, W305, st305⟩ := putF X304 hx hZ hown (host := "") (Or.inl (hw _ (List.mem_of_getElem? (i := 25) rfl))) Via.refl e304 f298 f291 (Or.inl (hw _ (List.mem_of_getElem? (i := 26) rfl))) (hw _ (List.mem_of_getElem? (i := 2) rfl)) (ty := .int) (by decide) rfl rfl (g := (mkF m 128 #[.val (.ref a), .val (.ref tx), .val (.int off), .val (.int ln), .unset] [(.int (en + (1 : Int32))), (.ref a)])) rfl rfl (hb hby own_d_read_128)
              refine own_by (T' := T305) (g' := (mkF m 131 #[.val (.ref a), .val (.ref tx), .val (.int off), .val (.int ln), .unset] [])) st305 ?_
              have N305 := Fr.snoc X305 N288 G0
              have f306 := Nat.le_trans f289 (Keep.of_wr W305).1
              have f307 := Keep.wr f290 W305 (Or.inl (List.mem_of_getElem? (i := 0) rfl))
              have f308 := Exa.wr W305 f291
              have f309 := own_Ia_other W305 f292 n1
              have f310 := Fld.other W305 f293 (Or.inr (slot_ne (Or.inl (hw _ (List.mem_of_getElem? (i := 16) rfl))) (Or.inl (hw _ (List.mem_of_getElem? (i := 26) rfl))) (by decide) (t := (.array .char)) (t' := .int) (by decide) (by decide)))
              have f311 := Fld.other W305 f294 (Or.inr (slot_ne (Or.inl (hw _ (List.mem_of_getElem? (i := 18) rfl))) (Or.inl (hw _ (List.mem_of_getElem? (i := 26) rfl))) (by decide) (t := .int) (t' := .int) (by decide) (by decide)))
              have f312 := Fld.other W305 f295 (Or.inr (slot_ne (Or.inl (hw _ (List.mem_of_getElem? (i := 20) rfl))) (Or.inl (hw _ (List.mem_of_getElem? (i := 26) rfl))) (by decide) (t := .int) (t' := .int) (by decide) (by decide)))
              have f313 := Fld.other W305 f296 (Or.inr (slot_ne (Or.inl (hw _ (List.mem_of_getElem? (i := 22) rfl))) (Or.inl (hw _ (List.mem_of_getElem? (i := 26) rfl))) (by decide) (t := .boolean) (t' := .int) (by decide) (by decide)))
              have f314 := Fld.other W305 f297 (Or.inr (slot_ne (Or.inl (hw _ (List.mem_of_getElem? (i := 24) rfl))) (Or.inl (hw _ (List.mem_of_getElem? (i := 26) rfl))) (by decide) (t := .int) (t' := .int) (by decide) (by decide)))
              have f315 := Fld.same W305 f298
              have f316 := Fld.other W305 f299 (Or.inr (slot_ne (Or.inl (hw _ (List.mem_of_getElem? (i := 28) rfl))) (Or.inl (hw _ (List.mem_of_getElem? (i := 26) rfl))) (by decide) (t := .int) (t' := .int) (by decide) (by decide)))
              have f317 := Fld.other W305 f300 (Or.inr (slot_ne (Or.inl (hw _ (List.mem_of_getElem? (i := 30) rfl))) (Or.inl (hw _ (List.mem_of_getElem? (i := 26) rfl))) (by decide) (t := .int) (t' := .int) (by decide) (by decide)))
              have f318 := Fld.other W305 f301 (Or.inr (slot_ne (Or.inl (hw _ (List.mem_of_getElem? (i := 36) rfl))) (Or.inl (hw _ (List.mem_of_getElem? (i := 26) rfl))) (by decide) (t := .int) (t' := .int) (by decide) (by decide)))
              have f319 := Fld.other W305 f302 (Or.inr (slot_ne (Or.inl (hw _ (List.mem_of_getElem? (i := 42) rfl))) (Or.inl (hw _ (List.mem_of_getElem? (i := 26) rfl))) (by decide) (t := .int) (t' := .int) (by decide) (by decide)))
              have f320 := Fld.other W305 f303 (Or.inr (slot_ne (Or.inl (hw _ (List.mem_of_getElem? (i := 44) rfl))) (Or.inl (hw _ (List.mem_of_getElem? (i := 26) rfl))) (by decide) (t := .boolean) (t' := .int) (by decide) (by decide)))
              refine own_by (T' := T305) (g' := (mkF m 69 #[.val (.ref a), .val (.ref tx), .val (.int off), .val (.int ln), .unset] [])) (fun t_ k_ => XS.goto X305.here hx rfl (pc0 := 131) (pc' := 69) rfl (hb hby own_d_read_131) (by decide) (by decide) k_) ?_
              exact ih ng dg (en + (1 : Int32)) en fi la ex ne T305 h305 _ X305 e305 N305 f306 f307 f308 f309 f310 f311 f312 f313 f314 f315 f316 f317 f318 f319 f320 y0 (own_n1 off ln en ho hl hs y1 (own_lt3 off ln en kk y4)) (own_n2 off ln en dg ho hl hs y1 y2 (own_lt3 off ln en kk y4)) (own_n3t off ln en dg pt ho hl hs y1 y2 y3 (own_lt3 off ln en kk y4)) (own_n4t off ln en pt f ho hl hs y1 (own_lt3 off ln en kk y4) hJ c88_282 c99_284 c110_286) (own_n5 off ln en kk ho hl hs y1 y4)
            · skip
              refine own_by (T' := T285) (g' := (mkF m 121 #[.val (.ref a), .val (.ref tx), .val (.int off), .val (.int ln), .unset] [])) (fun t_ k_ => XS.icmpYes X285.here hx rfl (pc0 := 110) (pc' := 121) rfl (hb hby own_d_read_110) rfl (feq (c110_286 : ¬ ((f en.toNatClampNeg) = (46 : Int32)))).2 (by decide) (by decide) k_) ?_
              refine own_by (T' := T285) (g' := (mkF m 122 #[.val (.ref a), .val (.ref tx), .val (.int off), .val (.int ln), .unset] [(.ref a)])) (fun t_ k_ => XS.aloadN X285.here hx rfl (hb hby own_d_read_121) rfl rfl k_) ?_
              refine own_by (T' := T285) (g' := (mkF m 123 #[.val (.ref a), .val (.ref tx), .val (.int off), .val (.int ln), .unset] [(.ref a), (.ref a)])) (fun t_ k_ => XS.dup X285.here hx rfl (hb hby own_d_read_122) rfl rfl k_) ?_
              obtain ⟨T321, X321, e321, st321⟩ := getF X285 hx hZ hown (host := "") (Or.inl (hw _ (List.mem_of_getElem? (i := 25) rfl))) Via.refl e285 u9 (g := (mkF m 123 #[.val (.ref a), .val (.ref tx), .val (.int off), .val (.int ln), .unset] [(.ref a), (.ref a)])) rfl rfl (hb hby own_d_read_123)
              refine own_by (T' := T321) (g' := (mkF m 126 #[.val (.ref a), .val (.ref tx), .val (.int off), .val (.int ln), .unset] [(.int en), (.ref a)])) st321 ?_
              refine own_by (T' := T321) (g' := (mkF m 127 #[.val (.ref a), .val (.ref tx), .val (.int off), .val (.int ln), .unset] [(.int (1 : Int32)), (.int en), (.ref a)])) (fun t_ k_ => XS.iconst X321.here hx rfl (hb hby own_d_read_126) k_) ?_
              refine own_by (T' := T321) (g' := (mkF m 128 #[.val (.ref a), .val (.ref tx), .val (.int off), .val (.int ln), .unset] [(.int (en + (1 : Int32))), (.ref a)])) (fun t_ k_ => XS.iadd X321.here hx rfl (hb hby own_d_read_127) rfl k_) ?_
              obtain ⟨T322, h322, X322, e322, W322, st322⟩ := putF X321 hx hZ hown (host := "") (Or.inl (hw _ (List.mem_of_getElem? (i := 25) rfl))) Via.refl e321 u9 u2 (Or.inl (hw _ (List.mem_of_getElem? (i := 26) rfl))) (hw _ (List.mem_of_getElem? (i := 2) rfl)) (ty := .int) (by decide) rfl rfl (g := (mkF m 128 #[.val (.ref a), .val (.ref tx), .val (.int off), .val (.int ln), .unset] [(.int (en + (1 : Int32))), (.ref a)])) rfl rfl (hb hby own_d_read_128)
              refine own_by (T' := T322) (g' := (mkF m 131 #[.val (.ref a), .val (.ref tx), .val (.int off), .val (.int ln), .unset] [])) st322 ?_
              have N322 := Fr.snoc X322 N1 G0
              have f323 := Nat.le_trans u0 (Keep.of_wr W322).1
              have f324 := Keep.wr u1 W322 (Or.inl (List.mem_of_getElem? (i := 0) rfl))
              have f325 := Exa.wr W322 u2
              have f326 := own_Ia_other W322 u3 n1
              have f327 := Fld.other W322 u4 (Or.inr (slot_ne (Or.inl (hw _ (List.mem_of_getElem? (i := 16) rfl))) (Or.inl (hw _ (List.mem_of_getElem? (i := 26) rfl))) (by decide) (t := (.array .char)) (t' := .int) (by decide) (by decide)))
              have f328 := Fld.other W322 u5 (Or.inr (slot_ne (Or.inl (hw _ (List.mem_of_getElem? (i := 18) rfl))) (Or.inl (hw _ (List.mem_of_getElem? (i := 26) rfl))) (by decide) (t := .int) (t' := .int) (by decide) (by decide)))
              have f329 := Fld.other W322 u6 (Or.inr (slot_ne (Or.inl (hw _ (List.mem_of_getElem? (i := 20) rfl))) (Or.inl (hw _ (List.mem_of_getElem? (i := 26) rfl))) (by decide) (t := .int) (t' := .int) (by decide) (by decide)))
              have f330 := Fld.other W322 u7 (Or.inr (slot_ne (Or.inl (hw _ (List.mem_of_getElem? (i := 22) rfl))) (Or.inl (hw _ (List.mem_of_getElem? (i := 26) rfl))) (by decide) (t := .boolean) (t' := .int) (by decide) (by decide)))
              have f331 := Fld.other W322 u8 (Or.inr (slot_ne (Or.inl (hw _ (List.mem_of_getElem? (i := 24) rfl))) (Or.inl (hw _ (List.mem_of_getElem? (i := 26) rfl))) (by decide) (t := .int) (t' := .int) (by decide) (by decide)))
              have f332 := Fld.same W322 u9
              have f333 := Fld.other W322 u10 (Or.inr (slot_ne (Or.inl (hw _ (List.mem_of_getElem? (i := 28) rfl))) (Or.inl (hw _ (List.mem_of_getElem? (i := 26) rfl))) (by decide) (t := .int) (t' := .int) (by decide) (by decide)))
              have f334 := Fld.other W322 u11 (Or.inr (slot_ne (Or.inl (hw _ (List.mem_of_getElem? (i := 30) rfl))) (Or.inl (hw _ (List.mem_of_getElem? (i := 26) rfl))) (by decide) (t := .int) (t' := .int) (by decide) (by decide)))
              have f335 := Fld.other W322 u12 (Or.inr (slot_ne (Or.inl (hw _ (List.mem_of_getElem? (i := 36) rfl))) (Or.inl (hw _ (List.mem_of_getElem? (i := 26) rfl))) (by decide) (t := .int) (t' := .int) (by decide) (by decide)))
              have f336 := Fld.other W322 u13 (Or.inr (slot_ne (Or.inl (hw _ (List.mem_of_getElem? (i := 42) rfl))) (Or.inl (hw _ (List.mem_of_getElem? (i := 26) rfl))) (by decide) (t := .int) (t' := .int) (by decide) (by decide)))
              have f337 := Fld.other W322 u14 (Or.inr (slot_ne (Or.inl (hw _ (List.mem_of_getElem? (i := 44) rfl))) (Or.inl (hw _ (List.mem_of_getElem? (i := 26) rfl))) (by decide) (t := .boolean) (t' := .int) (by decide) (by decide)))
              refine own_by (T' := T322) (g' := (mkF m 69 #[.val (.ref a), .val (.ref tx), .val (.int off), .val (.int ln), .unset] [])) (fun t_ k_ => XS.goto X322.here hx rfl (pc0 := 131) (pc' := 69) rfl (hb hby own_d_read_131) (by decide) (by decide) k_) ?_
              exact ih ng dg (en + (1 : Int32)) pt fi la ex ne T322 h322 _ X322 e322 N322 f323 f324 f325 f326 f327 f328 f329 f330 f331 f332 f333 f334 f335 f336 f337 y0 (own_n1 off ln en ho hl hs y1 (own_lt3 off ln en kk y4)) (own_n2 off ln en dg ho hl hs y1 y2 (own_lt3 off ln en kk y4)) (own_n3f off ln en dg pt ho hl hs y1 y2 y3 (own_lt3 off ln en kk y4)) (own_n4f off ln en pt f ho hl hs y1 (own_lt3 off ln en kk y4) hJ c88_282 c99_284 c110_286) (own_n5 off ln en kk ho hl hs y1 y4)
  refine own_by (T' := s₁) (g' := (mkF m 1 #[.val (.ref a), .val (.ref tx), .val (.int off), .val (.int ln), .unset] [(.ref a)])) (fun t_ k_ => XS.aloadN X0.here hx rfl (hb hby own_d_read_0) rfl rfl k_) ?_
  refine own_by (T' := s₁) (g' := (mkF m 2 #[.val (.ref a), .val (.ref tx), .val (.int off), .val (.int ln), .unset] [(.ref tx), (.ref a)])) (fun t_ k_ => XS.aloadN X0.here hx rfl (hb hby own_d_read_1) rfl rfl k_) ?_
  obtain ⟨T338, h338, X338, e338, W338, st338⟩ := putF X0 hx hZ hown (host := "") (Or.inl (hw _ (List.mem_of_getElem? (i := 15) rfl))) Via.refl e0 F_text E0 (Or.inl (hw _ (List.mem_of_getElem? (i := 16) rfl))) (hw _ (List.mem_of_getElem? (i := 2) rfl)) (ty := (.array .char)) (by decide) rfl rfl (g := (mkF m 2 #[.val (.ref a), .val (.ref tx), .val (.int off), .val (.int ln), .unset] [(.ref tx), (.ref a)])) rfl rfl (hb hby own_d_read_2)
  refine own_by (T' := T338) (g' := (mkF m 5 #[.val (.ref a), .val (.ref tx), .val (.int off), .val (.int ln), .unset] [])) st338 ?_
  have N338 := Fr.snoc X338 N0 G0
  have f339 := Nat.le_trans Z0 (Keep.of_wr W338).1
  have f340 := Exa.wr W338 E0
  have f341 := own_Ia_other W338 V0 n1
  have f342 := Fld.same W338 F_text
  have f343 := Fld.other W338 F_start (Or.inr (slot_ne (Or.inl (hw _ (List.mem_of_getElem? (i := 18) rfl))) (Or.inl (hw _ (List.mem_of_getElem? (i := 16) rfl))) (by decide) (t := .int) (t' := (.array .char)) (by decide) (by decide)))
  have f344 := Fld.other W338 F_stop (Or.inr (slot_ne (Or.inl (hw _ (List.mem_of_getElem? (i := 20) rfl))) (Or.inl (hw _ (List.mem_of_getElem? (i := 16) rfl))) (by decide) (t := .int) (t' := (.array .char)) (by decide) (by decide)))
  have f345 := Fld.other W338 F_negative (Or.inr (slot_ne (Or.inl (hw _ (List.mem_of_getElem? (i := 22) rfl))) (Or.inl (hw _ (List.mem_of_getElem? (i := 16) rfl))) (by decide) (t := .boolean) (t' := (.array .char)) (by decide) (by decide)))
  have f346 := Fld.other W338 F_digitsAt (Or.inr (slot_ne (Or.inl (hw _ (List.mem_of_getElem? (i := 24) rfl))) (Or.inl (hw _ (List.mem_of_getElem? (i := 16) rfl))) (by decide) (t := .int) (t' := (.array .char)) (by decide) (by decide)))
  have f347 := Fld.other W338 F_end (Or.inr (slot_ne (Or.inl (hw _ (List.mem_of_getElem? (i := 26) rfl))) (Or.inl (hw _ (List.mem_of_getElem? (i := 16) rfl))) (by decide) (t := .int) (t' := (.array .char)) (by decide) (by decide)))
  have f348 := Fld.other W338 F_point (Or.inr (slot_ne (Or.inl (hw _ (List.mem_of_getElem? (i := 28) rfl))) (Or.inl (hw _ (List.mem_of_getElem? (i := 16) rfl))) (by decide) (t := .int) (t' := (.array .char)) (by decide) (by decide)))
  have f349 := Fld.other W338 F_first (Or.inr (slot_ne (Or.inl (hw _ (List.mem_of_getElem? (i := 30) rfl))) (Or.inl (hw _ (List.mem_of_getElem? (i := 16) rfl))) (by decide) (t := .int) (t' := (.array .char)) (by decide) (by decide)))
  have f350 := Fld.other W338 F_last (Or.inr (slot_ne (Or.inl (hw _ (List.mem_of_getElem? (i := 36) rfl))) (Or.inl (hw _ (List.mem_of_getElem? (i := 16) rfl))) (by decide) (t := .int) (t' := (.array .char)) (by decide) (by decide)))
  have f351 := Fld.other W338 F_exponentAt (Or.inr (slot_ne (Or.inl (hw _ (List.mem_of_getElem? (i := 42) rfl))) (Or.inl (hw _ (List.mem_of_getElem? (i := 16) rfl))) (by decide) (t := .int) (t' := (.array .char)) (by decide) (by decide)))
  have f352 := Fld.other W338 F_negativeExponent (Or.inr (slot_ne (Or.inl (hw _ (List.mem_of_getElem? (i := 44) rfl))) (Or.inl (hw _ (List.mem_of_getElem? (i := 16) rfl))) (by decide) (t := .boolean) (t' := (.array .char)) (by decide) (by decide)))
  have f353 := Keep.wr K0 W338 (Or.inl (List.mem_of_getElem? (i := 0) rfl))
  refine own_by (T' := T338) (g' := (mkF m 6 #[.val (.ref a), .val (.ref tx), .val (.int off), .val (.int ln), .unset] [(.ref a)])) (fun t_ k_ => XS.aloadN X338.here hx rfl (hb hby own_d_read_5) rfl rfl k_) ?_
  refine own_by (T' := T338) (g' := (mkF m 7 #[.val (.ref a), .val (.ref tx), .val (.int off), .val (.int ln), .unset] [(.int off), (.ref a)])) (fun t_ k_ => XS.iloadN X338.here hx rfl (hb hby own_d_read_6) rfl k_) ?_
  obtain ⟨T354, h354, X354, e354, W354, st354⟩ := putF X338 hx hZ hown (host := "") (Or.inl (hw _ (List.mem_of_getElem? (i := 17) rfl))) Via.refl e338 f343 f340 (Or.inl (hw _ (List.mem_of_getElem? (i := 18) rfl))) (hw _ (List.mem_of_getElem? (i := 2) rfl)) (ty := .int) (by decide) rfl rfl (g := (mkF m 7 #[.val (.ref a), .val (.ref tx), .val (.int off), .val (.int ln), .unset] [(.int off), (.ref a)])) rfl rfl (hb hby own_d_read_7)
  refine own_by (T' := T354) (g' := (mkF m 10 #[.val (.ref a), .val (.ref tx), .val (.int off), .val (.int ln), .unset] [])) st354 ?_
  have N354 := Fr.snoc X354 N338 G0
  have f355 := Nat.le_trans f339 (Keep.of_wr W354).1
  have f356 := Exa.wr W354 f340
  have f357 := own_Ia_other W354 f341 n1
  have f358 := Fld.other W354 f342 (Or.inr (slot_ne (Or.inl (hw _ (List.mem_of_getElem? (i := 16) rfl))) (Or.inl (hw _ (List.mem_of_getElem? (i := 18) rfl))) (by decide) (t := (.array .char)) (t' := .int) (by decide) (by decide)))
  have f359 := Fld.same W354 f343
  have f360 := Fld.other W354 f344 (Or.inr (slot_ne (Or.inl (hw _ (List.mem_of_getElem? (i := 20) rfl))) (Or.inl (hw _ (List.mem_of_getElem? (i := 18) rfl))) (by decide) (t := .int) (t' := .int) (by decide) (by decide)))
  have f361 := Fld.other W354 f345 (Or.inr (slot_ne (Or.inl (hw _ (List.mem_of_getElem? (i := 22) rfl))) (Or.inl (hw _ (List.mem_of_getElem? (i := 18) rfl))) (by decide) (t := .boolean) (t' := .int) (by decide) (by decide)))
  have f362 := Fld.other W354 f346 (Or.inr (slot_ne (Or.inl (hw _ (List.mem_of_getElem? (i := 24) rfl))) (Or.inl (hw _ (List.mem_of_getElem? (i := 18) rfl))) (by decide) (t := .int) (t' := .int) (by decide) (by decide)))
  have f363 := Fld.other W354 f347 (Or.inr (slot_ne (Or.inl (hw _ (List.mem_of_getElem? (i := 26) rfl))) (Or.inl (hw _ (List.mem_of_getElem? (i := 18) rfl))) (by decide) (t := .int) (t' := .int) (by decide) (by decide)))
  have f364 := Fld.other W354 f348 (Or.inr (slot_ne (Or.inl (hw _ (List.mem_of_getElem? (i := 28) rfl))) (Or.inl (hw _ (List.mem_of_getElem? (i := 18) rfl))) (by decide) (t := .int) (t' := .int) (by decide) (by decide)))
  have f365 := Fld.other W354 f349 (Or.inr (slot_ne (Or.inl (hw _ (List.mem_of_getElem? (i := 30) rfl))) (Or.inl (hw _ (List.mem_of_getElem? (i := 18) rfl))) (by decide) (t := .int) (t' := .int) (by decide) (by decide)))
  have f366 := Fld.other W354 f350 (Or.inr (slot_ne (Or.inl (hw _ (List.mem_of_getElem? (i := 36) rfl))) (Or.inl (hw _ (List.mem_of_getElem? (i := 18) rfl))) (by decide) (t := .int) (t' := .int) (by decide) (by decide)))
  have f367 := Fld.other W354 f351 (Or.inr (slot_ne (Or.inl (hw _ (List.mem_of_getElem? (i := 42) rfl))) (Or.inl (hw _ (List.mem_of_getElem? (i := 18) rfl))) (by decide) (t := .int) (t' := .int) (by decide) (by decide)))
  have f368 := Fld.other W354 f352 (Or.inr (slot_ne (Or.inl (hw _ (List.mem_of_getElem? (i := 44) rfl))) (Or.inl (hw _ (List.mem_of_getElem? (i := 18) rfl))) (by decide) (t := .boolean) (t' := .int) (by decide) (by decide)))
  have f369 := Keep.wr f353 W354 (Or.inl (List.mem_of_getElem? (i := 0) rfl))
  refine own_by (T' := T354) (g' := (mkF m 11 #[.val (.ref a), .val (.ref tx), .val (.int off), .val (.int ln), .unset] [(.ref a)])) (fun t_ k_ => XS.aloadN X354.here hx rfl (hb hby own_d_read_10) rfl rfl k_) ?_
  refine own_by (T' := T354) (g' := (mkF m 12 #[.val (.ref a), .val (.ref tx), .val (.int off), .val (.int ln), .unset] [(.int off), (.ref a)])) (fun t_ k_ => XS.iloadN X354.here hx rfl (hb hby own_d_read_11) rfl k_) ?_
  refine own_by (T' := T354) (g' := (mkF m 13 #[.val (.ref a), .val (.ref tx), .val (.int off), .val (.int ln), .unset] [(.int ln), (.int off), (.ref a)])) (fun t_ k_ => XS.iloadN X354.here hx rfl (hb hby own_d_read_12) rfl k_) ?_
  refine own_by (T' := T354) (g' := (mkF m 14 #[.val (.ref a), .val (.ref tx), .val (.int off), .val (.int ln), .unset] [(.int (off + ln)), (.ref a)])) (fun t_ k_ => XS.iadd X354.here hx rfl (hb hby own_d_read_13) rfl k_) ?_
  obtain ⟨T370, h370, X370, e370, W370, st370⟩ := putF X354 hx hZ hown (host := "") (Or.inl (hw _ (List.mem_of_getElem? (i := 19) rfl))) Via.refl e354 f360 f356 (Or.inl (hw _ (List.mem_of_getElem? (i := 20) rfl))) (hw _ (List.mem_of_getElem? (i := 2) rfl)) (ty := .int) (by decide) rfl rfl (g := (mkF m 14 #[.val (.ref a), .val (.ref tx), .val (.int off), .val (.int ln), .unset] [(.int (off + ln)), (.ref a)])) rfl rfl (hb hby own_d_read_14)
  refine own_by (T' := T370) (g' := (mkF m 17 #[.val (.ref a), .val (.ref tx), .val (.int off), .val (.int ln), .unset] [])) st370 ?_
  have N370 := Fr.snoc X370 N354 G0
  have f371 := Nat.le_trans f355 (Keep.of_wr W370).1
  have f372 := Exa.wr W370 f356
  have f373 := own_Ia_other W370 f357 n1
  have f374 := Fld.other W370 f358 (Or.inr (slot_ne (Or.inl (hw _ (List.mem_of_getElem? (i := 16) rfl))) (Or.inl (hw _ (List.mem_of_getElem? (i := 20) rfl))) (by decide) (t := (.array .char)) (t' := .int) (by decide) (by decide)))
  have f375 := Fld.other W370 f359 (Or.inr (slot_ne (Or.inl (hw _ (List.mem_of_getElem? (i := 18) rfl))) (Or.inl (hw _ (List.mem_of_getElem? (i := 20) rfl))) (by decide) (t := .int) (t' := .int) (by decide) (by decide)))
  have f376 := Fld.same W370 f360
  have f377 := Fld.other W370 f361 (Or.inr (slot_ne (Or.inl (hw _ (List.mem_of_getElem? (i := 22) rfl))) (Or.inl (hw _ (List.mem_of_getElem? (i := 20) rfl))) (by decide) (t := .boolean) (t' := .int) (by decide) (by decide)))
  have f378 := Fld.other W370 f362 (Or.inr (slot_ne (Or.inl (hw _ (List.mem_of_getElem? (i := 24) rfl))) (Or.inl (hw _ (List.mem_of_getElem? (i := 20) rfl))) (by decide) (t := .int) (t' := .int) (by decide) (by decide)))
  have f379 := Fld.other W370 f363 (Or.inr (slot_ne (Or.inl (hw _ (List.mem_of_getElem? (i := 26) rfl))) (Or.inl (hw _ (List.mem_of_getElem? (i := 20) rfl))) (by decide) (t := .int) (t' := .int) (by decide) (by decide)))
  have f380 := Fld.other W370 f364 (Or.inr (slot_ne (Or.inl (hw _ (List.mem_of_getElem? (i := 28) rfl))) (Or.inl (hw _ (List.mem_of_getElem? (i := 20) rfl))) (by decide) (t := .int) (t' := .int) (by decide) (by decide)))
  have f381 := Fld.other W370 f365 (Or.inr (slot_ne (Or.inl (hw _ (List.mem_of_getElem? (i := 30) rfl))) (Or.inl (hw _ (List.mem_of_getElem? (i := 20) rfl))) (by decide) (t := .int) (t' := .int) (by decide) (by decide)))
  have f382 := Fld.other W370 f366 (Or.inr (slot_ne (Or.inl (hw _ (List.mem_of_getElem? (i := 36) rfl))) (Or.inl (hw _ (List.mem_of_getElem? (i := 20) rfl))) (by decide) (t := .int) (t' := .int) (by decide) (by decide)))
  have f383 := Fld.other W370 f367 (Or.inr (slot_ne (Or.inl (hw _ (List.mem_of_getElem? (i := 42) rfl))) (Or.inl (hw _ (List.mem_of_getElem? (i := 20) rfl))) (by decide) (t := .int) (t' := .int) (by decide) (by decide)))
  have f384 := Fld.other W370 f368 (Or.inr (slot_ne (Or.inl (hw _ (List.mem_of_getElem? (i := 44) rfl))) (Or.inl (hw _ (List.mem_of_getElem? (i := 20) rfl))) (by decide) (t := .boolean) (t' := .int) (by decide) (by decide)))
  have f385 := Keep.wr f369 W370 (Or.inl (List.mem_of_getElem? (i := 0) rfl))
  refine own_by (T' := T370) (g' := (mkF m 18 #[.val (.ref a), .val (.ref tx), .val (.int off), .val (.int ln), .unset] [(.ref a)])) (fun t_ k_ => XS.aloadN X370.here hx rfl (hb hby own_d_read_17) rfl rfl k_) ?_
  refine own_by (T' := T370) (g' := (mkF m 19 #[.val (.ref a), .val (.ref tx), .val (.int off), .val (.int ln), .unset] [(.int ln), (.ref a)])) (fun t_ k_ => XS.iloadN X370.here hx rfl (hb hby own_d_read_18) rfl k_) ?_
  by_cases c19_386 : (0 : Int32) < ln
  · skip
    refine own_by (T' := T370) (g' := (mkF m 22 #[.val (.ref a), .val (.ref tx), .val (.int off), .val (.int ln), .unset] [(.ref a)])) (fun t_ k_ => XS.ifNo X370.here hx rfl (hb hby own_d_read_19) rfl ((if0 _ _).trans (tlt (c19_386 : (0 : Int32) < ln)).2.2.2) k_) ?_
    refine own_by (T' := T370) (g' := (mkF m 23 #[.val (.ref a), .val (.ref tx), .val (.int off), .val (.int ln), .unset] [(.ref tx), (.ref a)])) (fun t_ k_ => XS.aloadN X370.here hx rfl (hb hby own_d_read_22) rfl rfl k_) ?_
    refine own_by (T' := T370) (g' := (mkF m 24 #[.val (.ref a), .val (.ref tx), .val (.int off), .val (.int ln), .unset] [(.int off), (.ref tx), (.ref a)])) (fun t_ k_ => XS.iloadN X370.here hx rfl (hb hby own_d_read_23) rfl k_) ?_
    refine own_by (T' := T370) (g' := (mkF m 25 #[.val (.ref a), .val (.ref tx), .val (.int off), .val (.int ln), .unset] [(.int (f off.toNatClampNeg)), (.ref a)])) (fun t_ k_ => own_cal X370 hx hZ e370 f373 (j := off) (own_o3 off ln ho hs c19_386).1 (own_o3 off ln ho hs c19_386).2 (g := (mkF m 24 #[.val (.ref a), .val (.ref tx), .val (.int off), .val (.int ln), .unset] [(.int off), (.ref tx), (.ref a)])) rfl rfl (hb hby own_d_read_24) _ k_) ?_
    refine own_by (T' := T370) (g' := (mkF m 27 #[.val (.ref a), .val (.ref tx), .val (.int off), .val (.int ln), .unset] [(.int (45 : Int32)), (.int (f off.toNatClampNeg)), (.ref a)])) (fun t_ k_ => XS.bipush X370.here hx rfl (hb hby own_d_read_25) k_) ?_
    by_cases c27_387 : (f off.toNatClampNeg) = (45 : Int32)
    · skip
      refine own_by (T' := T370) (g' := (mkF m 30 #[.val (.ref a), .val (.ref tx), .val (.int off), .val (.int ln), .unset] [(.ref a)])) (fun t_ k_ => XS.icmpNo X370.here hx rfl (hb hby own_d_read_27) rfl (teq (c27_387 : (f off.toNatClampNeg) = (45 : Int32))).2 k_) ?_
      refine own_by (T' := T370) (g' := (mkF m 31 #[.val (.ref a), .val (.ref tx), .val (.int off), .val (.int ln), .unset] [(.int (1 : Int32)), (.ref a)])) (fun t_ k_ => XS.iconst X370.here hx rfl (hb hby own_d_read_30) k_) ?_
      refine own_by (T' := T370) (g' := (mkF m 35 #[.val (.ref a), .val (.ref tx), .val (.int off), .val (.int ln), .unset] [(.int (1 : Int32)), (.ref a)])) (fun t_ k_ => XS.goto X370.here hx rfl (pc0 := 31) (pc' := 35) rfl (hb hby own_d_read_31) (by decide) (by decide) k_) ?_
      obtain ⟨T388, h388, X388, e388, W388, st388⟩ := putF X370 hx hZ hown (host := "") (Or.inl (hw _ (List.mem_of_getElem? (i := 21) rfl))) Via.refl e370 f377 f372 (Or.inl (hw _ (List.mem_of_getElem? (i := 22) rfl))) (hw _ (List.mem_of_getElem? (i := 2) rfl)) (ty := .boolean) (by decide) rfl rfl (g := (mkF m 35 #[.val (.ref a), .val (.ref tx), .val (.int off), .val (.int ln), .unset] [(.int (1 : Int32)), (.ref a)])) rfl rfl (hb hby own_d_read_35)
      refine own_by (T' := T388) (g' := (mkF m 38 #[.val (.ref a), .val (.ref tx), .val (.int off), .val (.int ln), .unset] [])) st388 ?_
      have N388 := Fr.snoc X388 N370 G0
      have f389 := Nat.le_trans f371 (Keep.of_wr W388).1
      have f390 := Exa.wr W388 f372
      have f391 := own_Ia_other W388 f373 n1
      have f392 := Fld.other W388 f374 (Or.inr (slot_ne (Or.inl (hw _ (List.mem_of_getElem? (i := 16) rfl))) (Or.inl (hw _ (List.mem_of_getElem? (i := 22) rfl))) (by decide) (t := (.array .char)) (t' := .boolean) (by decide) (by decide)))
      have f393 := Fld.other W388 f375 (Or.inr (slot_ne (Or.inl (hw _ (List.mem_of_getElem? (i := 18) rfl))) (Or.inl (hw _ (List.mem_of_getElem? (i := 22) rfl))) (by decide) (t := .int) (t' := .boolean) (by decide) (by decide)))
      have f394 := Fld.other W388 f376 (Or.inr (slot_ne (Or.inl (hw _ (List.mem_of_getElem? (i := 20) rfl))) (Or.inl (hw _ (List.mem_of_getElem? (i := 22) rfl))) (by decide) (t := .int) (t' := .boolean) (by decide) (by decide)))
      have f395 := Fld.same W388 f377
      have f396 := Fld.other W388 f378 (Or.inr (slot_ne (Or.inl (hw _ (List.mem_of_getElem? (i := 24) rfl))) (Or.inl (hw _ (List.mem_of_getElem? (i := 22) rfl))) (by decide) (t := .int) (t' := .boolean) (by decide) (by decide)))
      have f397 := Fld.other W388 f379 (Or.inr (slot_ne (Or.inl (hw _ (List.mem_of_getElem? (i := 26) rfl))) (Or.inl (hw _ (List.mem_of_getElem? (i := 22) rfl))) (by decide) (t := .int) (t' := .boolean) (by decide) (by decide)))
      have f398 := Fld.other W388 f380 (Or.inr (slot_ne (Or.inl (hw _ (List.mem_of_getElem? (i := 28) rfl))) (Or.inl (hw _ (List.mem_of_getElem? (i := 22) rfl))) (by decide) (t := .int) (t' := .boolean) (by decide) (by decide)))
      have f399 := Fld.other W388 f381 (Or.inr (slot_ne (Or.inl (hw _ (List.mem_of_getElem? (i := 30) rfl))) (Or.inl (hw _ (List.mem_of_getElem? (i := 22) rfl))) (by decide) (t := .int) (t' := .boolean) (by decide) (by decide)))
      have f400 := Fld.other W388 f382 (Or.inr (slot_ne (Or.inl (hw _ (List.mem_of_getElem? (i := 36) rfl))) (Or.inl (hw _ (List.mem_of_getElem? (i := 22) rfl))) (by decide) (t := .int) (t' := .boolean) (by decide) (by decide)))
      have f401 := Fld.other W388 f383 (Or.inr (slot_ne (Or.inl (hw _ (List.mem_of_getElem? (i := 42) rfl))) (Or.inl (hw _ (List.mem_of_getElem? (i := 22) rfl))) (by decide) (t := .int) (t' := .boolean) (by decide) (by decide)))
      have f402 := Fld.other W388 f384 (Or.inr (slot_ne (Or.inl (hw _ (List.mem_of_getElem? (i := 44) rfl))) (Or.inl (hw _ (List.mem_of_getElem? (i := 22) rfl))) (by decide) (t := .boolean) (t' := .boolean) (by decide) (by decide)))
      have f403 := Keep.wr f385 W388 (Or.inl (List.mem_of_getElem? (i := 0) rfl))
      refine own_by (T' := T388) (g' := (mkF m 39 #[.val (.ref a), .val (.ref tx), .val (.int off), .val (.int ln), .unset] [(.ref a)])) (fun t_ k_ => XS.aloadN X388.here hx rfl (hb hby own_d_read_38) rfl rfl k_) ?_
      refine own_by (T' := T388) (g' := (mkF m 40 #[.val (.ref a), .val (.ref tx), .val (.int off), .val (.int ln), .unset] [(.ref a), (.ref a)])) (fun t_ k_ => XS.aloadN X388.here hx rfl (hb hby own_d_read_39) rfl rfl k_) ?_
      obtain ⟨T404, X404, e404, st404⟩ := getF X388 hx hZ hown (host := "") (Or.inl (hw _ (List.mem_of_getElem? (i := 21) rfl))) Via.refl e388 f395 (g := (mkF m 40 #[.val (.ref a), .val (.ref tx), .val (.int off), .val (.int ln), .unset] [(.ref a), (.ref a)])) rfl rfl (hb hby own_d_read_40)
      refine own_by (T' := T404) (g' := (mkF m 43 #[.val (.ref a), .val (.ref tx), .val (.int off), .val (.int ln), .unset] [(.int (1 : Int32)), (.ref a)])) st404 ?_
      refine own_by (T' := T404) (g' := (mkF m 46 #[.val (.ref a), .val (.ref tx), .val (.int off), .val (.int ln), .unset] [(.ref a)])) (fun t_ k_ => XS.ifNo X404.here hx rfl (hb hby own_d_read_43) rfl ((if0 _ _).trans (feq ((by decide) : ¬ ((1 : Int32) = (0 : Int32)))).1) k_) ?_
      refine own_by (T' := T404) (g' := (mkF m 47 #[.val (.ref a), .val (.ref tx), .val (.int off), .val (.int ln), .unset] [(.int off), (.ref a)])) (fun t_ k_ => XS.iloadN X404.here hx rfl (hb hby own_d_read_46) rfl k_) ?_
      refine own_by (T' := T404) (g' := (mkF m 48 #[.val (.ref a), .val (.ref tx), .val (.int off), .val (.int ln), .unset] [(.int (1 : Int32)), (.int off), (.ref a)])) (fun t_ k_ => XS.iconst X404.here hx rfl (hb hby own_d_read_47) k_) ?_
      refine own_by (T' := T404) (g' := (mkF m 49 #[.val (.ref a), .val (.ref tx), .val (.int off), .val (.int ln), .unset] [(.int (off + (1 : Int32))), (.ref a)])) (fun t_ k_ => XS.iadd X404.here hx rfl (hb hby own_d_read_48) rfl k_) ?_
      refine own_by (T' := T404) (g' := (mkF m 53 #[.val (.ref a), .val (.ref tx), .val (.int off), .val (.int ln), .unset] [(.int (off + (1 : Int32))), (.ref a)])) (fun t_ k_ => XS.goto X404.here hx rfl (pc0 := 49) (pc' := 53) rfl (hb hby own_d_read_49) (by decide) (by decide) k_) ?_
      obtain ⟨T405, h405, X405, e405, W405, st405⟩ := putF X404 hx hZ hown (host := "") (Or.inl (hw _ (List.mem_of_getElem? (i := 23) rfl))) Via.refl e404 f396 f390 (Or.inl (hw _ (List.mem_of_getElem? (i := 24) rfl))) (hw _ (List.mem_of_getElem? (i := 2) rfl)) (ty := .int) (by decide) rfl rfl (g := (mkF m 53 #[.val (.ref a), .val (.ref tx), .val (.int off), .val (.int ln), .unset] [(.int (off + (1 : Int32))), (.ref a)])) rfl rfl (hb hby own_d_read_53)
      refine own_by (T' := T405) (g' := (mkF m 56 #[.val (.ref a), .val (.ref tx), .val (.int off), .val (.int ln), .unset] [])) st405 ?_
      have N405 := Fr.snoc X405 N388 G0
      have f406 := Nat.le_trans f389 (Keep.of_wr W405).1
      have f407 := Exa.wr W405 f390
      have f408 := own_Ia_other W405 f391 n1
      have f409 := Fld.other W405 f392 (Or.inr (slot_ne (Or.inl (hw _ (List.mem_of_getElem? (i := 16) rfl))) (Or.inl (hw _ (List.mem_of_getElem? (i := 24) rfl))) (by decide) (t := (.array .char)) (t' := .int) (by decide) (by decide)))
      have f410 := Fld.other W405 f393 (Or.inr (slot_ne (Or.inl (hw _ (List.mem_of_getElem? (i := 18) rfl))) (Or.inl (hw _ (List.mem_of_getElem? (i := 24) rfl))) (by decide) (t := .int) (t' := .int) (by decide) (by decide)))
      have f411 := Fld.other W405 f394 (Or.inr (slot_ne (Or.inl (hw _ (List.mem_of_getElem? (i := 20) rfl))) (Or.inl (hw _ (List.mem_of_getElem? (i := 24) rfl))) (by decide) (t := .int) (t' := .int) (by decide) (by decide)))
      have f412 := Fld.other W405 f395 (Or.inr (slot_ne (Or.inl (hw _ (List.mem_of_getElem? (i := 22) rfl))) (Or.inl (hw _ (List.mem_of_getElem? (i := 24) rfl))) (by decide) (t := .boolean) (t' := .int) (by decide) (by decide)))
      have f413 := Fld.same W405 f396
      have f414 := Fld.other W405 f397 (Or.inr (slot_ne (Or.inl (hw _ (List.mem_of_getElem? (i := 26) rfl))) (Or.inl (hw _ (List.mem_of_getElem? (i := 24) rfl))) (by decide) (t := .int) (t' := .int) (by decide) (by decide)))
      have f415 := Fld.other W405 f398 (Or.inr (slot_ne (Or.inl (hw _ (List.mem_of_getElem? (i := 28) rfl))) (Or.inl (hw _ (List.mem_of_getElem? (i := 24) rfl))) (by decide) (t := .int) (t' := .int) (by decide) (by decide)))
      have f416 := Fld.other W405 f399 (Or.inr (slot_ne (Or.inl (hw _ (List.mem_of_getElem? (i := 30) rfl))) (Or.inl (hw _ (List.mem_of_getElem? (i := 24) rfl))) (by decide) (t := .int) (t' := .int) (by decide) (by decide)))
      have f417 := Fld.other W405 f400 (Or.inr (slot_ne (Or.inl (hw _ (List.mem_of_getElem? (i := 36) rfl))) (Or.inl (hw _ (List.mem_of_getElem? (i := 24) rfl))) (by decide) (t := .int) (t' := .int) (by decide) (by decide)))
      have f418 := Fld.other W405 f401 (Or.inr (slot_ne (Or.inl (hw _ (List.mem_of_getElem? (i := 42) rfl))) (Or.inl (hw _ (List.mem_of_getElem? (i := 24) rfl))) (by decide) (t := .int) (t' := .int) (by decide) (by decide)))
      have f419 := Fld.other W405 f402 (Or.inr (slot_ne (Or.inl (hw _ (List.mem_of_getElem? (i := 44) rfl))) (Or.inl (hw _ (List.mem_of_getElem? (i := 24) rfl))) (by decide) (t := .boolean) (t' := .int) (by decide) (by decide)))
      have f420 := Keep.wr f403 W405 (Or.inl (List.mem_of_getElem? (i := 0) rfl))
      refine own_by (T' := T405) (g' := (mkF m 57 #[.val (.ref a), .val (.ref tx), .val (.int off), .val (.int ln), .unset] [(.ref a)])) (fun t_ k_ => XS.aloadN X405.here hx rfl (hb hby own_d_read_56) rfl rfl k_) ?_
      refine own_by (T' := T405) (g' := (mkF m 58 #[.val (.ref a), .val (.ref tx), .val (.int off), .val (.int ln), .unset] [(.ref a), (.ref a)])) (fun t_ k_ => XS.aloadN X405.here hx rfl (hb hby own_d_read_57) rfl rfl k_) ?_
      obtain ⟨T421, X421, e421, st421⟩ := getF X405 hx hZ hown (host := "") (Or.inl (hw _ (List.mem_of_getElem? (i := 23) rfl))) Via.refl e405 f413 (g := (mkF m 58 #[.val (.ref a), .val (.ref tx), .val (.int off), .val (.int ln), .unset] [(.ref a), (.ref a)])) rfl rfl (hb hby own_d_read_58)
      refine own_by (T' := T421) (g' := (mkF m 61 #[.val (.ref a), .val (.ref tx), .val (.int off), .val (.int ln), .unset] [(.int (off + (1 : Int32))), (.ref a)])) st421 ?_
      obtain ⟨T422, h422, X422, e422, W422, st422⟩ := putF X421 hx hZ hown (host := "") (Or.inl (hw _ (List.mem_of_getElem? (i := 25) rfl))) Via.refl e421 f414 f407 (Or.inl (hw _ (List.mem_of_getElem? (i := 26) rfl))) (hw _ (List.mem_of_getElem? (i := 2) rfl)) (ty := .int) (by decide) rfl rfl (g := (mkF m 61 #[.val (.ref a), .val (.ref tx), .val (.int off), .val (.int ln), .unset] [(.int (off + (1 : Int32))), (.ref a)])) rfl rfl (hb hby own_d_read_61)
      refine own_by (T' := T422) (g' := (mkF m 64 #[.val (.ref a), .val (.ref tx), .val (.int off), .val (.int ln), .unset] [])) st422 ?_
      have N422 := Fr.snoc X422 N405 G0
      have f423 := Nat.le_trans f406 (Keep.of_wr W422).1
      have f424 := Exa.wr W422 f407
      have f425 := own_Ia_other W422 f408 n1
      have f426 := Fld.other W422 f409 (Or.inr (slot_ne (Or.inl (hw _ (List.mem_of_getElem? (i := 16) rfl))) (Or.inl (hw _ (List.mem_of_getElem? (i := 26) rfl))) (by decide) (t := (.array .char)) (t' := .int) (by decide) (by decide)))
      have f427 := Fld.other W422 f410 (Or.inr (slot_ne (Or.inl (hw _ (List.mem_of_getElem? (i := 18) rfl))) (Or.inl (hw _ (List.mem_of_getElem? (i := 26) rfl))) (by decide) (t := .int) (t' := .int) (by decide) (by decide)))
      have f428 := Fld.other W422 f411 (Or.inr (slot_ne (Or.inl (hw _ (List.mem_of_getElem? (i := 20) rfl))) (Or.inl (hw _ (List.mem_of_getElem? (i := 26) rfl))) (by decide) (t := .int) (t' := .int) (by decide) (by decide)))
      have f429 := Fld.other W422 f412 (Or.inr (slot_ne (Or.inl (hw _ (List.mem_of_getElem? (i := 22) rfl))) (Or.inl (hw _ (List.mem_of_getElem? (i := 26) rfl))) (by decide) (t := .boolean) (t' := .int) (by decide) (by decide)))
      have f430 := Fld.other W422 f413 (Or.inr (slot_ne (Or.inl (hw _ (List.mem_of_getElem? (i := 24) rfl))) (Or.inl (hw _ (List.mem_of_getElem? (i := 26) rfl))) (by decide) (t := .int) (t' := .int) (by decide) (by decide)))
      have f431 := Fld.same W422 f414
      have f432 := Fld.other W422 f415 (Or.inr (slot_ne (Or.inl (hw _ (List.mem_of_getElem? (i := 28) rfl))) (Or.inl (hw _ (List.mem_of_getElem? (i := 26) rfl))) (by decide) (t := .int) (t' := .int) (by decide) (by decide)))
      have f433 := Fld.other W422 f416 (Or.inr (slot_ne (Or.inl (hw _ (List.mem_of_getElem? (i := 30) rfl))) (Or.inl (hw _ (List.mem_of_getElem? (i := 26) rfl))) (by decide) (t := .int) (t' := .int) (by decide) (by decide)))
      have f434 := Fld.other W422 f417 (Or.inr (slot_ne (Or.inl (hw _ (List.mem_of_getElem? (i := 36) rfl))) (Or.inl (hw _ (List.mem_of_getElem? (i := 26) rfl))) (by decide) (t := .int) (t' := .int) (by decide) (by decide)))
      have f435 := Fld.other W422 f418 (Or.inr (slot_ne (Or.inl (hw _ (List.mem_of_getElem? (i := 42) rfl))) (Or.inl (hw _ (List.mem_of_getElem? (i := 26) rfl))) (by decide) (t := .int) (t' := .int) (by decide) (by decide)))
      have f436 := Fld.other W422 f419 (Or.inr (slot_ne (Or.inl (hw _ (List.mem_of_getElem? (i := 44) rfl))) (Or.inl (hw _ (List.mem_of_getElem? (i := 26) rfl))) (by decide) (t := .boolean) (t' := .int) (by decide) (by decide)))
      have f437 := Keep.wr f420 W422 (Or.inl (List.mem_of_getElem? (i := 0) rfl))
      refine own_by (T' := T422) (g' := (mkF m 65 #[.val (.ref a), .val (.ref tx), .val (.int off), .val (.int ln), .unset] [(.ref a)])) (fun t_ k_ => XS.aloadN X422.here hx rfl (hb hby own_d_read_64) rfl rfl k_) ?_
      refine own_by (T' := T422) (g' := (mkF m 66 #[.val (.ref a), .val (.ref tx), .val (.int off), .val (.int ln), .unset] [(.int (-1 : Int32)), (.ref a)])) (fun t_ k_ => XS.iconst X422.here hx rfl (hb hby own_d_read_65) k_) ?_
      obtain ⟨T438, h438, X438, e438, W438, st438⟩ := putF X422 hx hZ hown (host := "") (Or.inl (hw _ (List.mem_of_getElem? (i := 27) rfl))) Via.refl e422 f432 f424 (Or.inl (hw _ (List.mem_of_getElem? (i := 28) rfl))) (hw _ (List.mem_of_getElem? (i := 2) rfl)) (ty := .int) (by decide) rfl rfl (g := (mkF m 66 #[.val (.ref a), .val (.ref tx), .val (.int off), .val (.int ln), .unset] [(.int (-1 : Int32)), (.ref a)])) rfl rfl (hb hby own_d_read_66)
      refine own_by (T' := T438) (g' := (mkF m 69 #[.val (.ref a), .val (.ref tx), .val (.int off), .val (.int ln), .unset] [])) st438 ?_
      have N438 := Fr.snoc X438 N422 G0
      have f439 := Nat.le_trans f423 (Keep.of_wr W438).1
      have f440 := Exa.wr W438 f424
      have f441 := own_Ia_other W438 f425 n1
      have f442 := Fld.other W438 f426 (Or.inr (slot_ne (Or.inl (hw _ (List.mem_of_getElem? (i := 16) rfl))) (Or.inl (hw _ (List.mem_of_getElem? (i := 28) rfl))) (by decide) (t := (.array .char)) (t' := .int) (by decide) (by decide)))
      have f443 := Fld.other W438 f427 (Or.inr (slot_ne (Or.inl (hw _ (List.mem_of_getElem? (i := 18) rfl))) (Or.inl (hw _ (List.mem_of_getElem? (i := 28) rfl))) (by decide) (t := .int) (t' := .int) (by decide) (by decide)))
      have f444 := Fld.other W438 f428 (Or.inr (slot_ne (Or.inl (hw _ (List.mem_of_getElem? (i := 20) rfl))) (Or.inl (hw _ (List.mem_of_getElem? (i := 28) rfl))) (by decide) (t := .int) (t' := .int) (by decide) (by decide)))
      have f445 := Fld.other W438 f429 (Or.inr (slot_ne (Or.inl (hw _ (List.mem_of_getElem? (i := 22) rfl))) (Or.inl (hw _ (List.mem_of_getElem? (i := 28) rfl))) (by decide) (t := .boolean) (t' := .int) (by decide) (by decide)))
      have f446 := Fld.other W438 f430 (Or.inr (slot_ne (Or.inl (hw _ (List.mem_of_getElem? (i := 24) rfl))) (Or.inl (hw _ (List.mem_of_getElem? (i := 28) rfl))) (by decide) (t := .int) (t' := .int) (by decide) (by decide)))
      have f447 := Fld.other W438 f431 (Or.inr (slot_ne (Or.inl (hw _ (List.mem_of_getElem? (i := 26) rfl))) (Or.inl (hw _ (List.mem_of_getElem? (i := 28) rfl))) (by decide) (t := .int) (t' := .int) (by decide) (by decide)))
      have f448 := Fld.same W438 f432
      have f449 := Fld.other W438 f433 (Or.inr (slot_ne (Or.inl (hw _ (List.mem_of_getElem? (i := 30) rfl))) (Or.inl (hw _ (List.mem_of_getElem? (i := 28) rfl))) (by decide) (t := .int) (t' := .int) (by decide) (by decide)))
      have f450 := Fld.other W438 f434 (Or.inr (slot_ne (Or.inl (hw _ (List.mem_of_getElem? (i := 36) rfl))) (Or.inl (hw _ (List.mem_of_getElem? (i := 28) rfl))) (by decide) (t := .int) (t' := .int) (by decide) (by decide)))
      have f451 := Fld.other W438 f435 (Or.inr (slot_ne (Or.inl (hw _ (List.mem_of_getElem? (i := 42) rfl))) (Or.inl (hw _ (List.mem_of_getElem? (i := 28) rfl))) (by decide) (t := .int) (t' := .int) (by decide) (by decide)))
      have f452 := Fld.other W438 f436 (Or.inr (slot_ne (Or.inl (hw _ (List.mem_of_getElem? (i := 44) rfl))) (Or.inl (hw _ (List.mem_of_getElem? (i := 28) rfl))) (by decide) (t := .boolean) (t' := .int) (by decide) (by decide)))
      have f453 := Keep.wr f437 W438 (Or.inl (List.mem_of_getElem? (i := 0) rfl))
      exact l69 _ (1 : Int32) (off + (1 : Int32)) (off + (1 : Int32)) (-1 : Int32) u_first u_last u_exponentAt u_negativeExponent T438 h438 _ X438 e438 N438 f439 f453 f440 f441 f442 f443 f444 f445 f446 f447 f448 f449 f450 f451 f452 (own_o1 off ln ho hs c19_386) ⟨(own_o1' off ln ho hs c19_386), (own_o2 off ln ho hs c19_386)⟩ (Int.le_refl _) (fun q => absurd q (by decide)) (own_J1 f off ln ho hs c19_386 c27_387) rfl
    · skip
      refine own_by (T' := T370) (g' := (mkF m 34 #[.val (.ref a), .val (.ref tx), .val (.int off), .val (.int ln), .unset] [(.ref a)])) (fun t_ k_ => XS.icmpYes X370.here hx rfl (pc0 := 27) (pc' := 34) rfl (hb hby own_d_read_27) rfl (feq (c27_387 : ¬ ((f off.toNatClampNeg) = (45 : Int32)))).2 (by decide) (by decide) k_) ?_
      refine own_by (T' := T370) (g' := (mkF m 35 #[.val (.ref a), .val (.ref tx), .val (.int off), .val (.int ln), .unset] [(.int (0 : Int32)), (.ref a)])) (fun t_ k_ => XS.iconst X370.here hx rfl (hb hby own_d_read_34) k_) ?_
      obtain ⟨T454, h454, X454, e454, W454, st454⟩ := putF X370 hx hZ hown (host := "") (Or.inl (hw _ (List.mem_of_getElem? (i := 21) rfl))) Via.refl e370 f377 f372 (Or.inl (hw _ (List.mem_of_getElem? (i := 22) rfl))) (hw _ (List.mem_of_getElem? (i := 2) rfl)) (ty := .boolean) (by decide) rfl rfl (g := (mkF m 35 #[.val (.ref a), .val (.ref tx), .val (.int off), .val (.int ln), .unset] [(.int (0 : Int32)), (.ref a)])) rfl rfl (hb hby own_d_read_35)
      refine own_by (T' := T454) (g' := (mkF m 38 #[.val (.ref a), .val (.ref tx), .val (.int off), .val (.int ln), .unset] [])) st454 ?_
      have N454 := Fr.snoc X454 N370 G0
      have f455 := Nat.le_trans f371 (Keep.of_wr W454).1
      have f456 := Exa.wr W454 f372
      have f457 := own_Ia_other W454 f373 n1
      have f458 := Fld.other W454 f374 (Or.inr (slot_ne (Or.inl (hw _ (List.mem_of_getElem? (i := 16) rfl))) (Or.inl (hw _ (List.mem_of_getElem? (i := 22) rfl))) (by decide) (t := (.array .char)) (t' := .boolean) (by decide) (by decide)))
      have f459 := Fld.other W454 f375 (Or.inr (slot_ne (Or.inl (hw _ (List.mem_of_getElem? (i := 18) rfl))) (Or.inl (hw _ (List.mem_of_getElem? (i := 22) rfl))) (by decide) (t := .int) (t' := .boolean) (by decide) (by decide)))
      have f460 := Fld.other W454 f376 (Or.inr (slot_ne (Or.inl (hw _ (List.mem_of_getElem? (i := 20) rfl))) (Or.inl (hw _ (List.mem_of_getElem? (i := 22) rfl))) (by decide) (t := .int) (t' := .boolean) (by decide) (by decide)))
      have f461 := Fld.same W454 f377
      have f462 := Fld.other W454 f378 (Or.inr (slot_ne (Or.inl (hw _ (List.mem_of_getElem? (i := 24) rfl))) (Or.inl (hw _ (List.mem_of_getElem? (i := 22) rfl))) (by decide) (t := .int) (t' := .boolean) (by decide) (by decide)))
      have f463 := Fld.other W454 f379 (Or.inr (slot_ne (Or.inl (hw _ (List.mem_of_getElem? (i := 26) rfl))) (Or.inl (hw _ (List.mem_of_getElem? (i := 22) rfl))) (by decide) (t := .int) (t' := .boolean) (by decide) (by decide)))
      have f464 := Fld.other W454 f380 (Or.inr (slot_ne (Or.inl (hw _ (List.mem_of_getElem? (i := 28) rfl))) (Or.inl (hw _ (List.mem_of_getElem? (i := 22) rfl))) (by decide) (t := .int) (t' := .boolean) (by decide) (by decide)))
      have f465 := Fld.other W454 f381 (Or.inr (slot_ne (Or.inl (hw _ (List.mem_of_getElem? (i := 30) rfl))) (Or.inl (hw _ (List.mem_of_getElem? (i := 22) rfl))) (by decide) (t := .int) (t' := .boolean) (by decide) (by decide)))
      have f466 := Fld.other W454 f382 (Or.inr (slot_ne (Or.inl (hw _ (List.mem_of_getElem? (i := 36) rfl))) (Or.inl (hw _ (List.mem_of_getElem? (i := 22) rfl))) (by decide) (t := .int) (t' := .boolean) (by decide) (by decide)))
      have f467 := Fld.other W454 f383 (Or.inr (slot_ne (Or.inl (hw _ (List.mem_of_getElem? (i := 42) rfl))) (Or.inl (hw _ (List.mem_of_getElem? (i := 22) rfl))) (by decide) (t := .int) (t' := .boolean) (by decide) (by decide)))
      have f468 := Fld.other W454 f384 (Or.inr (slot_ne (Or.inl (hw _ (List.mem_of_getElem? (i := 44) rfl))) (Or.inl (hw _ (List.mem_of_getElem? (i := 22) rfl))) (by decide) (t := .boolean) (t' := .boolean) (by decide) (by decide)))
      have f469 := Keep.wr f385 W454 (Or.inl (List.mem_of_getElem? (i := 0) rfl))
      refine own_by (T' := T454) (g' := (mkF m 39 #[.val (.ref a), .val (.ref tx), .val (.int off), .val (.int ln), .unset] [(.ref a)])) (fun t_ k_ => XS.aloadN X454.here hx rfl (hb hby own_d_read_38) rfl rfl k_) ?_
      refine own_by (T' := T454) (g' := (mkF m 40 #[.val (.ref a), .val (.ref tx), .val (.int off), .val (.int ln), .unset] [(.ref a), (.ref a)])) (fun t_ k_ => XS.aloadN X454.here hx rfl (hb hby own_d_read_39) rfl rfl k_) ?_
      obtain ⟨T470, X470, e470, st470⟩ := getF X454 hx hZ hown (host := "") (Or.inl (hw _ (List.mem_of_getElem? (i := 21) rfl))) Via.refl e454 f461 (g := (mkF m 40 #[.val (.ref a), .val (.ref tx), .val (.int off), .val (.int ln), .unset] [(.ref a), (.ref a)])) rfl rfl (hb hby own_d_read_40)
      refine own_by (T' := T470) (g' := (mkF m 43 #[.val (.ref a), .val (.ref tx), .val (.int off), .val (.int ln), .unset] [(.int (0 : Int32)), (.ref a)])) st470 ?_
      refine own_by (T' := T470) (g' := (mkF m 52 #[.val (.ref a), .val (.ref tx), .val (.int off), .val (.int ln), .unset] [(.ref a)])) (fun t_ k_ => XS.ifYes X470.here hx rfl (pc0 := 43) (pc' := 52) rfl (hb hby own_d_read_43) rfl ((if0 _ _).trans (teq ((by decide) : (0 : Int32) = (0 : Int32))).1) (by decide) (by decide) k_) ?_
      refine own_by (T' := T470) (g' := (mkF m 53 #[.val (.ref a), .val (.ref tx), .val (.int off), .val (.int ln), .unset] [(.int off), (.ref a)])) (fun t_ k_ => XS.iloadN X470.here hx rfl (hb hby own_d_read_52) rfl k_) ?_
      obtain ⟨T471, h471, X471, e471, W471, st471⟩ := putF X470 hx hZ hown (host := "") (Or.inl (hw _ (List.mem_of_getElem? (i := 23) rfl))) Via.refl e470 f462 f456 (Or.inl (hw _ (List.mem_of_getElem? (i := 24) rfl))) (hw _ (List.mem_of_getElem? (i := 2) rfl)) (ty := .int) (by decide) rfl rfl (g := (mkF m 53 #[.val (.ref a), .val (.ref tx), .val (.int off), .val (.int ln), .unset] [(.int off), (.ref a)])) rfl rfl (hb hby own_d_read_53)
      refine own_by (T' := T471) (g' := (mkF m 56 #[.val (.ref a), .val (.ref tx), .val (.int off), .val (.int ln), .unset] [])) st471 ?_
      have N471 := Fr.snoc X471 N454 G0
      have f472 := Nat.le_trans f455 (Keep.of_wr W471).1
      have f473 := Exa.wr W471 f456
      have f474 := own_Ia_other W471 f457 n1
      have f475 := Fld.other W471 f458 (Or.inr (slot_ne (Or.inl (hw _ (List.mem_of_getElem? (i := 16) rfl))) (Or.inl (hw _ (List.mem_of_getElem? (i := 24) rfl))) (by decide) (t := (.array .char)) (t' := .int) (by decide) (by decide)))
      have f476 := Fld.other W471 f459 (Or.inr (slot_ne (Or.inl (hw _ (List.mem_of_getElem? (i := 18) rfl))) (Or.inl (hw _ (List.mem_of_getElem? (i := 24) rfl))) (by decide) (t := .int) (t' := .int) (by decide) (by decide)))
      have f477 := Fld.other W471 f460 (Or.inr (slot_ne (Or.inl (hw _ (List.mem_of_getElem? (i := 20) rfl))) (Or.inl (hw _ (List.mem_of_getElem? (i := 24) rfl))) (by decide) (t := .int) (t' := .int) (by decide) (by decide)))
      have f478 := Fld.other W471 f461 (Or.inr (slot_ne (Or.inl (hw _ (List.mem_of_getElem? (i := 22) rfl))) (Or.inl (hw _ (List.mem_of_getElem? (i := 24) rfl))) (by decide) (t := .boolean) (t' := .int) (by decide) (by decide)))
      have f479 := Fld.same W471 f462
      have f480 := Fld.other W471 f463 (Or.inr (slot_ne (Or.inl (hw _ (List.mem_of_getElem? (i := 26) rfl))) (Or.inl (hw _ (List.mem_of_getElem? (i := 24) rfl))) (by decide) (t := .int) (t' := .int) (by decide) (by decide)))
      have f481 := Fld.other W471 f464 (Or.inr (slot_ne (Or.inl (hw _ (List.mem_of_getElem? (i := 28) rfl))) (Or.inl (hw _ (List.mem_of_getElem? (i := 24) rfl))) (by decide) (t := .int) (t' := .int) (by decide) (by decide)))
      have f482 := Fld.other W471 f465 (Or.inr (slot_ne (Or.inl (hw _ (List.mem_of_getElem? (i := 30) rfl))) (Or.inl (hw _ (List.mem_of_getElem? (i := 24) rfl))) (by decide) (t := .int) (t' := .int) (by decide) (by decide)))
      have f483 := Fld.other W471 f466 (Or.inr (slot_ne (Or.inl (hw _ (List.mem_of_getElem? (i := 36) rfl))) (Or.inl (hw _ (List.mem_of_getElem? (i := 24) rfl))) (by decide) (t := .int) (t' := .int) (by decide) (by decide)))
      have f484 := Fld.other W471 f467 (Or.inr (slot_ne (Or.inl (hw _ (List.mem_of_getElem? (i := 42) rfl))) (Or.inl (hw _ (List.mem_of_getElem? (i := 24) rfl))) (by decide) (t := .int) (t' := .int) (by decide) (by decide)))
      have f485 := Fld.other W471 f468 (Or.inr (slot_ne (Or.inl (hw _ (List.mem_of_getElem? (i := 44) rfl))) (Or.inl (hw _ (List.mem_of_getElem? (i := 24) rfl))) (by decide) (t := .boolean) (t' := .int) (by decide) (by decide)))
      have f486 := Keep.wr f469 W471 (Or.inl (List.mem_of_getElem? (i := 0) rfl))
      refine own_by (T' := T471) (g' := (mkF m 57 #[.val (.ref a), .val (.ref tx), .val (.int off), .val (.int ln), .unset] [(.ref a)])) (fun t_ k_ => XS.aloadN X471.here hx rfl (hb hby own_d_read_56) rfl rfl k_) ?_
      refine own_by (T' := T471) (g' := (mkF m 58 #[.val (.ref a), .val (.ref tx), .val (.int off), .val (.int ln), .unset] [(.ref a), (.ref a)])) (fun t_ k_ => XS.aloadN X471.here hx rfl (hb hby own_d_read_57) rfl rfl k_) ?_
      obtain ⟨T487, X487, e487, st487⟩ := getF X471 hx hZ hown (host := "") (Or.inl (hw _ (List.mem_of_getElem? (i := 23) rfl))) Via.refl e471 f479 (g := (mkF m 58 #[.val (.ref a), .val (.ref tx), .val (.int off), .val (.int ln), .unset] [(.ref a), (.ref a)])) rfl rfl (hb hby own_d_read_58)
      refine own_by (T' := T487) (g' := (mkF m 61 #[.val (.ref a), .val (.ref tx), .val (.int off), .val (.int ln), .unset] [(.int off), (.ref a)])) st487 ?_
      obtain ⟨T488, h488, X488, e488, W488, st488⟩ := putF X487 hx hZ hown (host := "") (Or.inl (hw _ (List.mem_of_getElem? (i := 25) rfl))) Via.refl e487 f480 f473 (Or.inl (hw _ (List.mem_of_getElem? (i := 26) rfl))) (hw _ (List.mem_of_getElem? (i := 2) rfl)) (ty := .int) (by decide) rfl rfl (g := (mkF m 61 #[.val (.ref a), .val (.ref tx), .val (.int off), .val (.int ln), .unset] [(.int off), (.ref a)])) rfl rfl (hb hby own_d_read_61)
      refine own_by (T' := T488) (g' := (mkF m 64 #[.val (.ref a), .val (.ref tx), .val (.int off), .val (.int ln), .unset] [])) st488 ?_
      have N488 := Fr.snoc X488 N471 G0
      have f489 := Nat.le_trans f472 (Keep.of_wr W488).1
      have f490 := Exa.wr W488 f473
      have f491 := own_Ia_other W488 f474 n1
      have f492 := Fld.other W488 f475 (Or.inr (slot_ne (Or.inl (hw _ (List.mem_of_getElem? (i := 16) rfl))) (Or.inl (hw _ (List.mem_of_getElem? (i := 26) rfl))) (by decide) (t := (.array .char)) (t' := .int) (by decide) (by decide)))
      have f493 := Fld.other W488 f476 (Or.inr (slot_ne (Or.inl (hw _ (List.mem_of_getElem? (i := 18) rfl))) (Or.inl (hw _ (List.mem_of_getElem? (i := 26) rfl))) (by decide) (t := .int) (t' := .int) (by decide) (by decide)))
      have f494 := Fld.other W488 f477 (Or.inr (slot_ne (Or.inl (hw _ (List.mem_of_getElem? (i := 20) rfl))) (Or.inl (hw _ (List.mem_of_getElem? (i := 26) rfl))) (by decide) (t := .int) (t' := .int) (by decide) (by decide)))
      have f495 := Fld.other W488 f478 (Or.inr (slot_ne (Or.inl (hw _ (List.mem_of_getElem? (i := 22) rfl))) (Or.inl (hw _ (List.mem_of_getElem? (i := 26) rfl))) (by decide) (t := .boolean) (t' := .int) (by decide) (by decide)))
      have f496 := Fld.other W488 f479 (Or.inr (slot_ne (Or.inl (hw _ (List.mem_of_getElem? (i := 24) rfl))) (Or.inl (hw _ (List.mem_of_getElem? (i := 26) rfl))) (by decide) (t := .int) (t' := .int) (by decide) (by decide)))
      have f497 := Fld.same W488 f480
      have f498 := Fld.other W488 f481 (Or.inr (slot_ne (Or.inl (hw _ (List.mem_of_getElem? (i := 28) rfl))) (Or.inl (hw _ (List.mem_of_getElem? (i := 26) rfl))) (by decide) (t := .int) (t' := .int) (by decide) (by decide)))
      have f499 := Fld.other W488 f482 (Or.inr (slot_ne (Or.inl (hw _ (List.mem_of_getElem? (i := 30) rfl))) (Or.inl (hw _ (List.mem_of_getElem? (i := 26) rfl))) (by decide) (t := .int) (t' := .int) (by decide) (by decide)))
      have f500 := Fld.other W488 f483 (Or.inr (slot_ne (Or.inl (hw _ (List.mem_of_getElem? (i := 36) rfl))) (Or.inl (hw _ (List.mem_of_getElem? (i := 26) rfl))) (by decide) (t := .int) (t' := .int) (by decide) (by decide)))
      have f501 := Fld.other W488 f484 (Or.inr (slot_ne (Or.inl (hw _ (List.mem_of_getElem? (i := 42) rfl))) (Or.inl (hw _ (List.mem_of_getElem? (i := 26) rfl))) (by decide) (t := .int) (t' := .int) (by decide) (by decide)))
      have f502 := Fld.other W488 f485 (Or.inr (slot_ne (Or.inl (hw _ (List.mem_of_getElem? (i := 44) rfl))) (Or.inl (hw _ (List.mem_of_getElem? (i := 26) rfl))) (by decide) (t := .boolean) (t' := .int) (by decide) (by decide)))
      have f503 := Keep.wr f486 W488 (Or.inl (List.mem_of_getElem? (i := 0) rfl))
      refine own_by (T' := T488) (g' := (mkF m 65 #[.val (.ref a), .val (.ref tx), .val (.int off), .val (.int ln), .unset] [(.ref a)])) (fun t_ k_ => XS.aloadN X488.here hx rfl (hb hby own_d_read_64) rfl rfl k_) ?_
      refine own_by (T' := T488) (g' := (mkF m 66 #[.val (.ref a), .val (.ref tx), .val (.int off), .val (.int ln), .unset] [(.int (-1 : Int32)), (.ref a)])) (fun t_ k_ => XS.iconst X488.here hx rfl (hb hby own_d_read_65) k_) ?_
      obtain ⟨T504, h504, X504, e504, W504, st504⟩ := putF X488 hx hZ hown (host := "") (Or.inl (hw _ (List.mem_of_getElem? (i := 27) rfl))) Via.refl e488 f498 f490 (Or.inl (hw _ (List.mem_of_getElem? (i := 28) rfl))) (hw _ (List.mem_of_getElem? (i := 2) rfl)) (ty := .int) (by decide) rfl rfl (g := (mkF m 66 #[.val (.ref a), .val (.ref tx), .val (.int off), .val (.int ln), .unset] [(.int (-1 : Int32)), (.ref a)])) rfl rfl (hb hby own_d_read_66)
      refine own_by (T' := T504) (g' := (mkF m 69 #[.val (.ref a), .val (.ref tx), .val (.int off), .val (.int ln), .unset] [])) st504 ?_
      have N504 := Fr.snoc X504 N488 G0
      have f505 := Nat.le_trans f489 (Keep.of_wr W504).1
      have f506 := Exa.wr W504 f490
      have f507 := own_Ia_other W504 f491 n1
      have f508 := Fld.other W504 f492 (Or.inr (slot_ne (Or.inl (hw _ (List.mem_of_getElem? (i := 16) rfl))) (Or.inl (hw _ (List.mem_of_getElem? (i := 28) rfl))) (by decide) (t := (.array .char)) (t' := .int) (by decide) (by decide)))
      have f509 := Fld.other W504 f493 (Or.inr (slot_ne (Or.inl (hw _ (List.mem_of_getElem? (i := 18) rfl))) (Or.inl (hw _ (List.mem_of_getElem? (i := 28) rfl))) (by decide) (t := .int) (t' := .int) (by decide) (by decide)))
      have f510 := Fld.other W504 f494 (Or.inr (slot_ne (Or.inl (hw _ (List.mem_of_getElem? (i := 20) rfl))) (Or.inl (hw _ (List.mem_of_getElem? (i := 28) rfl))) (by decide) (t := .int) (t' := .int) (by decide) (by decide)))
      have f511 := Fld.other W504 f495 (Or.inr (slot_ne (Or.inl (hw _ (List.mem_of_getElem? (i := 22) rfl))) (Or.inl (hw _ (List.mem_of_getElem? (i := 28) rfl))) (by decide) (t := .boolean) (t' := .int) (by decide) (by decide)))
      have f512 := Fld.other W504 f496 (Or.inr (slot_ne (Or.inl (hw _ (List.mem_of_getElem? (i := 24) rfl))) (Or.inl (hw _ (List.mem_of_getElem? (i := 28) rfl))) (by decide) (t := .int) (t' := .int) (by decide) (by decide)))
      have f513 := Fld.other W504 f497 (Or.inr (slot_ne (Or.inl (hw _ (List.mem_of_getElem? (i := 26) rfl))) (Or.inl (hw _ (List.mem_of_getElem? (i := 28) rfl))) (by decide) (t := .int) (t' := .int) (by decide) (by decide)))
      have f514 := Fld.same W504 f498
      have f515 := Fld.other W504 f499 (Or.inr (slot_ne (Or.inl (hw _ (List.mem_of_getElem? (i := 30) rfl))) (Or.inl (hw _ (List.mem_of_getElem? (i := 28) rfl))) (by decide) (t := .int) (t' := .int) (by decide) (by decide)))
      have f516 := Fld.other W504 f500 (Or.inr (slot_ne (Or.inl (hw _ (List.mem_of_getElem? (i := 36) rfl))) (Or.inl (hw _ (List.mem_of_getElem? (i := 28) rfl))) (by decide) (t := .int) (t' := .int) (by decide) (by decide)))
      have f517 := Fld.other W504 f501 (Or.inr (slot_ne (Or.inl (hw _ (List.mem_of_getElem? (i := 42) rfl))) (Or.inl (hw _ (List.mem_of_getElem? (i := 28) rfl))) (by decide) (t := .int) (t' := .int) (by decide) (by decide)))
      have f518 := Fld.other W504 f502 (Or.inr (slot_ne (Or.inl (hw _ (List.mem_of_getElem? (i := 44) rfl))) (Or.inl (hw _ (List.mem_of_getElem? (i := 28) rfl))) (by decide) (t := .boolean) (t' := .int) (by decide) (by decide)))
      have f519 := Keep.wr f503 W504 (Or.inl (List.mem_of_getElem? (i := 0) rfl))
      exact l69 _ (0 : Int32) off off (-1 : Int32) u_first u_last u_exponentAt u_negativeExponent T504 h504 _ X504 e504 N504 f505 f519 f506 f507 f508 f509 f510 f511 f512 f513 f514 f515 f516 f517 f518 ho ⟨Int.le_refl _, by omega⟩ (Int.le_refl _) (fun q => absurd q (by decide)) (own_J0 f off) rfl
  · skip
    refine own_by (T' := T370) (g' := (mkF m 34 #[.val (.ref a), .val (.ref tx), .val (.int off), .val (.int ln), .unset] [(.ref a)])) (fun t_ k_ => XS.ifYes X370.here hx rfl (pc0 := 19) (pc' := 34) rfl (hb hby own_d_read_19) rfl ((if0 _ _).trans (flt (c19_386 : ¬ ((0 : Int32) < ln))).2.2.2) (by decide) (by decide) k_) ?_
    refine own_by (T' := T370) (g' := (mkF m 35 #[.val (.ref a), .val (.ref tx), .val (.int off), .val (.int ln), .unset] [(.int (0 : Int32)), (.ref a)])) (fun t_ k_ => XS.iconst X370.here hx rfl (hb hby own_d_read_34) k_) ?_
    obtain ⟨T520, h520, X520, e520, W520, st520⟩ := putF X370 hx hZ hown (host := "") (Or.inl (hw _ (List.mem_of_getElem? (i := 21) rfl))) Via.refl e370 f377 f372 (Or.inl (hw _ (List.mem_of_getElem? (i := 22) rfl))) (hw _ (List.mem_of_getElem? (i := 2) rfl)) (ty := .boolean) (by decide) rfl rfl (g := (mkF m 35 #[.val (.ref a), .val (.ref tx), .val (.int off), .val (.int ln), .unset] [(.int (0 : Int32)), (.ref a)])) rfl rfl (hb hby own_d_read_35)
    refine own_by (T' := T520) (g' := (mkF m 38 #[.val (.ref a), .val (.ref tx), .val (.int off), .val (.int ln), .unset] [])) st520 ?_
    have N520 := Fr.snoc X520 N370 G0
    have f521 := Nat.le_trans f371 (Keep.of_wr W520).1
    have f522 := Exa.wr W520 f372
    have f523 := own_Ia_other W520 f373 n1
    have f524 := Fld.other W520 f374 (Or.inr (slot_ne (Or.inl (hw _ (List.mem_of_getElem? (i := 16) rfl))) (Or.inl (hw _ (List.mem_of_getElem? (i := 22) rfl))) (by decide) (t := (.array .char)) (t' := .boolean) (by decide) (by decide)))
    have f525 := Fld.other W520 f375 (Or.inr (slot_ne (Or.inl (hw _ (List.mem_of_getElem? (i := 18) rfl))) (Or.inl (hw _ (List.mem_of_getElem? (i := 22) rfl))) (by decide) (t := .int) (t' := .boolean) (by decide) (by decide)))
    have f526 := Fld.other W520 f376 (Or.inr (slot_ne (Or.inl (hw _ (List.mem_of_getElem? (i := 20) rfl))) (Or.inl (hw _ (List.mem_of_getElem? (i := 22) rfl))) (by decide) (t := .int) (t' := .boolean) (by decide) (by decide)))
    have f527 := Fld.same W520 f377
    have f528 := Fld.other W520 f378 (Or.inr (slot_ne (Or.inl (hw _ (List.mem_of_getElem? (i := 24) rfl))) (Or.inl (hw _ (List.mem_of_getElem? (i := 22) rfl))) (by decide) (t := .int) (t' := .boolean) (by decide) (by decide)))
    have f529 := Fld.other W520 f379 (Or.inr (slot_ne (Or.inl (hw _ (List.mem_of_getElem? (i := 26) rfl))) (Or.inl (hw _ (List.mem_of_getElem? (i := 22) rfl))) (by decide) (t := .int) (t' := .boolean) (by decide) (by decide)))
    have f530 := Fld.other W520 f380 (Or.inr (slot_ne (Or.inl (hw _ (List.mem_of_getElem? (i := 28) rfl))) (Or.inl (hw _ (List.mem_of_getElem? (i := 22) rfl))) (by decide) (t := .int) (t' := .boolean) (by decide) (by decide)))
    have f531 := Fld.other W520 f381 (Or.inr (slot_ne (Or.inl (hw _ (List.mem_of_getElem? (i := 30) rfl))) (Or.inl (hw _ (List.mem_of_getElem? (i := 22) rfl))) (by decide) (t := .int) (t' := .boolean) (by decide) (by decide)))
    have f532 := Fld.other W520 f382 (Or.inr (slot_ne (Or.inl (hw _ (List.mem_of_getElem? (i := 36) rfl))) (Or.inl (hw _ (List.mem_of_getElem? (i := 22) rfl))) (by decide) (t := .int) (t' := .boolean) (by decide) (by decide)))
    have f533 := Fld.other W520 f383 (Or.inr (slot_ne (Or.inl (hw _ (List.mem_of_getElem? (i := 42) rfl))) (Or.inl (hw _ (List.mem_of_getElem? (i := 22) rfl))) (by decide) (t := .int) (t' := .boolean) (by decide) (by decide)))
    have f534 := Fld.other W520 f384 (Or.inr (slot_ne (Or.inl (hw _ (List.mem_of_getElem? (i := 44) rfl))) (Or.inl (hw _ (List.mem_of_getElem? (i := 22) rfl))) (by decide) (t := .boolean) (t' := .boolean) (by decide) (by decide)))
    have f535 := Keep.wr f385 W520 (Or.inl (List.mem_of_getElem? (i := 0) rfl))
    refine own_by (T' := T520) (g' := (mkF m 39 #[.val (.ref a), .val (.ref tx), .val (.int off), .val (.int ln), .unset] [(.ref a)])) (fun t_ k_ => XS.aloadN X520.here hx rfl (hb hby own_d_read_38) rfl rfl k_) ?_
    refine own_by (T' := T520) (g' := (mkF m 40 #[.val (.ref a), .val (.ref tx), .val (.int off), .val (.int ln), .unset] [(.ref a), (.ref a)])) (fun t_ k_ => XS.aloadN X520.here hx rfl (hb hby own_d_read_39) rfl rfl k_) ?_
    obtain ⟨T536, X536, e536, st536⟩ := getF X520 hx hZ hown (host := "") (Or.inl (hw _ (List.mem_of_getElem? (i := 21) rfl))) Via.refl e520 f527 (g := (mkF m 40 #[.val (.ref a), .val (.ref tx), .val (.int off), .val (.int ln), .unset] [(.ref a), (.ref a)])) rfl rfl (hb hby own_d_read_40)
    refine own_by (T' := T536) (g' := (mkF m 43 #[.val (.ref a), .val (.ref tx), .val (.int off), .val (.int ln), .unset] [(.int (0 : Int32)), (.ref a)])) st536 ?_
    refine own_by (T' := T536) (g' := (mkF m 52 #[.val (.ref a), .val (.ref tx), .val (.int off), .val (.int ln), .unset] [(.ref a)])) (fun t_ k_ => XS.ifYes X536.here hx rfl (pc0 := 43) (pc' := 52) rfl (hb hby own_d_read_43) rfl ((if0 _ _).trans (teq ((by decide) : (0 : Int32) = (0 : Int32))).1) (by decide) (by decide) k_) ?_
    refine own_by (T' := T536) (g' := (mkF m 53 #[.val (.ref a), .val (.ref tx), .val (.int off), .val (.int ln), .unset] [(.int off), (.ref a)])) (fun t_ k_ => XS.iloadN X536.here hx rfl (hb hby own_d_read_52) rfl k_) ?_
    obtain ⟨T537, h537, X537, e537, W537, st537⟩ := putF X536 hx hZ hown (host := "") (Or.inl (hw _ (List.mem_of_getElem? (i := 23) rfl))) Via.refl e536 f528 f522 (Or.inl (hw _ (List.mem_of_getElem? (i := 24) rfl))) (hw _ (List.mem_of_getElem? (i := 2) rfl)) (ty := .int) (by decide) rfl rfl (g := (mkF m 53 #[.val (.ref a), .val (.ref tx), .val (.int off), .val (.int ln), .unset] [(.int off), (.ref a)])) rfl rfl (hb hby own_d_read_53)
    refine own_by (T' := T537) (g' := (mkF m 56 #[.val (.ref a), .val (.ref tx), .val (.int off), .val (.int ln), .unset] [])) st537 ?_
    have N537 := Fr.snoc X537 N520 G0
    have f538 := Nat.le_trans f521 (Keep.of_wr W537).1
    have f539 := Exa.wr W537 f522
    have f540 := own_Ia_other W537 f523 n1
    have f541 := Fld.other W537 f524 (Or.inr (slot_ne (Or.inl (hw _ (List.mem_of_getElem? (i := 16) rfl))) (Or.inl (hw _ (List.mem_of_getElem? (i := 24) rfl))) (by decide) (t := (.array .char)) (t' := .int) (by decide) (by decide)))
    have f542 := Fld.other W537 f525 (Or.inr (slot_ne (Or.inl (hw _ (List.mem_of_getElem? (i := 18) rfl))) (Or.inl (hw _ (List.mem_of_getElem? (i := 24) rfl))) (by decide) (t := .int) (t' := .int) (by decide) (by decide)))
    have f543 := Fld.other W537 f526 (Or.inr (slot_ne (Or.inl (hw _ (List.mem_of_getElem? (i := 20) rfl))) (Or.inl (hw _ (List.mem_of_getElem? (i := 24) rfl))) (by decide) (t := .int) (t' := .int) (by decide) (by decide)))
    have f544 := Fld.other W537 f527 (Or.inr (slot_ne (Or.inl (hw _ (List.mem_of_getElem? (i := 22) rfl))) (Or.inl (hw _ (List.mem_of_getElem? (i := 24) rfl))) (by decide) (t := .boolean) (t' := .int) (by decide) (by decide)))
    have f545 := Fld.same W537 f528
    have f546 := Fld.other W537 f529 (Or.inr (slot_ne (Or.inl (hw _ (List.mem_of_getElem? (i := 26) rfl))) (Or.inl (hw _ (List.mem_of_getElem? (i := 24) rfl))) (by decide) (t := .int) (t' := .int) (by decide) (by decide)))
    have f547 := Fld.other W537 f530 (Or.inr (slot_ne (Or.inl (hw _ (List.mem_of_getElem? (i := 28) rfl))) (Or.inl (hw _ (List.mem_of_getElem? (i := 24) rfl))) (by decide) (t := .int) (t' := .int) (by decide) (by decide)))
    have f548 := Fld.other W537 f531 (Or.inr (slot_ne (Or.inl (hw _ (List.mem_of_getElem? (i := 30) rfl))) (Or.inl (hw _ (List.mem_of_getElem? (i := 24) rfl))) (by decide) (t := .int) (t' := .int) (by decide) (by decide)))
    have f549 := Fld.other W537 f532 (Or.inr (slot_ne (Or.inl (hw _ (List.mem_of_getElem? (i := 36) rfl))) (Or.inl (hw _ (List.mem_of_getElem? (i := 24) rfl))) (by decide) (t := .int) (t' := .int) (by decide) (by decide)))
    have f550 := Fld.other W537 f533 (Or.inr (slot_ne (Or.inl (hw _ (List.mem_of_getElem? (i := 42) rfl))) (Or.inl (hw _ (List.mem_of_getElem? (i := 24) rfl))) (by decide) (t := .int) (t' := .int) (by decide) (by decide)))
    have f551 := Fld.other W537 f534 (Or.inr (slot_ne (Or.inl (hw _ (List.mem_of_getElem? (i := 44) rfl))) (Or.inl (hw _ (List.mem_of_getElem? (i := 24) rfl))) (by decide) (t := .boolean) (t' := .int) (by decide) (by decide)))
    have f552 := Keep.wr f535 W537 (Or.inl (List.mem_of_getElem? (i := 0) rfl))
    refine own_by (T' := T537) (g' := (mkF m 57 #[.val (.ref a), .val (.ref tx), .val (.int off), .val (.int ln), .unset] [(.ref a)])) (fun t_ k_ => XS.aloadN X537.here hx rfl (hb hby own_d_read_56) rfl rfl k_) ?_
    refine own_by (T' := T537) (g' := (mkF m 58 #[.val (.ref a), .val (.ref tx), .val (.int off), .val (.int ln), .unset] [(.ref a), (.ref a)])) (fun t_ k_ => XS.aloadN X537.here hx rfl (hb hby own_d_read_57) rfl rfl k_) ?_
    obtain ⟨T553, X553, e553, st553⟩ := getF X537 hx hZ hown (host := "") (Or.inl (hw _ (List.mem_of_getElem? (i := 23) rfl))) Via.refl e537 f545 (g := (mkF m 58 #[.val (.ref a), .val (.ref tx), .val (.int off), .val (.int ln), .unset] [(.ref a), (.ref a)])) rfl rfl (hb hby own_d_read_58)
    refine own_by (T' := T553) (g' := (mkF m 61 #[.val (.ref a), .val (.ref tx), .val (.int off), .val (.int ln), .unset] [(.int off), (.ref a)])) st553 ?_
    obtain ⟨T554, h554, X554, e554, W554, st554⟩ := putF X553 hx hZ hown (host := "") (Or.inl (hw _ (List.mem_of_getElem? (i := 25) rfl))) Via.refl e553 f546 f539 (Or.inl (hw _ (List.mem_of_getElem? (i := 26) rfl))) (hw _ (List.mem_of_getElem? (i := 2) rfl)) (ty := .int) (by decide) rfl rfl (g := (mkF m 61 #[.val (.ref a), .val (.ref tx), .val (.int off), .val (.int ln), .unset] [(.int off), (.ref a)])) rfl rfl (hb hby own_d_read_61)
    refine own_by (T' := T554) (g' := (mkF m 64 #[.val (.ref a), .val (.ref tx), .val (.int off), .val (.int ln), .unset] [])) st554 ?_
    have N554 := Fr.snoc X554 N537 G0
    have f555 := Nat.le_trans f538 (Keep.of_wr W554).1
    have f556 := Exa.wr W554 f539
    have f557 := own_Ia_other W554 f540 n1
    have f558 := Fld.other W554 f541 (Or.inr (slot_ne (Or.inl (hw _ (List.mem_of_getElem? (i := 16) rfl))) (Or.inl (hw _ (List.mem_of_getElem? (i := 26) rfl))) (by decide) (t := (.array .char)) (t' := .int) (by decide) (by decide)))
    have f559 := Fld.other W554 f542 (Or.inr (slot_ne (Or.inl (hw _ (List.mem_of_getElem? (i := 18) rfl))) (Or.inl (hw _ (List.mem_of_getElem? (i := 26) rfl))) (by decide) (t := .int) (t' := .int) (by decide) (by decide)))
    have f560 := Fld.other W554 f543 (Or.inr (slot_ne (Or.inl (hw _ (List.mem_of_getElem? (i := 20) rfl))) (Or.inl (hw _ (List.mem_of_getElem? (i := 26) rfl))) (by decide) (t := .int) (t' := .int) (by decide) (by decide)))
    have f561 := Fld.other W554 f544 (Or.inr (slot_ne (Or.inl (hw _ (List.mem_of_getElem? (i := 22) rfl))) (Or.inl (hw _ (List.mem_of_getElem? (i := 26) rfl))) (by decide) (t := .boolean) (t' := .int) (by decide) (by decide)))
    have f562 := Fld.other W554 f545 (Or.inr (slot_ne (Or.inl (hw _ (List.mem_of_getElem? (i := 24) rfl))) (Or.inl (hw _ (List.mem_of_getElem? (i := 26) rfl))) (by decide) (t := .int) (t' := .int) (by decide) (by decide)))
    have f563 := Fld.same W554 f546
    have f564 := Fld.other W554 f547 (Or.inr (slot_ne (Or.inl (hw _ (List.mem_of_getElem? (i := 28) rfl))) (Or.inl (hw _ (List.mem_of_getElem? (i := 26) rfl))) (by decide) (t := .int) (t' := .int) (by decide) (by decide)))
    have f565 := Fld.other W554 f548 (Or.inr (slot_ne (Or.inl (hw _ (List.mem_of_getElem? (i := 30) rfl))) (Or.inl (hw _ (List.mem_of_getElem? (i := 26) rfl))) (by decide) (t := .int) (t' := .int) (by decide) (by decide)))
    have f566 := Fld.other W554 f549 (Or.inr (slot_ne (Or.inl (hw _ (List.mem_of_getElem? (i := 36) rfl))) (Or.inl (hw _ (List.mem_of_getElem? (i := 26) rfl))) (by decide) (t := .int) (t' := .int) (by decide) (by decide)))
    have f567 := Fld.other W554 f550 (Or.inr (slot_ne (Or.inl (hw _ (List.mem_of_getElem? (i := 42) rfl))) (Or.inl (hw _ (List.mem_of_getElem? (i := 26) rfl))) (by decide) (t := .int) (t' := .int) (by decide) (by decide)))
    have f568 := Fld.other W554 f551 (Or.inr (slot_ne (Or.inl (hw _ (List.mem_of_getElem? (i := 44) rfl))) (Or.inl (hw _ (List.mem_of_getElem? (i := 26) rfl))) (by decide) (t := .boolean) (t' := .int) (by decide) (by decide)))
    have f569 := Keep.wr f552 W554 (Or.inl (List.mem_of_getElem? (i := 0) rfl))
    refine own_by (T' := T554) (g' := (mkF m 65 #[.val (.ref a), .val (.ref tx), .val (.int off), .val (.int ln), .unset] [(.ref a)])) (fun t_ k_ => XS.aloadN X554.here hx rfl (hb hby own_d_read_64) rfl rfl k_) ?_
    refine own_by (T' := T554) (g' := (mkF m 66 #[.val (.ref a), .val (.ref tx), .val (.int off), .val (.int ln), .unset] [(.int (-1 : Int32)), (.ref a)])) (fun t_ k_ => XS.iconst X554.here hx rfl (hb hby own_d_read_65) k_) ?_
    obtain ⟨T570, h570, X570, e570, W570, st570⟩ := putF X554 hx hZ hown (host := "") (Or.inl (hw _ (List.mem_of_getElem? (i := 27) rfl))) Via.refl e554 f564 f556 (Or.inl (hw _ (List.mem_of_getElem? (i := 28) rfl))) (hw _ (List.mem_of_getElem? (i := 2) rfl)) (ty := .int) (by decide) rfl rfl (g := (mkF m 66 #[.val (.ref a), .val (.ref tx), .val (.int off), .val (.int ln), .unset] [(.int (-1 : Int32)), (.ref a)])) rfl rfl (hb hby own_d_read_66)
    refine own_by (T' := T570) (g' := (mkF m 69 #[.val (.ref a), .val (.ref tx), .val (.int off), .val (.int ln), .unset] [])) st570 ?_
    have N570 := Fr.snoc X570 N554 G0
    have f571 := Nat.le_trans f555 (Keep.of_wr W570).1
    have f572 := Exa.wr W570 f556
    have f573 := own_Ia_other W570 f557 n1
    have f574 := Fld.other W570 f558 (Or.inr (slot_ne (Or.inl (hw _ (List.mem_of_getElem? (i := 16) rfl))) (Or.inl (hw _ (List.mem_of_getElem? (i := 28) rfl))) (by decide) (t := (.array .char)) (t' := .int) (by decide) (by decide)))
    have f575 := Fld.other W570 f559 (Or.inr (slot_ne (Or.inl (hw _ (List.mem_of_getElem? (i := 18) rfl))) (Or.inl (hw _ (List.mem_of_getElem? (i := 28) rfl))) (by decide) (t := .int) (t' := .int) (by decide) (by decide)))
    have f576 := Fld.other W570 f560 (Or.inr (slot_ne (Or.inl (hw _ (List.mem_of_getElem? (i := 20) rfl))) (Or.inl (hw _ (List.mem_of_getElem? (i := 28) rfl))) (by decide) (t := .int) (t' := .int) (by decide) (by decide)))
    have f577 := Fld.other W570 f561 (Or.inr (slot_ne (Or.inl (hw _ (List.mem_of_getElem? (i := 22) rfl))) (Or.inl (hw _ (List.mem_of_getElem? (i := 28) rfl))) (by decide) (t := .boolean) (t' := .int) (by decide) (by decide)))
    have f578 := Fld.other W570 f562 (Or.inr (slot_ne (Or.inl (hw _ (List.mem_of_getElem? (i := 24) rfl))) (Or.inl (hw _ (List.mem_of_getElem? (i := 28) rfl))) (by decide) (t := .int) (t' := .int) (by decide) (by decide)))
    have f579 := Fld.other W570 f563 (Or.inr (slot_ne (Or.inl (hw _ (List.mem_of_getElem? (i := 26) rfl))) (Or.inl (hw _ (List.mem_of_getElem? (i := 28) rfl))) (by decide) (t := .int) (t' := .int) (by decide) (by decide)))
    have f580 := Fld.same W570 f564
    have f581 := Fld.other W570 f565 (Or.inr (slot_ne (Or.inl (hw _ (List.mem_of_getElem? (i := 30) rfl))) (Or.inl (hw _ (List.mem_of_getElem? (i := 28) rfl))) (by decide) (t := .int) (t' := .int) (by decide) (by decide)))
    have f582 := Fld.other W570 f566 (Or.inr (slot_ne (Or.inl (hw _ (List.mem_of_getElem? (i := 36) rfl))) (Or.inl (hw _ (List.mem_of_getElem? (i := 28) rfl))) (by decide) (t := .int) (t' := .int) (by decide) (by decide)))
    have f583 := Fld.other W570 f567 (Or.inr (slot_ne (Or.inl (hw _ (List.mem_of_getElem? (i := 42) rfl))) (Or.inl (hw _ (List.mem_of_getElem? (i := 28) rfl))) (by decide) (t := .int) (t' := .int) (by decide) (by decide)))
    have f584 := Fld.other W570 f568 (Or.inr (slot_ne (Or.inl (hw _ (List.mem_of_getElem? (i := 44) rfl))) (Or.inl (hw _ (List.mem_of_getElem? (i := 28) rfl))) (by decide) (t := .boolean) (t' := .int) (by decide) (by decide)))
    have f585 := Keep.wr f569 W570 (Or.inl (List.mem_of_getElem? (i := 0) rfl))
    exact l69 _ (0 : Int32) off off (-1 : Int32) u_first u_last u_exponentAt u_negativeExponent T570 h570 _ X570 e570 N570 f571 f585 f572 f573 f574 f575 f576 f577 f578 f579 f580 f581 f582 f583 f584 ho ⟨Int.le_refl _, by omega⟩ (Int.le_refl _) (fun q => absurd q (by decide)) (own_J0 f off) rfl
theorem own_d_isI_0 : decode prog_3_method_4_code 0 = .ok (.aload_n 0, 1) := by decide +kernel
theorem own_d_isI_1 : decode prog_3_method_4_code 1 = .ok (.getfield 47, 3) := by decide +kernel
theorem own_d_isI_4 : decode prog_3_method_4_code 4 = .ok (.ifCond .ge 18, 3) := by decide +kernel
theorem own_d_isI_7 : decode prog_3_method_4_code 7 = .ok (.aload_n 0, 1) := by decide +kernel
theorem own_d_isI_8 : decode prog_3_method_4_code 8 = .ok (.getfield 44, 3) := by decide +kernel
theorem own_d_isI_11 : decode prog_3_method_4_code 11 = .ok (.aload_n 0, 1) := by decide +kernel
theorem own_d_isI_12 : decode prog_3_method_4_code 12 = .ok (.getfield 34, 3) := by decide +kernel
theorem own_d_isI_15 : decode prog_3_method_4_code 15 = .ok (.if_icmp .ne 7, 3) := by decide +kernel
theorem own_d_isI_18 : decode prog_3_method_4_code 18 = .ok (.iconst 1, 1) := by decide +kernel
theorem own_d_isI_19 : decode prog_3_method_4_code 19 = .ok (.goto 4, 3) := by decide +kernel
theorem own_d_isI_22 : decode prog_3_method_4_code 22 = .ok (.iconst 0, 1) := by decide +kernel
theorem own_d_isI_23 : decode prog_3_method_4_code 23 = .ok (.ireturn, 1) := by decide +kernel
theorem own_ef_isI (m : MethodId) (a : Addr) : entryFrame m #[(.ref a)] 1 = mkF m 0 #[.val (.ref a)] [] := by first | (simp [entryFrame, mkF, argsToLocals, Value.category]; done) | rfl
def own_Q_isI (Z : State) (a : Addr) (pt : Int32) (en : Int32) (sp : Int32) (r : Int32) (h0 : Heap) (n0 : Nat) (v : Option Value) (h : Heap) (L : List Loc) : Prop := v = some (.int r) ∧ Fr n0 L ∧ h = h0
set_option maxRecDepth 65536 in
set_option maxHeartbeats 40000000 in
theorem own_rm_isI (l : Launch) (Z : State) (a0 : Array Value) (hw : ∀ d ∈ tables_1, d.before a0 Z = true) (ws : List Jvm.Cond) (a : Addr) (pt : Int32) (en : Int32) (sp : Int32) (r : Int32) (h0 : Heap) (n0 : Nat) (Z0 : n0 ≤ h0.size) (F1 : Fld Z h0 a "com/example/enumconv/enumconv/core/Decimal$Reading" "point" "I" (.int pt)) (F2 : Fld Z h0 a "com/example/enumconv/enumconv/core/Decimal$Reading" "end" "I" (.int en)) (F3 : Fld Z h0 a "com/example/enumconv/enumconv/core/Decimal$Reading" "stop" "I" (.int sp)) (hr : own_int pt en sp = r) :
    MetFree l (⟨"com/example/enumconv/enumconv/core/Decimal$Reading", "isInteger", "()Z"⟩ : MethodName) (head1 (Jvm.Cond.code (⟨"com/example/enumconv/enumconv/core/Decimal$Reading", "isInteger", "()Z"⟩ : MethodName) prog_3_method_4_code 1 (some .boolean) :: ws) ({ frames := 0, cells := 0, slots := 0, locals := 0 } : Room)) (fun a_ U_ => a_ = #[(.ref a)] ∧ Z.Warmed39 U_.vm ∧ U_.heap = h0) (fun _ _ _ _ _ => True) (fun _ U_ o_ U'_ => ∃ v_ L_, o_ = .returned v_ ∧ own_Q_isI Z a pt en sp r h0 n0 v_ U'_.heap L_ ∧ FrameEnd U_ o_ U'_ L_ ({ frames := 0, cells := 0, slots := 0, locals := 0 } : Room).cells ({ frames := 0, cells := 0, slots := 0, locals := 0 } : Room).slots) := by
  refine MetFree.of_bodySF (plainFor_of_name own_pn_com_example_enumconv_enumconv_core_Decimal_Reading) hisR ?_
  intro p e s m args below meth c s₁ Bd hml0 hP hK
  obtain ⟨rfl, hZ, hh⟩ := hP
  have hx := Bd.exec
  have hby := Bd.bytes
  have hlk : meth.locks = false := BodyLoose.notSynchronized Bd
  have hml : c.maxLocals = 1 := hml0
  have hown : s.vm.findClass "com/example/enumconv/enumconv/core/Decimal$Reading" = some m.cls := findClass_of_methodNamed Bd.named
  have hnm := (name_of_methodNamed Bd.named Bd.method).1
  have X0 : Stand p l e ({ frames := 0, cells := 0, slots := 0, locals := 0 } : Room) s m #[(.ref a)] below meth c s₁ [] 0 0 := Stand.of_body Bd
  have e0 : s₁.heap = h0 := by rw [← hh, Bd.state]; rfl
  have N0 := Fr.nil n0
  show own_Goes p e below (own_K (own_Q_isI Z a pt en sp r h0 n0) s ({ frames := 0, cells := 0, slots := 0, locals := 0 } : Room).cells ({ frames := 0, cells := 0, slots := 0, locals := 0 } : Room).slots) s₁ (entryFrame m #[(.ref a)] 1)
  rw [own_ef_isI]
  refine own_by (T' := s₁) (g' := (mkF m 1 #[.val (.ref a)] [(.ref a)])) (fun t_ k_ => XS.aloadN X0.here hx rfl (hb hby own_d_isI_0) rfl rfl k_) ?_
  obtain ⟨T1, X1, e1, st1⟩ := getF X0 hx hZ hown (host := "") (Or.inl (hw _ (List.mem_of_getElem? (i := 27) rfl))) Via.refl e0 F1 (g := (mkF m 1 #[.val (.ref a)] [(.ref a)])) rfl rfl (hb hby own_d_isI_1)
  refine own_by (T' := T1) (g' := (mkF m 4 #[.val (.ref a)] [(.int pt)])) st1 ?_
  by_cases c4_2 : pt < (0 : Int32)
  · skip
    refine own_by (T' := T1) (g' := (mkF m 7 #[.val (.ref a)] [])) (fun t_ k_ => XS.ifNo X1.here hx rfl (hb hby own_d_isI_4) rfl ((if0 _ _).trans (tlt (c4_2 : pt < (0 : Int32))).2.1) k_) ?_
    refine own_by (T' := T1) (g' := (mkF m 8 #[.val (.ref a)] [(.ref a)])) (fun t_ k_ => XS.aloadN X1.here hx rfl (hb hby own_d_isI_7) rfl rfl k_) ?_
    obtain ⟨T3, X3, e3, st3⟩ := getF X1 hx hZ hown (host := "") (Or.inl (hw _ (List.mem_of_getElem? (i := 25) rfl))) Via.refl e1 F2 (g := (mkF m 8 #[.val (.ref a)] [(.ref a)])) rfl rfl (hb hby own_d_isI_8)
    refine own_by (T' := T3) (g' := (mkF m 11 #[.val (.ref a)] [(.int en)])) st3 ?_
    refine own_by (T' := T3) (g' := (mkF m 12 #[.val (.ref a)] [(.ref a), (.int en)])) (fun t_ k_ => XS.aloadN X3.here hx rfl (hb hby own_d_isI_11) rfl rfl k_) ?_
    obtain ⟨T4, X4, e4, st4⟩ := getF X3 hx hZ hown (host := "") (Or.inl (hw _ (List.mem_of_getElem? (i := 19) rfl))) Via.refl e3 F3 (g := (mkF m 12 #[.val (.ref a)] [(.ref a), (.int en)])) rfl rfl (hb hby own_d_isI_12)
    refine own_by (T' := T4) (g' := (mkF m 15 #[.val (.ref a)] [(.int sp), (.int en)])) st4 ?_
    by_cases c15_5 : en = sp
    · skip
      refine own_by (T' := T4) (g' := (mkF m 18 #[.val (.ref a)] [])) (fun t_ k_ => XS.icmpNo X4.here hx rfl (hb hby own_d_isI_15) rfl (teq (c15_5 : en = sp)).2 k_) ?_
      refine own_by (T' := T4) (g' := (mkF m 19 #[.val (.ref a)] [(.int (1 : Int32))])) (fun t_ k_ => XS.iconst X4.here hx rfl (hb hby own_d_isI_18) k_) ?_
      refine own_by (T' := T4) (g' := (mkF m 23 #[.val (.ref a)] [(.int (1 : Int32))])) (fun t_ k_ => XS.goto X4.here hx rfl (pc0 := 19) (pc' := 23) rfl (hb hby own_d_isI_19) (by decide) (by decide) k_) ?_
      refine own_retN X4 hx (t := .boolean) Bd.returns hlk (by simp) (hb hby own_d_isI_23) (by decide) (by decide) (v := (1 : Int32)) rfl ?_
      rw [e4]
      exact ⟨by rw [← hr]; simp [own_int, c4_2, c15_5], N0, rfl⟩
    · skip
      refine own_by (T' := T4) (g' := (mkF m 22 #[.val (.ref a)] [])) (fun t_ k_ => XS.icmpYes X4.here hx rfl (pc0 := 15) (pc' := 22) rfl (hb hby own_d_isI_15) rfl (feq (c15_5 : ¬ (en = sp))).2 (by decide) (by decide) k_) ?_
      refine own_by (T' := T4) (g' := (mkF m 23 #[.val (.ref a)] [(.int (0 : Int32))])) (fun t_ k_ => XS.iconst X4.here hx rfl (hb hby own_d_isI_22) k_) ?_
      refine own_retN X4 hx (t := .boolean) Bd.returns hlk (by simp) (hb hby own_d_isI_23) (by decide) (by decide) (v := (0 : Int32)) rfl ?_
      rw [e4]
      exact ⟨by rw [← hr]; simp [own_int, c4_2, c15_5], N0, rfl⟩
  · skip
    refine own_by (T' := T1) (g' := (mkF m 22 #[.val (.ref a)] [])) (fun t_ k_ => XS.ifYes X1.here hx rfl (pc0 := 4) (pc' := 22) rfl (hb hby own_d_isI_4) rfl ((if0 _ _).trans (flt (c4_2 : ¬ (pt < (0 : Int32)))).2.1) (by decide) (by decide) k_) ?_
    refine own_by (T' := T1) (g' := (mkF m 23 #[.val (.ref a)] [(.int (0 : Int32))])) (fun t_ k_ => XS.iconst X1.here hx rfl (hb hby own_d_isI_22) k_) ?_
    refine own_retN X1 hx (t := .boolean) Bd.returns hlk (by simp) (hb hby own_d_isI_23) (by decide) (by decide) (v := (0 : Int32)) rfl ?_
    rw [e1]
    exact ⟨by rw [← hr]; simp [own_int, c4_2], N0, rfl⟩
theorem own_d_bad_0 : decode method_2_code 0 = .ok (.iload_n 0, 1) := by decide +kernel
theorem own_d_bad_1 : decode method_2_code 1 = .ok (.bipush 46, 2) := by decide +kernel
theorem own_d_bad_3 : decode method_2_code 3 = .ok (.if_icmp .eq 15, 3) := by decide +kernel
theorem own_d_bad_6 : decode method_2_code 6 = .ok (.iload_n 0, 1) := by decide +kernel
theorem own_d_bad_7 : decode method_2_code 7 = .ok (.bipush 101, 2) := by decide +kernel
theorem own_d_bad_9 : decode method_2_code 9 = .ok (.if_icmp .eq 9, 3) := by decide +kernel
theorem own_d_bad_12 : decode method_2_code 12 = .ok (.iload_n 0, 1) := by decide +kernel
theorem own_d_bad_13 : decode method_2_code 13 = .ok (.bipush 69, 2) := by decide +kernel
theorem own_d_bad_15 : decode method_2_code 15 = .ok (.if_icmp .ne 7, 3) := by decide +kernel
theorem own_d_bad_18 : decode method_2_code 18 = .ok (.iconst 1, 1) := by decide +kernel
theorem own_d_bad_19 : decode method_2_code 19 = .ok (.goto 4, 3) := by decide +kernel
theorem own_d_bad_22 : decode method_2_code 22 = .ok (.iconst 0, 1) := by decide +kernel
theorem own_d_bad_23 : decode method_2_code 23 = .ok (.ireturn, 1) := by decide +kernel
theorem own_pn_com_example_enumconv_enumconv_core_ReadingIsIntegerPinLaw : plainName "com/example/enumconv/enumconv/core/ReadingIsIntegerPinLaw" = true := by first | (simp [plainName, overriddenIn]; done) | decide +kernel
theorem own_ef_bad (m : MethodId) (ch : Int32) : entryFrame m #[(.int ch)] 1 = mkF m 0 #[.val (.int ch)] [] := by first | (simp [entryFrame, mkF, argsToLocals, Value.category]; done) | rfl
def own_Q_bad (Z : State) (ch : Int32) (h0 : Heap) (n0 : Nat) (v : Option Value) (h : Heap) (L : List Loc) : Prop := v = some (.int (own_bad ch)) ∧ Fr n0 L ∧ h = h0
set_option maxRecDepth 65536 in
set_option maxHeartbeats 40000000 in
theorem own_rm_bad (l : Launch) (Z : State) (a0 : Array Value) (hw : ∀ d ∈ tables_1, d.before a0 Z = true) (ws : List Jvm.Cond) (ch : Int32) (h0 : Heap) (n0 : Nat) (Z0 : n0 ≤ h0.size) :
    MetFree l (⟨"com/example/enumconv/enumconv/core/ReadingIsIntegerPinLaw", "bad", "(C)Z"⟩ : MethodName) (head1 (Jvm.Cond.code (⟨"com/example/enumconv/enumconv/core/ReadingIsIntegerPinLaw", "bad", "(C)Z"⟩ : MethodName) method_2_code 1 (some .boolean) :: ws) ({ frames := 0, cells := 0, slots := 0, locals := 0 } : Room)) (fun a_ U_ => a_ = #[(.int ch)] ∧ Z.Warmed39 U_.vm ∧ U_.heap = h0) (fun _ _ _ _ _ => True) (fun _ U_ o_ U'_ => ∃ v_ L_, o_ = .returned v_ ∧ own_Q_bad Z ch h0 n0 v_ U'_.heap L_ ∧ FrameEnd U_ o_ U'_ L_ ({ frames := 0, cells := 0, slots := 0, locals := 0 } : Room).cells ({ frames := 0, cells := 0, slots := 0, locals := 0 } : Room).slots) := by
  refine MetFree.of_bodySF (plainFor_of_name own_pn_com_example_enumconv_enumconv_core_ReadingIsIntegerPinLaw) hisR ?_
  intro p e s m args below meth c s₁ Bd hml0 hP hK
  obtain ⟨rfl, hZ, hh⟩ := hP
  have hx := Bd.exec
  have hby := Bd.bytes
  have hlk : meth.locks = false := BodyLoose.notSynchronized Bd
  have hml : c.maxLocals = 1 := hml0
  have hown : s.vm.findClass "com/example/enumconv/enumconv/core/ReadingIsIntegerPinLaw" = some m.cls := findClass_of_methodNamed Bd.named
  have hnm := (name_of_methodNamed Bd.named Bd.method).1
  have X0 : Stand p l e ({ frames := 0, cells := 0, slots := 0, locals := 0 } : Room) s m #[(.int ch)] below meth c s₁ [] 0 0 := Stand.of_body Bd
  have e0 : s₁.heap = h0 := by rw [← hh, Bd.state]; rfl
  have N0 := Fr.nil n0
  show own_Goes p e below (own_K (own_Q_bad Z ch h0 n0) s ({ frames := 0, cells := 0, slots := 0, locals := 0 } : Room).cells ({ frames := 0, cells := 0, slots := 0, locals := 0 } : Room).slots) s₁ (entryFrame m #[(.int ch)] 1)
  rw [own_ef_bad]
  refine own_by (T' := s₁) (g' := (mkF m 1 #[.val (.int ch)] [(.int ch)])) (fun t_ k_ => XS.iloadN X0.here hx rfl (hb hby own_d_bad_0) rfl k_) ?_
  refine own_by (T' := s₁) (g' := (mkF m 3 #[.val (.int ch)] [(.int (46 : Int32)), (.int ch)])) (fun t_ k_ => XS.bipush X0.here hx rfl (hb hby own_d_bad_1) k_) ?_
  by_cases c3_1 : ch = (46 : Int32)
  · skip
    refine own_by (T' := s₁) (g' := (mkF m 18 #[.val (.int ch)] [])) (fun t_ k_ => XS.icmpYes X0.here hx rfl (pc0 := 3) (pc' := 18) rfl (hb hby own_d_bad_3) rfl (teq (c3_1 : ch = (46 : Int32))).1 (by decide) (by decide) k_) ?_
    refine own_by (T' := s₁) (g' := (mkF m 19 #[.val (.int ch)] [(.int (1 : Int32))])) (fun t_ k_ => XS.iconst X0.here hx rfl (hb hby own_d_bad_18) k_) ?_
    refine own_by (T' := s₁) (g' := (mkF m 23 #[.val (.int ch)] [(.int (1 : Int32))])) (fun t_ k_ => XS.goto X0.here hx rfl (pc0 := 19) (pc' := 23) rfl (hb hby own_d_bad_19) (by decide) (by decide) k_) ?_
    refine own_retN X0 hx (t := .boolean) Bd.returns hlk (by simp) (hb hby own_d_bad_23) (by decide) (by decide) (v := (1 : Int32)) rfl ?_
    rw [e0]
    exact ⟨by simp [own_bad, c3_1], N0, rfl⟩
  · skip
    refine own_by (T' := s₁) (g' := (mkF m 6 #[.val (.int ch)] [])) (fun t_ k_ => XS.icmpNo X0.here hx rfl (hb hby own_d_bad_3) rfl (feq (c3_1 : ¬ (ch = (46 : Int32)))).1 k_) ?_
    refine own_by (T' := s₁) (g' := (mkF m 7 #[.val (.int ch)] [(.int ch)])) (fun t_ k_ => XS.iloadN X0.here hx rfl (hb hby own_d_bad_6) rfl k_) ?_
    refine own_by (T' := s₁) (g' := (mkF m 9 #[.val (.int ch)] [(.int (101 : Int32)), (.int ch)])) (fun t_ k_ => XS.bipush X0.here hx rfl (hb hby own_d_bad_7) k_) ?_
    by_cases c9_2 : ch = (101 : Int32)
    · skip
      refine own_by (T' := s₁) (g' := (mkF m 18 #[.val (.int ch)] [])) (fun t_ k_ => XS.icmpYes X0.here hx rfl (pc0 := 9) (pc' := 18) rfl (hb hby own_d_bad_9) rfl (teq (c9_2 : ch = (101 : Int32))).1 (by decide) (by decide) k_) ?_
      refine own_by (T' := s₁) (g' := (mkF m 19 #[.val (.int ch)] [(.int (1 : Int32))])) (fun t_ k_ => XS.iconst X0.here hx rfl (hb hby own_d_bad_18) k_) ?_
      refine own_by (T' := s₁) (g' := (mkF m 23 #[.val (.int ch)] [(.int (1 : Int32))])) (fun t_ k_ => XS.goto X0.here hx rfl (pc0 := 19) (pc' := 23) rfl (hb hby own_d_bad_19) (by decide) (by decide) k_) ?_
      refine own_retN X0 hx (t := .boolean) Bd.returns hlk (by simp) (hb hby own_d_bad_23) (by decide) (by decide) (v := (1 : Int32)) rfl ?_
      rw [e0]
      exact ⟨by simp [own_bad, c3_1, c9_2], N0, rfl⟩
    · skip
      refine own_by (T' := s₁) (g' := (mkF m 12 #[.val (.int ch)] [])) (fun t_ k_ => XS.icmpNo X0.here hx rfl (hb hby own_d_bad_9) rfl (feq (c9_2 : ¬ (ch = (101 : Int32)))).1 k_) ?_
      refine own_by (T' := s₁) (g' := (mkF m 13 #[.val (.int ch)] [(.int ch)])) (fun t_ k_ => XS.iloadN X0.here hx rfl (hb hby own_d_bad_12) rfl k_) ?_
      refine own_by (T' := s₁) (g' := (mkF m 15 #[.val (.int ch)] [(.int (69 : Int32)), (.int ch)])) (fun t_ k_ => XS.bipush X0.here hx rfl (hb hby own_d_bad_13) k_) ?_
      by_cases c15_3 : ch = (69 : Int32)
      · skip
        refine own_by (T' := s₁) (g' := (mkF m 18 #[.val (.int ch)] [])) (fun t_ k_ => XS.icmpNo X0.here hx rfl (hb hby own_d_bad_15) rfl (teq (c15_3 : ch = (69 : Int32))).2 k_) ?_
        refine own_by (T' := s₁) (g' := (mkF m 19 #[.val (.int ch)] [(.int (1 : Int32))])) (fun t_ k_ => XS.iconst X0.here hx rfl (hb hby own_d_bad_18) k_) ?_
        refine own_by (T' := s₁) (g' := (mkF m 23 #[.val (.int ch)] [(.int (1 : Int32))])) (fun t_ k_ => XS.goto X0.here hx rfl (pc0 := 19) (pc' := 23) rfl (hb hby own_d_bad_19) (by decide) (by decide) k_) ?_
        refine own_retN X0 hx (t := .boolean) Bd.returns hlk (by simp) (hb hby own_d_bad_23) (by decide) (by decide) (v := (1 : Int32)) rfl ?_
        rw [e0]
        exact ⟨by simp [own_bad, c3_1, c9_2, c15_3], N0, rfl⟩
      · skip
        refine own_by (T' := s₁) (g' := (mkF m 22 #[.val (.int ch)] [])) (fun t_ k_ => XS.icmpYes X0.here hx rfl (pc0 := 15) (pc' := 22) rfl (hb hby own_d_bad_15) rfl (feq (c15_3 : ¬ (ch = (69 : Int32)))).2 (by decide) (by decide) k_) ?_
        refine own_by (T' := s₁) (g' := (mkF m 23 #[.val (.int ch)] [(.int (0 : Int32))])) (fun t_ k_ => XS.iconst X0.here hx rfl (hb hby own_d_bad_22) k_) ?_
        refine own_retN X0 hx (t := .boolean) Bd.returns hlk (by simp) (hb hby own_d_bad_23) (by decide) (by decide) (v := (0 : Int32)) rfl ?_
        rw [e0]
        exact ⟨by simp [own_bad, c3_1, c9_2, c15_3], N0, rfl⟩
theorem own_pd2 : parseMethodDescriptor "(C)Z" = some ⟨[.char], some .boolean⟩ := by decide +kernel
theorem own_d_hit_0 : decode method_3_code 0 = .ok (.iload_n 1, 1) := by decide +kernel
theorem own_d_hit_1 : decode method_3_code 1 = .ok (.iload_n 2, 1) := by decide +kernel
theorem own_d_hit_2 : decode method_3_code 2 = .ok (.if_icmp .lt 23, 3) := by decide +kernel
theorem own_d_hit_5 : decode method_3_code 5 = .ok (.iload_n 1, 1) := by decide +kernel
theorem own_d_hit_6 : decode method_3_code 6 = .ok (.iload_n 2, 1) := by decide +kernel
theorem own_d_hit_7 : decode method_3_code 7 = .ok (.iload_n 3, 1) := by decide +kernel
theorem own_d_hit_8 : decode method_3_code 8 = .ok (.iadd, 1) := by decide +kernel
theorem own_d_hit_9 : decode method_3_code 9 = .ok (.if_icmp .ge 16, 3) := by decide +kernel
theorem own_d_hit_12 : decode method_3_code 12 = .ok (.aload_n 0, 1) := by decide +kernel
theorem own_d_hit_13 : decode method_3_code 13 = .ok (.iload_n 1, 1) := by decide +kernel
theorem own_d_hit_14 : decode method_3_code 14 = .ok (.caload, 1) := by decide +kernel
theorem own_d_hit_15 : decode method_3_code 15 = .ok (.invokestatic 7, 3) := by decide +kernel
theorem own_d_hit_18 : decode method_3_code 18 = .ok (.ifCond .eq 7, 3) := by decide +kernel
theorem own_d_hit_21 : decode method_3_code 21 = .ok (.iconst 1, 1) := by decide +kernel
theorem own_d_hit_22 : decode method_3_code 22 = .ok (.goto 4, 3) := by decide +kernel
theorem own_d_hit_25 : decode method_3_code 25 = .ok (.iconst 0, 1) := by decide +kernel
theorem own_d_hit_26 : decode method_3_code 26 = .ok (.ireturn, 1) := by decide +kernel
theorem own_ef_hit (m : MethodId) (tx : Addr) (i : Int32) (off : Int32) (ln : Int32) : entryFrame m #[(.ref tx), (.int i), (.int off), (.int ln)] 4 = mkF m 0 #[.val (.ref tx), .val (.int i), .val (.int off), .val (.int ln)] [] := by first | (simp [entryFrame, mkF, argsToLocals, Value.category]; done) | rfl
def own_Q_hit (Z : State) (tx : Addr) (i : Int32) (off : Int32) (ln : Int32) (f : Nat → Int32) (h0 : Heap) (n0 : Nat) (v : Option Value) (h : Heap) (L : List Loc) : Prop := v = some (.int (own_hit f i off ln)) ∧ Fr n0 L ∧ h = h0
set_option maxRecDepth 65536 in
set_option maxHeartbeats 40000000 in
theorem own_rm_hit (l : Launch) (Z : State) (a0 : Array Value) (hw : ∀ d ∈ tables_1, d.before a0 Z = true) (ws : List Jvm.Cond) (tx : Addr) (i : Int32) (off : Int32) (ln : Int32) (f : Nat → Int32) (h0 : Heap) (n0 : Nat) (Z0 : n0 ≤ h0.size) (V0 : own_Ia Z h0 tx .char 5 f) (hi : ¬ i < 0 ∧ i.toNatClampNeg < 5) :
    MetFree l (⟨"com/example/enumconv/enumconv/core/ReadingIsIntegerPinLaw", "hit", "([CIII)Z"⟩ : MethodName) (head1 (Jvm.Cond.code (⟨"com/example/enumconv/enumconv/core/ReadingIsIntegerPinLaw", "hit", "([CIII)Z"⟩ : MethodName) method_3_code 4 (some .boolean) :: ws) ({ frames := 1, cells := 0, slots := 0, locals := 12 } : Room)) (fun a_ U_ => a_ = #[(.ref tx), (.int i), (.int off), (.int ln)] ∧ Z.Warmed39 U_.vm ∧ U_.heap = h0) (fun _ _ _ _ _ => True) (fun _ U_ o_ U'_ => ∃ v_ L_, o_ = .returned v_ ∧ own_Q_hit Z tx i off ln f h0 n0 v_ U'_.heap L_ ∧ FrameEnd U_ o_ U'_ L_ ({ frames := 1, cells := 0, slots := 0, locals := 12 } : Room).cells ({ frames := 1, cells := 0, slots := 0, locals := 12 } : Room).slots) := by
  refine MetFree.of_bodySF (plainFor_of_name own_pn_com_example_enumconv_enumconv_core_ReadingIsIntegerPinLaw) hisR ?_
  intro p e s m args below meth c s₁ Bd hml0 hP hK
  obtain ⟨rfl, hZ, hh⟩ := hP
  have hx := Bd.exec
  have hby := Bd.bytes
  have hlk : meth.locks = false := BodyLoose.notSynchronized Bd
  have hml : c.maxLocals = 4 := hml0
  have hown : s.vm.findClass "com/example/enumconv/enumconv/core/ReadingIsIntegerPinLaw" = some m.cls := findClass_of_methodNamed Bd.named
  have hnm := (name_of_methodNamed Bd.named Bd.method).1
  have X0 : Stand p l e ({ frames := 1, cells := 0, slots := 0, locals := 12 } : Room) s m #[(.ref tx), (.int i), (.int off), (.int ln)] below meth c s₁ [] 0 0 := Stand.of_body Bd
  have e0 : s₁.heap = h0 := by rw [← hh, Bd.state]; rfl
  have N0 := Fr.nil n0
  show own_Goes p e below (own_K (own_Q_hit Z tx i off ln f h0 n0) s ({ frames := 1, cells := 0, slots := 0, locals := 12 } : Room).cells ({ frames := 1, cells := 0, slots := 0, locals := 12 } : Room).slots) s₁ (entryFrame m #[(.ref tx), (.int i), (.int off), (.int ln)] 4)
  rw [own_ef_hit]
  refine own_by (T' := s₁) (g' := (mkF m 1 #[.val (.ref tx), .val (.int i), .val (.int off), .val (.int ln)] [(.int i)])) (fun t_ k_ => XS.iloadN X0.here hx rfl (hb hby own_d_hit_0) rfl k_) ?_
  refine own_by (T' := s₁) (g' := (mkF m 2 #[.val (.ref tx), .val (.int i), .val (.int off), .val (.int ln)] [(.int off), (.int i)])) (fun t_ k_ => XS.iloadN X0.here hx rfl (hb hby own_d_hit_1) rfl k_) ?_
  by_cases c2_1 : i < off
  · skip
    refine own_by (T' := s₁) (g' := (mkF m 25 #[.val (.ref tx), .val (.int i), .val (.int off), .val (.int ln)] [])) (fun t_ k_ => XS.icmpYes X0.here hx rfl (pc0 := 2) (pc' := 25) rfl (hb hby own_d_hit_2) rfl (tlt (c2_1 : i < off)).1 (by decide) (by decide) k_) ?_
    refine own_by (T' := s₁) (g' := (mkF m 26 #[.val (.ref tx), .val (.int i), .val (.int off), .val (.int ln)] [(.int (0 : Int32))])) (fun t_ k_ => XS.iconst X0.here hx rfl (hb hby own_d_hit_25) k_) ?_
    refine own_retN X0 hx (t := .boolean) Bd.returns hlk (by simp) (hb hby own_d_hit_26) (by decide) (by decide) (v := (0 : Int32)) rfl ?_
    rw [e0]
    exact ⟨by simp [own_hit, c2_1], N0, rfl⟩
  · skip
    refine own_by (T' := s₁) (g' := (mkF m 5 #[.val (.ref tx), .val (.int i), .val (.int off), .val (.int ln)] [])) (fun t_ k_ => XS.icmpNo X0.here hx rfl (hb hby own_d_hit_2) rfl (flt (c2_1 : ¬ (i < off))).1 k_) ?_
    refine own_by (T' := s₁) (g' := (mkF m 6 #[.val (.ref tx), .val (.int i), .val (.int off), .val (.int ln)] [(.int i)])) (fun t_ k_ => XS.iloadN X0.here hx rfl (hb hby own_d_hit_5) rfl k_) ?_
    refine own_by (T' := s₁) (g' := (mkF m 7 #[.val (.ref tx), .val (.int i), .val (.int off), .val (.int ln)] [(.int off), (.int i)])) (fun t_ k_ => XS.iloadN X0.here hx rfl (hb hby own_d_hit_6) rfl k_) ?_
    refine own_by (T' := s₁) (g' := (mkF m 8 #[.val (.ref tx), .val (.int i), .val (.int off), .val (.int ln)] [(.int ln), (.int off), (.int i)])) (fun t_ k_ => XS.iloadN X0.here hx rfl (hb hby own_d_hit_7) rfl k_) ?_
    refine own_by (T' := s₁) (g' := (mkF m 9 #[.val (.ref tx), .val (.int i), .val (.int off), .val (.int ln)] [(.int (off + ln)), (.int i)])) (fun t_ k_ => XS.iadd X0.here hx rfl (hb hby own_d_hit_8) rfl k_) ?_
    by_cases c9_2 : i < (off + ln)
    · skip
      refine own_by (T' := s₁) (g' := (mkF m 12 #[.val (.ref tx), .val (.int i), .val (.int off), .val (.int ln)] [])) (fun t_ k_ => XS.icmpNo X0.here hx rfl (hb hby own_d_hit_9) rfl (tlt (c9_2 : i < (off + ln))).2.1 k_) ?_
      refine own_by (T' := s₁) (g' := (mkF m 13 #[.val (.ref tx), .val (.int i), .val (.int off), .val (.int ln)] [(.ref tx)])) (fun t_ k_ => XS.aloadN X0.here hx rfl (hb hby own_d_hit_12) rfl rfl k_) ?_
      refine own_by (T' := s₁) (g' := (mkF m 14 #[.val (.ref tx), .val (.int i), .val (.int off), .val (.int ln)] [(.int i), (.ref tx)])) (fun t_ k_ => XS.iloadN X0.here hx rfl (hb hby own_d_hit_13) rfl k_) ?_
      refine own_by (T' := s₁) (g' := (mkF m 15 #[.val (.ref tx), .val (.int i), .val (.int off), .val (.int ln)] [(.int (f i.toNatClampNeg))])) (fun t_ k_ => own_cal X0 hx hZ e0 V0 (j := i) hi.1 hi.2 (g := (mkF m 14 #[.val (.ref tx), .val (.int i), .val (.int off), .val (.int ln)] [(.int i), (.ref tx)])) rfl rfl (hb hby own_d_hit_14) _ k_) ?_
      obtain ⟨_, T3, L3, X3, hQ3, st3⟩ := own_callS X0 hx hZ (y := (⟨"com/example/enumconv/enumconv/core/ReadingIsIntegerPinLaw", "bad", "(C)Z"⟩ : MethodName)) hown (hw _ (List.mem_of_getElem? (i := 57) rfl)) (hw _ (List.mem_of_getElem? (i := 58) rfl)) (hw _ (List.mem_of_getElem? (i := 52) rfl)) (hw _ (List.mem_of_getElem? (i := 59) rfl)) (by decide) (argsL := [(.int (f i.toNatClampNeg))]) (rest := []) (own_rm_bad l Z a0 hw [] (f i.toNatClampNeg)  h0 n0 Z0 ) e0 (W := 0) (by decide) (by decide) (by decide) (by decide) (g := (mkF m 15 #[.val (.ref tx), .val (.int i), .val (.int off), .val (.int ln)] [(.int (f i.toNatClampNeg))])) rfl (by rw [hml]; rfl) (lenOf own_pd2 rfl) rfl (by show 2 * 0 + _ ≤ _; exact Nat.le_of_eq rfl) (hb hby own_d_hit_15)
      obtain ⟨rfl, Nq3, e3⟩ := hQ3
      have N3 := Fr.app N0 Nq3
      refine st3 _ ?_
      show own_Goes p e below _ T3 (mkF m 18 #[.val (.ref tx), .val (.int i), .val (.int off), .val (.int ln)] [(.int (own_bad (f i.toNatClampNeg)))])
      by_cases c18_4 : (own_bad (f i.toNatClampNeg)) = (0 : Int32)
      · skip
        refine own_by (T' := T3) (g' := (mkF m 25 #[.val (.ref tx), .val (.int i), .val (.int off), .val (.int ln)] [])) (fun t_ k_ => XS.ifYes X3.here hx rfl (pc0 := 18) (pc' := 25) rfl (hb hby own_d_hit_18) rfl ((if0 _ _).trans (teq (c18_4 : (own_bad (f i.toNatClampNeg)) = (0 : Int32))).1) (by decide) (by decide) k_) ?_
        refine own_by (T' := T3) (g' := (mkF m 26 #[.val (.ref tx), .val (.int i), .val (.int off), .val (.int ln)] [(.int (0 : Int32))])) (fun t_ k_ => XS.iconst X3.here hx rfl (hb hby own_d_hit_25) k_) ?_
        refine own_retN X3 hx (t := .boolean) Bd.returns hlk (by simp) (hb hby own_d_hit_26) (by decide) (by decide) (v := (0 : Int32)) rfl ?_
        rw [e3]
        exact ⟨by simp [own_hit, c2_1, c9_2, c18_4], N3, rfl⟩
      · skip
        refine own_by (T' := T3) (g' := (mkF m 21 #[.val (.ref tx), .val (.int i), .val (.int off), .val (.int ln)] [])) (fun t_ k_ => XS.ifNo X3.here hx rfl (hb hby own_d_hit_18) rfl ((if0 _ _).trans (feq (c18_4 : ¬ ((own_bad (f i.toNatClampNeg)) = (0 : Int32)))).1) k_) ?_
        refine own_by (T' := T3) (g' := (mkF m 22 #[.val (.ref tx), .val (.int i), .val (.int off), .val (.int ln)] [(.int (1 : Int32))])) (fun t_ k_ => XS.iconst X3.here hx rfl (hb hby own_d_hit_21) k_) ?_
        refine own_by (T' := T3) (g' := (mkF m 26 #[.val (.ref tx), .val (.int i), .val (.int off), .val (.int ln)] [(.int (1 : Int32))])) (fun t_ k_ => XS.goto X3.here hx rfl (pc0 := 22) (pc' := 26) rfl (hb hby own_d_hit_22) (by decide) (by decide) k_) ?_
        refine own_retN X3 hx (t := .boolean) Bd.returns hlk (by simp) (hb hby own_d_hit_26) (by decide) (by decide) (v := (1 : Int32)) rfl ?_
        rw [e3]
        exact ⟨by simp [own_hit, c2_1, c9_2, c18_4], N3, rfl⟩
    · skip
      refine own_by (T' := s₁) (g' := (mkF m 25 #[.val (.ref tx), .val (.int i), .val (.int off), .val (.int ln)] [])) (fun t_ k_ => XS.icmpYes X0.here hx rfl (pc0 := 9) (pc' := 25) rfl (hb hby own_d_hit_9) rfl (flt (c9_2 : ¬ (i < (off + ln)))).2.1 (by decide) (by decide) k_) ?_
      refine own_by (T' := s₁) (g' := (mkF m 26 #[.val (.ref tx), .val (.int i), .val (.int off), .val (.int ln)] [(.int (0 : Int32))])) (fun t_ k_ => XS.iconst X0.here hx rfl (hb hby own_d_hit_25) k_) ?_
      refine own_retN X0 hx (t := .boolean) Bd.returns hlk (by simp) (hb hby own_d_hit_26) (by decide) (by decide) (v := (0 : Int32)) rfl ?_
      rw [e0]
      exact ⟨by simp [own_hit, c2_1, c9_2], N0, rfl⟩
theorem own_pd3 : parseMethodDescriptor "([CIII)Z" = some ⟨[(.array .char), .int, .int, .int], some .boolean⟩ := by decide +kernel
theorem own_d_exp_0 : decode method_4_code 0 = .ok (.aload_n 0, 1) := by decide +kernel
theorem own_d_exp_1 : decode method_4_code 1 = .ok (.iconst 0, 1) := by decide +kernel
theorem own_d_exp_2 : decode method_4_code 2 = .ok (.iload_n 1, 1) := by decide +kernel
theorem own_d_exp_3 : decode method_4_code 3 = .ok (.iload_n 2, 1) := by decide +kernel
theorem own_d_exp_4 : decode method_4_code 4 = .ok (.invokestatic 13, 3) := by decide +kernel
theorem own_d_exp_7 : decode method_4_code 7 = .ok (.ifCond .ne 47, 3) := by decide +kernel
theorem own_d_exp_10 : decode method_4_code 10 = .ok (.aload_n 0, 1) := by decide +kernel
theorem own_d_exp_11 : decode method_4_code 11 = .ok (.iconst 1, 1) := by decide +kernel
theorem own_d_exp_12 : decode method_4_code 12 = .ok (.iload_n 1, 1) := by decide +kernel
theorem own_d_exp_13 : decode method_4_code 13 = .ok (.iload_n 2, 1) := by decide +kernel
theorem own_d_exp_14 : decode method_4_code 14 = .ok (.invokestatic 13, 3) := by decide +kernel
theorem own_d_exp_17 : decode method_4_code 17 = .ok (.ifCond .ne 37, 3) := by decide +kernel
theorem own_d_exp_20 : decode method_4_code 20 = .ok (.aload_n 0, 1) := by decide +kernel
theorem own_d_exp_21 : decode method_4_code 21 = .ok (.iconst 2, 1) := by decide +kernel
theorem own_d_exp_22 : decode method_4_code 22 = .ok (.iload_n 1, 1) := by decide +kernel
theorem own_d_exp_23 : decode method_4_code 23 = .ok (.iload_n 2, 1) := by decide +kernel
theorem own_d_exp_24 : decode method_4_code 24 = .ok (.invokestatic 13, 3) := by decide +kernel
theorem own_d_exp_27 : decode method_4_code 27 = .ok (.ifCond .ne 27, 3) := by decide +kernel
theorem own_d_exp_30 : decode method_4_code 30 = .ok (.aload_n 0, 1) := by decide +kernel
theorem own_d_exp_31 : decode method_4_code 31 = .ok (.iconst 3, 1) := by decide +kernel
theorem own_d_exp_32 : decode method_4_code 32 = .ok (.iload_n 1, 1) := by decide +kernel
theorem own_d_exp_33 : decode method_4_code 33 = .ok (.iload_n 2, 1) := by decide +kernel
theorem own_d_exp_34 : decode method_4_code 34 = .ok (.invokestatic 13, 3) := by decide +kernel
theorem own_d_exp_37 : decode method_4_code 37 = .ok (.ifCond .ne 17, 3) := by decide +kernel
theorem own_d_exp_40 : decode method_4_code 40 = .ok (.aload_n 0, 1) := by decide +kernel
theorem own_d_exp_41 : decode method_4_code 41 = .ok (.iconst 4, 1) := by decide +kernel
theorem own_d_exp_42 : decode method_4_code 42 = .ok (.iload_n 1, 1) := by decide +kernel
theorem own_d_exp_43 : decode method_4_code 43 = .ok (.iload_n 2, 1) := by decide +kernel
theorem own_d_exp_44 : decode method_4_code 44 = .ok (.invokestatic 13, 3) := by decide +kernel
theorem own_d_exp_47 : decode method_4_code 47 = .ok (.ifCond .ne 7, 3) := by decide +kernel
theorem own_d_exp_50 : decode method_4_code 50 = .ok (.iconst 1, 1) := by decide +kernel
theorem own_d_exp_51 : decode method_4_code 51 = .ok (.goto 4, 3) := by decide +kernel
theorem own_d_exp_54 : decode method_4_code 54 = .ok (.iconst 0, 1) := by decide +kernel
theorem own_d_exp_55 : decode method_4_code 55 = .ok (.ireturn, 1) := by decide +kernel
theorem own_ef_exp (m : MethodId) (tx : Addr) (off : Int32) (ln : Int32) : entryFrame m #[(.ref tx), (.int off), (.int ln)] 3 = mkF m 0 #[.val (.ref tx), .val (.int off), .val (.int ln)] [] := by first | (simp [entryFrame, mkF, argsToLocals, Value.category]; done) | rfl
def own_Q_exp (Z : State) (tx : Addr) (off : Int32) (ln : Int32) (f : Nat → Int32) (h0 : Heap) (n0 : Nat) (v : Option Value) (h : Heap) (L : List Loc) : Prop := v = some (.int (own_exp f off ln)) ∧ Fr n0 L ∧ h = h0
set_option maxRecDepth 65536 in
set_option maxHeartbeats 40000000 in
theorem own_rm_exp (l : Launch) (Z : State) (a0 : Array Value) (hw : ∀ d ∈ tables_1, d.before a0 Z = true) (ws : List Jvm.Cond) (tx : Addr) (off : Int32) (ln : Int32) (f : Nat → Int32) (h0 : Heap) (n0 : Nat) (Z0 : n0 ≤ h0.size) (V0 : own_Ia Z h0 tx .char 5 f) :
    MetFree l (⟨"com/example/enumconv/enumconv/core/ReadingIsIntegerPinLaw", "expected", "([CII)Z"⟩ : MethodName) (head1 (Jvm.Cond.code (⟨"com/example/enumconv/enumconv/core/ReadingIsIntegerPinLaw", "expected", "([CII)Z"⟩ : MethodName) method_4_code 3 (some .boolean) :: ws) ({ frames := 2, cells := 0, slots := 0, locals := 27 } : Room)) (fun a_ U_ => a_ = #[(.ref tx), (.int off), (.int ln)] ∧ Z.Warmed39 U_.vm ∧ U_.heap = h0) (fun _ _ _ _ _ => True) (fun _ U_ o_ U'_ => ∃ v_ L_, o_ = .returned v_ ∧ own_Q_exp Z tx off ln f h0 n0 v_ U'_.heap L_ ∧ FrameEnd U_ o_ U'_ L_ ({ frames := 2, cells := 0, slots := 0, locals := 27 } : Room).cells ({ frames := 2, cells := 0, slots := 0, locals := 27 } : Room).slots) := by
  refine MetFree.of_bodySF (plainFor_of_name own_pn_com_example_enumconv_enumconv_core_ReadingIsIntegerPinLaw) hisR ?_
  intro p e s m args below meth c s₁ Bd hml0 hP hK
  obtain ⟨rfl, hZ, hh⟩ := hP
  have hx := Bd.exec
  have hby := Bd.bytes
  have hlk : meth.locks = false := BodyLoose.notSynchronized Bd
  have hml : c.maxLocals = 3 := hml0
  have hown : s.vm.findClass "com/example/enumconv/enumconv/core/ReadingIsIntegerPinLaw" = some m.cls := findClass_of_methodNamed Bd.named
  have hnm := (name_of_methodNamed Bd.named Bd.method).1
  have X0 : Stand p l e ({ frames := 2, cells := 0, slots := 0, locals := 27 } : Room) s m #[(.ref tx), (.int off), (.int ln)] below meth c s₁ [] 0 0 := Stand.of_body Bd
  have e0 : s₁.heap = h0 := by rw [← hh, Bd.state]; rfl
  have N0 := Fr.nil n0
  show own_Goes p e below (own_K (own_Q_exp Z tx off ln f h0 n0) s ({ frames := 2, cells := 0, slots := 0, locals := 27 } : Room).cells ({ frames := 2, cells := 0, slots := 0, locals := 27 } : Room).slots) s₁ (entryFrame m #[(.ref tx), (.int off), (.int ln)] 3)
  rw [own_ef_exp]
  refine own_by (T' := s₁) (g' := (mkF m 1 #[.val (.ref tx), .val (.int off), .val (.int ln)] [(.ref tx)])) (fun t_ k_ => XS.aloadN X0.here hx rfl (hb hby own_d_exp_0) rfl rfl k_) ?_
  refine own_by (T' := s₁) (g' := (mkF m 2 #[.val (.ref tx), .val (.int off), .val (.int ln)] [(.int (0 : Int32)), (.ref tx)])) (fun t_ k_ => XS.iconst X0.here hx rfl (hb hby own_d_exp_1) k_) ?_
  refine own_by (T' := s₁) (g' := (mkF m 3 #[.val (.ref tx), .val (.int off), .val (.int ln)] [(.int off), (.int (0 : Int32)), (.ref tx)])) (fun t_ k_ => XS.iloadN X0.here hx rfl (hb hby own_d_exp_2) rfl k_) ?_
  refine own_by (T' := s₁) (g' := (mkF m 4 #[.val (.ref tx), .val (.int off), .val (.int ln)] [(.int ln), (.int off), (.int (0 : Int32)), (.ref tx)])) (fun t_ k_ => XS.iloadN X0.here hx rfl (hb hby own_d_exp_3) rfl k_) ?_
  obtain ⟨_, T1, L1, X1, hQ1, st1⟩ := own_callS X0 hx hZ (y := (⟨"com/example/enumconv/enumconv/core/ReadingIsIntegerPinLaw", "hit", "([CIII)Z"⟩ : MethodName)) hown (hw _ (List.mem_of_getElem? (i := 54) rfl)) (hw _ (List.mem_of_getElem? (i := 55) rfl)) (hw _ (List.mem_of_getElem? (i := 52) rfl)) (hw _ (List.mem_of_getElem? (i := 56) rfl)) (by decide) (argsL := [(.ref tx), (.int (0 : Int32)), (.int off), (.int ln)]) (rest := []) (own_rm_hit l Z a0 hw [] tx (0 : Int32) off ln f h0 n0 Z0 V0 (by decide)) e0 (W := 0) (by decide) (by decide) (by decide) (by decide) (g := (mkF m 4 #[.val (.ref tx), .val (.int off), .val (.int ln)] [(.int ln), (.int off), (.int (0 : Int32)), (.ref tx)])) rfl (by rw [hml]; rfl) (lenOf own_pd3 rfl) rfl (by show 2 * 0 + _ ≤ _; exact Nat.le_of_eq rfl) (hb hby own_d_exp_4)
  obtain ⟨rfl, Nq1, e1⟩ := hQ1
  have N1 := Fr.app N0 Nq1
  refine st1 _ ?_
  show own_Goes p e below _ T1 (mkF m 7 #[.val (.ref tx), .val (.int off), .val (.int ln)] [(.int (own_hit f (0 : Int32) off ln))])
  by_cases c7_2 : (own_hit f (0 : Int32) off ln) = (0 : Int32)
  · skip
    refine own_by (T' := T1) (g' := (mkF m 10 #[.val (.ref tx), .val (.int off), .val (.int ln)] [])) (fun t_ k_ => XS.ifNo X1.here hx rfl (hb hby own_d_exp_7) rfl ((if0 _ _).trans (teq (c7_2 : (own_hit f (0 : Int32) off ln) = (0 : Int32))).2) k_) ?_
    refine own_by (T' := T1) (g' := (mkF m 11 #[.val (.ref tx), .val (.int off), .val (.int ln)] [(.ref tx)])) (fun t_ k_ => XS.aloadN X1.here hx rfl (hb hby own_d_exp_10) rfl rfl k_) ?_
    refine own_by (T' := T1) (g' := (mkF m 12 #[.val (.ref tx), .val (.int off), .val (.int ln)] [(.int (1 : Int32)), (.ref tx)])) (fun t_ k_ => XS.iconst X1.here hx rfl (hb hby own_d_exp_11) k_) ?_
    refine own_by (T' := T1) (g' := (mkF m 13 #[.val (.ref tx), .val (.int off), .val (.int ln)] [(.int off), (.int (1 : Int32)), (.ref tx)])) (fun t_ k_ => XS.iloadN X1.here hx rfl (hb hby own_d_exp_12) rfl k_) ?_
    refine own_by (T' := T1) (g' := (mkF m 14 #[.val (.ref tx), .val (.int off), .val (.int ln)] [(.int ln), (.int off), (.int (1 : Int32)), (.ref tx)])) (fun t_ k_ => XS.iloadN X1.here hx rfl (hb hby own_d_exp_13) rfl k_) ?_
    obtain ⟨_, T3, L3, X3, hQ3, st3⟩ := own_callS X1 hx hZ (y := (⟨"com/example/enumconv/enumconv/core/ReadingIsIntegerPinLaw", "hit", "([CIII)Z"⟩ : MethodName)) hown (hw _ (List.mem_of_getElem? (i := 54) rfl)) (hw _ (List.mem_of_getElem? (i := 55) rfl)) (hw _ (List.mem_of_getElem? (i := 52) rfl)) (hw _ (List.mem_of_getElem? (i := 56) rfl)) (by decide) (argsL := [(.ref tx), (.int (1 : Int32)), (.int off), (.int ln)]) (rest := []) (own_rm_hit l Z a0 hw [] tx (1 : Int32) off ln f h0 n0 Z0 V0 (by decide)) e1 (W := 0) (by decide) (by decide) (by decide) (by decide) (g := (mkF m 14 #[.val (.ref tx), .val (.int off), .val (.int ln)] [(.int ln), (.int off), (.int (1 : Int32)), (.ref tx)])) rfl (by rw [hml]; rfl) (lenOf own_pd3 rfl) rfl (by show 2 * 0 + _ ≤ _; exact Nat.le_of_eq rfl) (hb hby own_d_exp_14)
    obtain ⟨rfl, Nq3, e3⟩ := hQ3
    have N3 := Fr.app N1 Nq3
    refine st3 _ ?_
    show own_Goes p e below _ T3 (mkF m 17 #[.val (.ref tx), .val (.int off), .val (.int ln)] [(.int (own_hit f (1 : Int32) off ln))])
    by_cases c17_4 : (own_hit f (1 : Int32) off ln) = (0 : Int32)
    · skip
      refine own_by (T' := T3) (g' := (mkF m 20 #[.val (.ref tx), .val (.int off), .val (.int ln)] [])) (fun t_ k_ => XS.ifNo X3.here hx rfl (hb hby own_d_exp_17) rfl ((if0 _ _).trans (teq (c17_4 : (own_hit f (1 : Int32) off ln) = (0 : Int32))).2) k_) ?_
      refine own_by (T' := T3) (g' := (mkF m 21 #[.val (.ref tx), .val (.int off), .val (.int ln)] [(.ref tx)])) (fun t_ k_ => XS.aloadN X3.here hx rfl (hb hby own_d_exp_20) rfl rfl k_) ?_
      refine own_by (T' := T3) (g' := (mkF m 22 #[.val (.ref tx), .val (.int off), .val (.int ln)] [(.int (2 : Int32)), (.ref tx)])) (fun t_ k_ => XS.iconst X3.here hx rfl (hb hby own_d_exp_21) k_) ?_
      refine own_by (T' := T3) (g' := (mkF m 23 #[.val (.ref tx), .val (.int off), .val (.int ln)] [(.int off), (.int (2 : Int32)), (.ref tx)])) (fun t_ k_ => XS.iloadN X3.here hx rfl (hb hby own_d_exp_22) rfl k_) ?_
      refine own_by (T' := T3) (g' := (mkF m 24 #[.val (.ref tx), .val (.int off), .val (.int ln)] [(.int ln), (.int off), (.int (2 : Int32)), (.ref tx)])) (fun t_ k_ => XS.iloadN X3.here hx rfl (hb hby own_d_exp_23) rfl k_) ?_
      obtain ⟨_, T5, L5, X5, hQ5, st5⟩ := own_callS X3 hx hZ (y := (⟨"com/example/enumconv/enumconv/core/ReadingIsIntegerPinLaw", "hit", "([CIII)Z"⟩ : MethodName)) hown (hw _ (List.mem_of_getElem? (i := 54) rfl)) (hw _ (List.mem_of_getElem? (i := 55) rfl)) (hw _ (List.mem_of_getElem? (i := 52) rfl)) (hw _ (List.mem_of_getElem? (i := 56) rfl)) (by decide) (argsL := [(.ref tx), (.int (2 : Int32)), (.int off), (.int ln)]) (rest := []) (own_rm_hit l Z a0 hw [] tx (2 : Int32) off ln f h0 n0 Z0 V0 (by decide)) e3 (W := 0) (by decide) (by decide) (by decide) (by decide) (g := (mkF m 24 #[.val (.ref tx), .val (.int off), .val (.int ln)] [(.int ln), (.int off), (.int (2 : Int32)), (.ref tx)])) rfl (by rw [hml]; rfl) (lenOf own_pd3 rfl) rfl (by show 2 * 0 + _ ≤ _; exact Nat.le_of_eq rfl) (hb hby own_d_exp_24)
      obtain ⟨rfl, Nq5, e5⟩ := hQ5
      have N5 := Fr.app N3 Nq5
      refine st5 _ ?_
      show own_Goes p e below _ T5 (mkF m 27 #[.val (.ref tx), .val (.int off), .val (.int ln)] [(.int (own_hit f (2 : Int32) off ln))])
      by_cases c27_6 : (own_hit f (2 : Int32) off ln) = (0 : Int32)
      · skip
        refine own_by (T' := T5) (g' := (mkF m 30 #[.val (.ref tx), .val (.int off), .val (.int ln)] [])) (fun t_ k_ => XS.ifNo X5.here hx rfl (hb hby own_d_exp_27) rfl ((if0 _ _).trans (teq (c27_6 : (own_hit f (2 : Int32) off ln) = (0 : Int32))).2) k_) ?_
        refine own_by (T' := T5) (g' := (mkF m 31 #[.val (.ref tx), .val (.int off), .val (.int ln)] [(.ref tx)])) (fun t_ k_ => XS.aloadN X5.here hx rfl (hb hby own_d_exp_30) rfl rfl k_) ?_
        refine own_by (T' := T5) (g' := (mkF m 32 #[.val (.ref tx), .val (.int off), .val (.int ln)] [(.int (3 : Int32)), (.ref tx)])) (fun t_ k_ => XS.iconst X5.here hx rfl (hb hby own_d_exp_31) k_) ?_
        refine own_by (T' := T5) (g' := (mkF m 33 #[.val (.ref tx), .val (.int off), .val (.int ln)] [(.int off), (.int (3 : Int32)), (.ref tx)])) (fun t_ k_ => XS.iloadN X5.here hx rfl (hb hby own_d_exp_32) rfl k_) ?_
        refine own_by (T' := T5) (g' := (mkF m 34 #[.val (.ref tx), .val (.int off), .val (.int ln)] [(.int ln), (.int off), (.int (3 : Int32)), (.ref tx)])) (fun t_ k_ => XS.iloadN X5.here hx rfl (hb hby own_d_exp_33) rfl k_) ?_
        obtain ⟨_, T7, L7, X7, hQ7, st7⟩ := own_callS X5 hx hZ (y := (⟨"com/example/enumconv/enumconv/core/ReadingIsIntegerPinLaw", "hit", "([CIII)Z"⟩ : MethodName)) hown (hw _ (List.mem_of_getElem? (i := 54) rfl)) (hw _ (List.mem_of_getElem? (i := 55) rfl)) (hw _ (List.mem_of_getElem? (i := 52) rfl)) (hw _ (List.mem_of_getElem? (i := 56) rfl)) (by decide) (argsL := [(.ref tx), (.int (3 : Int32)), (.int off), (.int ln)]) (rest := []) (own_rm_hit l Z a0 hw [] tx (3 : Int32) off ln f h0 n0 Z0 V0 (by decide)) e5 (W := 0) (by decide) (by decide) (by decide) (by decide) (g := (mkF m 34 #[.val (.ref tx), .val (.int off), .val (.int ln)] [(.int ln), (.int off), (.int (3 : Int32)), (.ref tx)])) rfl (by rw [hml]; rfl) (lenOf own_pd3 rfl) rfl (by show 2 * 0 + _ ≤ _; exact Nat.le_of_eq rfl) (hb hby own_d_exp_34)
        obtain ⟨rfl, Nq7, e7⟩ := hQ7
        have N7 := Fr.app N5 Nq7
        refine st7 _ ?_
        show own_Goes p e below _ T7 (mkF m 37 #[.val (.ref tx), .val (.int off), .val (.int ln)] [(.int (own_hit f (3 : Int32) off ln))])
        by_cases c37_8 : (own_hit f (3 : Int32) off ln) = (0 : Int32)
        · skip
          refine own_by (T' := T7) (g' := (mkF m 40 #[.val (.ref tx), .val (.int off), .val (.int ln)] [])) (fun t_ k_ => XS.ifNo X7.here hx rfl (hb hby own_d_exp_37) rfl ((if0 _ _).trans (teq (c37_8 : (own_hit f (3 : Int32) off ln) = (0 : Int32))).2) k_) ?_
          refine own_by (T' := T7) (g' := (mkF m 41 #[.val (.ref tx), .val (.int off), .val (.int ln)] [(.ref tx)])) (fun t_ k_ => XS.aloadN X7.here hx rfl (hb hby own_d_exp_40) rfl rfl k_) ?_
          refine own_by (T' := T7) (g' := (mkF m 42 #[.val (.ref tx), .val (.int off), .val (.int ln)] [(.int (4 : Int32)), (.ref tx)])) (fun t_ k_ => XS.iconst X7.here hx rfl (hb hby own_d_exp_41) k_) ?_
          refine own_by (T' := T7) (g' := (mkF m 43 #[.val (.ref tx), .val (.int off), .val (.int ln)] [(.int off), (.int (4 : Int32)), (.ref tx)])) (fun t_ k_ => XS.iloadN X7.here hx rfl (hb hby own_d_exp_42) rfl k_) ?_
          refine own_by (T' := T7) (g' := (mkF m 44 #[.val (.ref tx), .val (.int off), .val (.int ln)] [(.int ln), (.int off), (.int (4 : Int32)), (.ref tx)])) (fun t_ k_ => XS.iloadN X7.here hx rfl (hb hby own_d_exp_43) rfl k_) ?_
          obtain ⟨_, T9, L9, X9, hQ9, st9⟩ := own_callS X7 hx hZ (y := (⟨"com/example/enumconv/enumconv/core/ReadingIsIntegerPinLaw", "hit", "([CIII)Z"⟩ : MethodName)) hown (hw _ (List.mem_of_getElem? (i := 54) rfl)) (hw _ (List.mem_of_getElem? (i := 55) rfl)) (hw _ (List.mem_of_getElem? (i := 52) rfl)) (hw _ (List.mem_of_getElem? (i := 56) rfl)) (by decide) (argsL := [(.ref tx), (.int (4 : Int32)), (.int off), (.int ln)]) (rest := []) (own_rm_hit l Z a0 hw [] tx (4 : Int32) off ln f h0 n0 Z0 V0 (by decide)) e7 (W := 0) (by decide) (by decide) (by decide) (by decide) (g := (mkF m 44 #[.val (.ref tx), .val (.int off), .val (.int ln)] [(.int ln), (.int off), (.int (4 : Int32)), (.ref tx)])) rfl (by rw [hml]; rfl) (lenOf own_pd3 rfl) rfl (by show 2 * 0 + _ ≤ _; exact Nat.le_of_eq rfl) (hb hby own_d_exp_44)
          obtain ⟨rfl, Nq9, e9⟩ := hQ9
          have N9 := Fr.app N7 Nq9
          refine st9 _ ?_
          show own_Goes p e below _ T9 (mkF m 47 #[.val (.ref tx), .val (.int off), .val (.int ln)] [(.int (own_hit f (4 : Int32) off ln))])
          by_cases c47_10 : (own_hit f (4 : Int32) off ln) = (0 : Int32)
          · skip
            refine own_by (T' := T9) (g' := (mkF m 50 #[.val (.ref tx), .val (.int off), .val (.int ln)] [])) (fun t_ k_ => XS.ifNo X9.here hx rfl (hb hby own_d_exp_47) rfl ((if0 _ _).trans (teq (c47_10 : (own_hit f (4 : Int32) off ln) = (0 : Int32))).2) k_) ?_
            refine own_by (T' := T9) (g' := (mkF m 51 #[.val (.ref tx), .val (.int off), .val (.int ln)] [(.int (1 : Int32))])) (fun t_ k_ => XS.iconst X9.here hx rfl (hb hby own_d_exp_50) k_) ?_
            refine own_by (T' := T9) (g' := (mkF m 55 #[.val (.ref tx), .val (.int off), .val (.int ln)] [(.int (1 : Int32))])) (fun t_ k_ => XS.goto X9.here hx rfl (pc0 := 51) (pc' := 55) rfl (hb hby own_d_exp_51) (by decide) (by decide) k_) ?_
            refine own_retN X9 hx (t := .boolean) Bd.returns hlk (by simp) (hb hby own_d_exp_55) (by decide) (by decide) (v := (1 : Int32)) rfl ?_
            rw [e9]
            exact ⟨by simp [own_exp, c7_2, c17_4, c27_6, c37_8, c47_10], N9, rfl⟩
          · skip
            refine own_by (T' := T9) (g' := (mkF m 54 #[.val (.ref tx), .val (.int off), .val (.int ln)] [])) (fun t_ k_ => XS.ifYes X9.here hx rfl (pc0 := 47) (pc' := 54) rfl (hb hby own_d_exp_47) rfl ((if0 _ _).trans (feq (c47_10 : ¬ ((own_hit f (4 : Int32) off ln) = (0 : Int32)))).2) (by decide) (by decide) k_) ?_
            refine own_by (T' := T9) (g' := (mkF m 55 #[.val (.ref tx), .val (.int off), .val (.int ln)] [(.int (0 : Int32))])) (fun t_ k_ => XS.iconst X9.here hx rfl (hb hby own_d_exp_54) k_) ?_
            refine own_retN X9 hx (t := .boolean) Bd.returns hlk (by simp) (hb hby own_d_exp_55) (by decide) (by decide) (v := (0 : Int32)) rfl ?_
            rw [e9]
            exact ⟨by simp [own_exp, c7_2, c17_4, c27_6, c37_8, c47_10], N9, rfl⟩
        · skip
          refine own_by (T' := T7) (g' := (mkF m 54 #[.val (.ref tx), .val (.int off), .val (.int ln)] [])) (fun t_ k_ => XS.ifYes X7.here hx rfl (pc0 := 37) (pc' := 54) rfl (hb hby own_d_exp_37) rfl ((if0 _ _).trans (feq (c37_8 : ¬ ((own_hit f (3 : Int32) off ln) = (0 : Int32)))).2) (by decide) (by decide) k_) ?_
          refine own_by (T' := T7) (g' := (mkF m 55 #[.val (.ref tx), .val (.int off), .val (.int ln)] [(.int (0 : Int32))])) (fun t_ k_ => XS.iconst X7.here hx rfl (hb hby own_d_exp_54) k_) ?_
          refine own_retN X7 hx (t := .boolean) Bd.returns hlk (by simp) (hb hby own_d_exp_55) (by decide) (by decide) (v := (0 : Int32)) rfl ?_
          rw [e7]
          exact ⟨by simp [own_exp, c7_2, c17_4, c27_6, c37_8], N7, rfl⟩
      · skip
        refine own_by (T' := T5) (g' := (mkF m 54 #[.val (.ref tx), .val (.int off), .val (.int ln)] [])) (fun t_ k_ => XS.ifYes X5.here hx rfl (pc0 := 27) (pc' := 54) rfl (hb hby own_d_exp_27) rfl ((if0 _ _).trans (feq (c27_6 : ¬ ((own_hit f (2 : Int32) off ln) = (0 : Int32)))).2) (by decide) (by decide) k_) ?_
        refine own_by (T' := T5) (g' := (mkF m 55 #[.val (.ref tx), .val (.int off), .val (.int ln)] [(.int (0 : Int32))])) (fun t_ k_ => XS.iconst X5.here hx rfl (hb hby own_d_exp_54) k_) ?_
        refine own_retN X5 hx (t := .boolean) Bd.returns hlk (by simp) (hb hby own_d_exp_55) (by decide) (by decide) (v := (0 : Int32)) rfl ?_
        rw [e5]
        exact ⟨by simp [own_exp, c7_2, c17_4, c27_6], N5, rfl⟩
    · skip
      refine own_by (T' := T3) (g' := (mkF m 54 #[.val (.ref tx), .val (.int off), .val (.int ln)] [])) (fun t_ k_ => XS.ifYes X3.here hx rfl (pc0 := 17) (pc' := 54) rfl (hb hby own_d_exp_17) rfl ((if0 _ _).trans (feq (c17_4 : ¬ ((own_hit f (1 : Int32) off ln) = (0 : Int32)))).2) (by decide) (by decide) k_) ?_
      refine own_by (T' := T3) (g' := (mkF m 55 #[.val (.ref tx), .val (.int off), .val (.int ln)] [(.int (0 : Int32))])) (fun t_ k_ => XS.iconst X3.here hx rfl (hb hby own_d_exp_54) k_) ?_
      refine own_retN X3 hx (t := .boolean) Bd.returns hlk (by simp) (hb hby own_d_exp_55) (by decide) (by decide) (v := (0 : Int32)) rfl ?_
      rw [e3]
      exact ⟨by simp [own_exp, c7_2, c17_4], N3, rfl⟩
  · skip
    refine own_by (T' := T1) (g' := (mkF m 54 #[.val (.ref tx), .val (.int off), .val (.int ln)] [])) (fun t_ k_ => XS.ifYes X1.here hx rfl (pc0 := 7) (pc' := 54) rfl (hb hby own_d_exp_7) rfl ((if0 _ _).trans (feq (c7_2 : ¬ ((own_hit f (0 : Int32) off ln) = (0 : Int32)))).2) (by decide) (by decide) k_) ?_
    refine own_by (T' := T1) (g' := (mkF m 55 #[.val (.ref tx), .val (.int off), .val (.int ln)] [(.int (0 : Int32))])) (fun t_ k_ => XS.iconst X1.here hx rfl (hb hby own_d_exp_54) k_) ?_
    refine own_retN X1 hx (t := .boolean) Bd.returns hlk (by simp) (hb hby own_d_exp_55) (by decide) (by decide) (v := (0 : Int32)) rfl ?_
    rw [e1]
    exact ⟨by simp [own_exp, c7_2], N1, rfl⟩
theorem own_pd4 : parseMethodDescriptor "()V" = some ⟨[], none⟩ := by decide +kernel
theorem own_pd5 : parseMethodDescriptor "([CII)Lcom/example/enumconv/enumconv/core/Decimal$Reading;" = some ⟨[(.array .char), .int, .int], some (.object "com/example/enumconv/enumconv/core/Decimal$Reading")⟩ := by decide +kernel
theorem own_pd6 : parseMethodDescriptor "()Z" = some ⟨[], some .boolean⟩ := by decide +kernel
theorem own_pd7 : parseMethodDescriptor "([CII)Z" = some ⟨[(.array .char), .int, .int], some .boolean⟩ := by decide +kernel
theorem own_ef_law (m : MethodId) (c0 : Int32) (c1 : Int32) (c2 : Int32) (c3 : Int32) (c4 : Int32) (sh : Int32) : entryFrame m #[(.int c0), (.int c1), (.int c2), (.int c3), (.int c4), (.int sh)] maxLocals = mkF m 0 #[.val (.int c0), .val (.int c1), .val (.int c2), .val (.int c3), .val (.int c4), .val (.int sh), .unset, .unset, .unset, .unset, .unset, .unset, .unset, .unset] [] := by first | (simp [entryFrame, mkF, argsToLocals, Value.category, maxLocals]; done) | rfl
def own_Q_law (Z : State) (c0 : Int32) (c1 : Int32) (c2 : Int32) (c3 : Int32) (c4 : Int32) (sh : Int32) (h0 : Heap) (n0 : Nat) (v : Option Value) (h : Heap) (L : List Loc) : Prop := v = some (.int 1) ∧ Fr n0 L
set_option maxRecDepth 65536 in
set_option maxHeartbeats 40000000 in
theorem own_rm_law (l : Launch) (Z : State) (a0 : Array Value) (hw : ∀ d ∈ tables_1, d.before a0 Z = true) (ws : List Jvm.Cond) (c0 : Int32) (c1 : Int32) (c2 : Int32) (c3 : Int32) (c4 : Int32) (sh : Int32) (h0 : Heap) (n0 : Nat) (Z0 : n0 ≤ h0.size) :
    MetFree l x (head1 (Jvm.Cond.code x code maxLocals ret :: ws) room_1) (fun a_ U_ => a_ = #[(.int c0), (.int c1), (.int c2), (.int c3), (.int c4), (.int sh)] ∧ Z.Warmed39 U_.vm ∧ U_.heap = h0) (fun _ _ _ _ _ => True) (fun _ U_ o_ U'_ => ∃ v_ L_, o_ = .returned v_ ∧ own_Q_law Z c0 c1 c2 c3 c4 sh h0 n0 v_ U'_.heap L_ ∧ FrameEnd U_ o_ U'_ L_ room_1.cells room_1.slots) := by
  refine MetFree.of_bodySF (plainFor_of_name own_pn_com_example_enumconv_enumconv_core_ReadingIsIntegerPinLaw) hisR ?_
  intro p e s m args below meth c s₁ Bd hml0 hP hK
  obtain ⟨rfl, hZ, hh⟩ := hP
  have hx := Bd.exec
  have hby := Bd.bytes
  have hlk : meth.locks = false := BodyLoose.notSynchronized Bd
  have hml : c.maxLocals = 14 := hml0
  have hown : s.vm.findClass "com/example/enumconv/enumconv/core/ReadingIsIntegerPinLaw" = some m.cls := findClass_of_methodNamed Bd.named
  have hnm := (name_of_methodNamed Bd.named Bd.method).1
  have X0 : Stand p l e room_1 s m #[(.int c0), (.int c1), (.int c2), (.int c3), (.int c4), (.int sh)] below meth c s₁ [] 0 0 := Stand.of_body Bd
  have e0 : s₁.heap = h0 := by rw [← hh, Bd.state]; rfl
  have N0 := Fr.nil n0
  show own_Goes p e below (own_K (own_Q_law Z c0 c1 c2 c3 c4 sh h0 n0) s room_1.cells room_1.slots) s₁ (entryFrame m #[(.int c0), (.int c1), (.int c2), (.int c3), (.int c4), (.int sh)] maxLocals)
  rw [own_ef_law]
  refine own_by (T' := s₁) (g' := (mkF m 1 #[.val (.int c0), .val (.int c1), .val (.int c2), .val (.int c3), .val (.int c4), .val (.int sh), .unset, .unset, .unset, .unset, .unset, .unset, .unset, .unset] [(.int (5 : Int32))])) (fun t_ k_ => XS.iconst X0.here hx rfl (hb hby at_0) k_) ?_
  obtain ⟨T1, h1, k1, X1, e1, E1, A1, st1⟩ := newP X0 hx hZ (hw _ (List.mem_of_getElem? (i := 0) rfl)) e0 (g := (mkF m 1 #[.val (.int c0), .val (.int c1), .val (.int c2), .val (.int c3), .val (.int c4), .val (.int sh), .unset, .unset, .unset, .unset, .unset, .unset, .unset, .unset] [(.int (5 : Int32))])) rfl (hb hby at_1) rfl (by decide) (cap := 5) (by decide) (by decide) (by decide) (by decide)
  obtain ⟨b1, g1⟩ : ∃ z, z = h0.size := ⟨_, rfl⟩
  rw [← g1] at A1 st1
  have g_b1 : n0 ≤ b1 := Nat.le_trans Z0 (Nat.le_of_eq g1.symm)
  have f2 := Nat.le_trans Z0 E1.1
  have V1 : own_Ia Z h1 b1 .char 5 (fun _ => (0 : Int32)) := own_Ia_new A1 rfl rfl rfl
  refine own_by (T' := T1) (g' := (mkF m 3 #[.val (.int c0), .val (.int c1), .val (.int c2), .val (.int c3), .val (.int c4), .val (.int sh), .unset, .unset, .unset, .unset, .unset, .unset, .unset, .unset] [(.ref b1)])) st1 ?_
  refine own_by (T' := T1) (g' := (mkF m 5 #[.val (.int c0), .val (.int c1), .val (.int c2), .val (.int c3), .val (.int c4), .val (.int sh), .val (.ref b1), .unset, .unset, .unset, .unset, .unset, .unset, .unset] [])) (fun t_ k_ => XS.astore X1.here hx rfl (hb hby at_3) rfl rfl (l' := #[.val (.int c0), .val (.int c1), .val (.int c2), .val (.int c3), .val (.int c4), .val (.int sh), .val (.ref b1), .unset, .unset, .unset, .unset, .unset, .unset, .unset]) rfl k_) ?_
  refine own_by (T' := T1) (g' := (mkF m 7 #[.val (.int c0), .val (.int c1), .val (.int c2), .val (.int c3), .val (.int c4), .val (.int sh), .val (.ref b1), .unset, .unset, .unset, .unset, .unset, .unset, .unset] [(.ref b1)])) (fun t_ k_ => XS.aload X1.here hx rfl (hb hby at_5) rfl rfl k_) ?_
  refine own_by (T' := T1) (g' := (mkF m 8 #[.val (.int c0), .val (.int c1), .val (.int c2), .val (.int c3), .val (.int c4), .val (.int sh), .val (.ref b1), .unset, .unset, .unset, .unset, .unset, .unset, .unset] [(.int (0 : Int32)), (.ref b1)])) (fun t_ k_ => XS.iconst X1.here hx rfl (hb hby at_7) k_) ?_
  refine own_by (T' := T1) (g' := (mkF m 9 #[.val (.int c0), .val (.int c1), .val (.int c2), .val (.int c3), .val (.int c4), .val (.int sh), .val (.ref b1), .unset, .unset, .unset, .unset, .unset, .unset, .unset] [(.int c0), (.int (0 : Int32)), (.ref b1)])) (fun t_ k_ => XS.iloadN X1.here hx rfl (hb hby at_8) rfl k_) ?_
  refine own_by (T' := T1) (g' := (mkF m 12 #[.val (.int c0), .val (.int c1), .val (.int c2), .val (.int c3), .val (.int c4), .val (.int sh), .val (.ref b1), .unset, .unset, .unset, .unset, .unset, .unset, .unset] [(.int (255 : Int32)), (.int c0), (.int (0 : Int32)), (.ref b1)])) (fun t_ k_ => XS.sipush X1.here hx rfl (hb hby at_9) k_) ?_
  refine own_by (T' := T1) (g' := (mkF m 13 #[.val (.int c0), .val (.int c1), .val (.int c2), .val (.int c3), .val (.int c4), .val (.int sh), .val (.ref b1), .unset, .unset, .unset, .unset, .unset, .unset, .unset] [(.int (c0 &&& (255 : Int32))), (.int (0 : Int32)), (.ref b1)])) (fun t_ k_ => XS.iand X1.here hx rfl (hb hby at_12) rfl k_) ?_
  refine own_by (T' := T1) (g' := (mkF m 14 #[.val (.int c0), .val (.int c1), .val (.int c2), .val (.int c3), .val (.int c4), .val (.int sh), .val (.ref b1), .unset, .unset, .unset, .unset, .unset, .unset, .unset] [(.int (c0 &&& (255 : Int32)).toUInt32.toUInt16.toUInt32.toInt32), (.int (0 : Int32)), (.ref b1)])) (fun t_ k_ => XS.i2c X1.here hx rfl (hb hby at_13) rfl k_) ?_
  obtain ⟨T3, h3, X3, e3, W3, st3⟩ := own_cas X1 hx hZ e1 V1 (j := (0 : Int32)) (by decide) (by decide) (g := (mkF m 14 #[.val (.int c0), .val (.int c1), .val (.int c2), .val (.int c3), .val (.int c4), .val (.int sh), .val (.ref b1), .unset, .unset, .unset, .unset, .unset, .unset, .unset] [(.int (c0 &&& (255 : Int32)).toUInt32.toUInt16.toUInt32.toInt32), (.int (0 : Int32)), (.ref b1)])) rfl rfl (hb hby at_14)
  refine own_by (T' := T3) (g' := (mkF m 15 #[.val (.int c0), .val (.int c1), .val (.int c2), .val (.int c3), .val (.int c4), .val (.int sh), .val (.ref b1), .unset, .unset, .unset, .unset, .unset, .unset, .unset] [])) st3 ?_
  have N3 := Fr.snoc X3 N0 g_b1
  have f4 := Nat.le_trans f2 (Keep.of_wr W3).1
  have V5 : own_Ia Z h3 b1 .char 5 (fun z_ => if z_ = 0 then (nar .char ((c0 &&& (255 : Int32)).toUInt32.toUInt16.toUInt32.toInt32)) else (fun _ => (0 : Int32)) z_) := own_Ia_set W3 V1 (fits_nar_char _)
  refine own_by (T' := T3) (g' := (mkF m 17 #[.val (.int c0), .val (.int c1), .val (.int c2), .val (.int c3), .val (.int c4), .val (.int sh), .val (.ref b1), .unset, .unset, .unset, .unset, .unset, .unset, .unset] [(.ref b1)])) (fun t_ k_ => XS.aload X3.here hx rfl (hb hby at_15) rfl rfl k_) ?_
  refine own_by (T' := T3) (g' := (mkF m 18 #[.val (.int c0), .val (.int c1), .val (.int c2), .val (.int c3), .val (.int c4), .val (.int sh), .val (.ref b1), .unset, .unset, .unset, .unset, .unset, .unset, .unset] [(.int (1 : Int32)), (.ref b1)])) (fun t_ k_ => XS.iconst X3.here hx rfl (hb hby at_17) k_) ?_
  refine own_by (T' := T3) (g' := (mkF m 19 #[.val (.int c0), .val (.int c1), .val (.int c2), .val (.int c3), .val (.int c4), .val (.int sh), .val (.ref b1), .unset, .unset, .unset, .unset, .unset, .unset, .unset] [(.int c1), (.int (1 : Int32)), (.ref b1)])) (fun t_ k_ => XS.iloadN X3.here hx rfl (hb hby at_18) rfl k_) ?_
  refine own_by (T' := T3) (g' := (mkF m 22 #[.val (.int c0), .val (.int c1), .val (.int c2), .val (.int c3), .val (.int c4), .val (.int sh), .val (.ref b1), .unset, .unset, .unset, .unset, .unset, .unset, .unset] [(.int (255 : Int32)), (.int c1), (.int (1 : Int32)), (.ref b1)])) (fun t_ k_ => XS.sipush X3.here hx rfl (hb hby at_19) k_) ?_
  refine own_by (T' := T3) (g' := (mkF m 23 #[.val (.int c0), .val (.int c1), .val (.int c2), .val (.int c3), .val (.int c4), .val (.int sh), .val (.ref b1), .unset, .unset, .unset, .unset, .unset, .unset, .unset] [(.int (c1 &&& (255 : Int32))), (.int (1 : Int32)), (.ref b1)])) (fun t_ k_ => XS.iand X3.here hx rfl (hb hby at_22) rfl k_) ?_
  refine own_by (T' := T3) (g' := (mkF m 24 #[.val (.int c0), .val (.int c1), .val (.int c2), .val (.int c3), .val (.int c4), .val (.int sh), .val (.ref b1), .unset, .unset, .unset, .unset, .unset, .unset, .unset] [(.int (c1 &&& (255 : Int32)).toUInt32.toUInt16.toUInt32.toInt32), (.int (1 : Int32)), (.ref b1)])) (fun t_ k_ => XS.i2c X3.here hx rfl (hb hby at_23) rfl k_) ?_
  obtain ⟨T6, h6, X6, e6, W6, st6⟩ := own_cas X3 hx hZ e3 V5 (j := (1 : Int32)) (by decide) (by decide) (g := (mkF m 24 #[.val (.int c0), .val (.int c1), .val (.int c2), .val (.int c3), .val (.int c4), .val (.int sh), .val (.ref b1), .unset, .unset, .unset, .unset, .unset, .unset, .unset] [(.int (c1 &&& (255 : Int32)).toUInt32.toUInt16.toUInt32.toInt32), (.int (1 : Int32)), (.ref b1)])) rfl rfl (hb hby at_24)
  refine own_by (T' := T6) (g' := (mkF m 25 #[.val (.int c0), .val (.int c1), .val (.int c2), .val (.int c3), .val (.int c4), .val (.int sh), .val (.ref b1), .unset, .unset, .unset, .unset, .unset, .unset, .unset] [])) st6 ?_
  have N6 := Fr.snoc X6 N3 g_b1
  have f7 := Nat.le_trans f4 (Keep.of_wr W6).1
  have V8 : own_Ia Z h6 b1 .char 5 (fun z_ => if z_ = 1 then (nar .char ((c1 &&& (255 : Int32)).toUInt32.toUInt16.toUInt32.toInt32)) else (fun z_ => if z_ = 0 then (nar .char ((c0 &&& (255 : Int32)).toUInt32.toUInt16.toUInt32.toInt32)) else (fun _ => (0 : Int32)) z_) z_) := own_Ia_set W6 V5 (fits_nar_char _)
  refine own_by (T' := T6) (g' := (mkF m 27 #[.val (.int c0), .val (.int c1), .val (.int c2), .val (.int c3), .val (.int c4), .val (.int sh), .val (.ref b1), .unset, .unset, .unset, .unset, .unset, .unset, .unset] [(.ref b1)])) (fun t_ k_ => XS.aload X6.here hx rfl (hb hby at_25) rfl rfl k_) ?_
  refine own_by (T' := T6) (g' := (mkF m 28 #[.val (.int c0), .val (.int c1), .val (.int c2), .val (.int c3), .val (.int c4), .val (.int sh), .val (.ref b1), .unset, .unset, .unset, .unset, .unset, .unset, .unset] [(.int (2 : Int32)), (.ref b1)])) (fun t_ k_ => XS.iconst X6.here hx rfl (hb hby at_27) k_) ?_
  refine own_by (T' := T6) (g' := (mkF m 29 #[.val (.int c0), .val (.int c1), .val (.int c2), .val (.int c3), .val (.int c4), .val (.int sh), .val (.ref b1), .unset, .unset, .unset, .unset, .unset, .unset, .unset] [(.int c2), (.int (2 : Int32)), (.ref b1)])) (fun t_ k_ => XS.iloadN X6.here hx rfl (hb hby at_28) rfl k_) ?_
  refine own_by (T' := T6) (g' := (mkF m 32 #[.val (.int c0), .val (.int c1), .val (.int c2), .val (.int c3), .val (.int c4), .val (.int sh), .val (.ref b1), .unset, .unset, .unset, .unset, .unset, .unset, .unset] [(.int (255 : Int32)), (.int c2), (.int (2 : Int32)), (.ref b1)])) (fun t_ k_ => XS.sipush X6.here hx rfl (hb hby at_29) k_) ?_
  refine own_by (T' := T6) (g' := (mkF m 33 #[.val (.int c0), .val (.int c1), .val (.int c2), .val (.int c3), .val (.int c4), .val (.int sh), .val (.ref b1), .unset, .unset, .unset, .unset, .unset, .unset, .unset] [(.int (c2 &&& (255 : Int32))), (.int (2 : Int32)), (.ref b1)])) (fun t_ k_ => XS.iand X6.here hx rfl (hb hby at_32) rfl k_) ?_
  refine own_by (T' := T6) (g' := (mkF m 34 #[.val (.int c0), .val (.int c1), .val (.int c2), .val (.int c3), .val (.int c4), .val (.int sh), .val (.ref b1), .unset, .unset, .unset, .unset, .unset, .unset, .unset] [(.int (c2 &&& (255 : Int32)).toUInt32.toUInt16.toUInt32.toInt32), (.int (2 : Int32)), (.ref b1)])) (fun t_ k_ => XS.i2c X6.here hx rfl (hb hby at_33) rfl k_) ?_
  obtain ⟨T9, h9, X9, e9, W9, st9⟩ := own_cas X6 hx hZ e6 V8 (j := (2 : Int32)) (by decide) (by decide) (g := (mkF m 34 #[.val (.int c0), .val (.int c1), .val (.int c2), .val (.int c3), .val (.int c4), .val (.int sh), .val (.ref b1), .unset, .unset, .unset, .unset, .unset, .unset, .unset] [(.int (c2 &&& (255 : Int32)).toUInt32.toUInt16.toUInt32.toInt32), (.int (2 : Int32)), (.ref b1)])) rfl rfl (hb hby at_34)
  refine own_by (T' := T9) (g' := (mkF m 35 #[.val (.int c0), .val (.int c1), .val (.int c2), .val (.int c3), .val (.int c4), .val (.int sh), .val (.ref b1), .unset, .unset, .unset, .unset, .unset, .unset, .unset] [])) st9 ?_
  have N9 := Fr.snoc X9 N6 g_b1
  have f10 := Nat.le_trans f7 (Keep.of_wr W9).1
  have V11 : own_Ia Z h9 b1 .char 5 (fun z_ => if z_ = 2 then (nar .char ((c2 &&& (255 : Int32)).toUInt32.toUInt16.toUInt32.toInt32)) else (fun z_ => if z_ = 1 then (nar .char ((c1 &&& (255 : Int32)).toUInt32.toUInt16.toUInt32.toInt32)) else (fun z_ => if z_ = 0 then (nar .char ((c0 &&& (255 : Int32)).toUInt32.toUInt16.toUInt32.toInt32)) else (fun _ => (0 : Int32)) z_) z_) z_) := own_Ia_set W9 V8 (fits_nar_char _)
  refine own_by (T' := T9) (g' := (mkF m 37 #[.val (.int c0), .val (.int c1), .val (.int c2), .val (.int c3), .val (.int c4), .val (.int sh), .val (.ref b1), .unset, .unset, .unset, .unset, .unset, .unset, .unset] [(.ref b1)])) (fun t_ k_ => XS.aload X9.here hx rfl (hb hby at_35) rfl rfl k_) ?_
  refine own_by (T' := T9) (g' := (mkF m 38 #[.val (.int c0), .val (.int c1), .val (.int c2), .val (.int c3), .val (.int c4), .val (.int sh), .val (.ref b1), .unset, .unset, .unset, .unset, .unset, .unset, .unset] [(.int (3 : Int32)), (.ref b1)])) (fun t_ k_ => XS.iconst X9.here hx rfl (hb hby at_37) k_) ?_
  refine own_by (T' := T9) (g' := (mkF m 39 #[.val (.int c0), .val (.int c1), .val (.int c2), .val (.int c3), .val (.int c4), .val (.int sh), .val (.ref b1), .unset, .unset, .unset, .unset, .unset, .unset, .unset] [(.int c3), (.int (3 : Int32)), (.ref b1)])) (fun t_ k_ => XS.iloadN X9.here hx rfl (hb hby at_38) rfl k_) ?_
  refine own_by (T' := T9) (g' := (mkF m 42 #[.val (.int c0), .val (.int c1), .val (.int c2), .val (.int c3), .val (.int c4), .val (.int sh), .val (.ref b1), .unset, .unset, .unset, .unset, .unset, .unset, .unset] [(.int (255 : Int32)), (.int c3), (.int (3 : Int32)), (.ref b1)])) (fun t_ k_ => XS.sipush X9.here hx rfl (hb hby at_39) k_) ?_
  refine own_by (T' := T9) (g' := (mkF m 43 #[.val (.int c0), .val (.int c1), .val (.int c2), .val (.int c3), .val (.int c4), .val (.int sh), .val (.ref b1), .unset, .unset, .unset, .unset, .unset, .unset, .unset] [(.int (c3 &&& (255 : Int32))), (.int (3 : Int32)), (.ref b1)])) (fun t_ k_ => XS.iand X9.here hx rfl (hb hby at_42) rfl k_) ?_
  refine own_by (T' := T9) (g' := (mkF m 44 #[.val (.int c0), .val (.int c1), .val (.int c2), .val (.int c3), .val (.int c4), .val (.int sh), .val (.ref b1), .unset, .unset, .unset, .unset, .unset, .unset, .unset] [(.int (c3 &&& (255 : Int32)).toUInt32.toUInt16.toUInt32.toInt32), (.int (3 : Int32)), (.ref b1)])) (fun t_ k_ => XS.i2c X9.here hx rfl (hb hby at_43) rfl k_) ?_
  obtain ⟨T12, h12, X12, e12, W12, st12⟩ := own_cas X9 hx hZ e9 V11 (j := (3 : Int32)) (by decide) (by decide) (g := (mkF m 44 #[.val (.int c0), .val (.int c1), .val (.int c2), .val (.int c3), .val (.int c4), .val (.int sh), .val (.ref b1), .unset, .unset, .unset, .unset, .unset, .unset, .unset] [(.int (c3 &&& (255 : Int32)).toUInt32.toUInt16.toUInt32.toInt32), (.int (3 : Int32)), (.ref b1)])) rfl rfl (hb hby at_44)
  refine own_by (T' := T12) (g' := (mkF m 45 #[.val (.int c0), .val (.int c1), .val (.int c2), .val (.int c3), .val (.int c4), .val (.int sh), .val (.ref b1), .unset, .unset, .unset, .unset, .unset, .unset, .unset] [])) st12 ?_
  have N12 := Fr.snoc X12 N9 g_b1
  have f13 := Nat.le_trans f10 (Keep.of_wr W12).1
  have V14 : own_Ia Z h12 b1 .char 5 (fun z_ => if z_ = 3 then (nar .char ((c3 &&& (255 : Int32)).toUInt32.toUInt16.toUInt32.toInt32)) else (fun z_ => if z_ = 2 then (nar .char ((c2 &&& (255 : Int32)).toUInt32.toUInt16.toUInt32.toInt32)) else (fun z_ => if z_ = 1 then (nar .char ((c1 &&& (255 : Int32)).toUInt32.toUInt16.toUInt32.toInt32)) else (fun z_ => if z_ = 0 then (nar .char ((c0 &&& (255 : Int32)).toUInt32.toUInt16.toUInt32.toInt32)) else (fun _ => (0 : Int32)) z_) z_) z_) z_) := own_Ia_set W12 V11 (fits_nar_char _)
  refine own_by (T' := T12) (g' := (mkF m 47 #[.val (.int c0), .val (.int c1), .val (.int c2), .val (.int c3), .val (.int c4), .val (.int sh), .val (.ref b1), .unset, .unset, .unset, .unset, .unset, .unset, .unset] [(.ref b1)])) (fun t_ k_ => XS.aload X12.here hx rfl (hb hby at_45) rfl rfl k_) ?_
  refine own_by (T' := T12) (g' := (mkF m 48 #[.val (.int c0), .val (.int c1), .val (.int c2), .val (.int c3), .val (.int c4), .val (.int sh), .val (.ref b1), .unset, .unset, .unset, .unset, .unset, .unset, .unset] [(.int (4 : Int32)), (.ref b1)])) (fun t_ k_ => XS.iconst X12.here hx rfl (hb hby at_47) k_) ?_
  refine own_by (T' := T12) (g' := (mkF m 50 #[.val (.int c0), .val (.int c1), .val (.int c2), .val (.int c3), .val (.int c4), .val (.int sh), .val (.ref b1), .unset, .unset, .unset, .unset, .unset, .unset, .unset] [(.int c4), (.int (4 : Int32)), (.ref b1)])) (fun t_ k_ => XS.iload X12.here hx rfl (hb hby at_48) rfl k_) ?_
  refine own_by (T' := T12) (g' := (mkF m 53 #[.val (.int c0), .val (.int c1), .val (.int c2), .val (.int c3), .val (.int c4), .val (.int sh), .val (.ref b1), .unset, .unset, .unset, .unset, .unset, .unset, .unset] [(.int (255 : Int32)), (.int c4), (.int (4 : Int32)), (.ref b1)])) (fun t_ k_ => XS.sipush X12.here hx rfl (hb hby at_50) k_) ?_
  refine own_by (T' := T12) (g' := (mkF m 54 #[.val (.int c0), .val (.int c1), .val (.int c2), .val (.int c3), .val (.int c4), .val (.int sh), .val (.ref b1), .unset, .unset, .unset, .unset, .unset, .unset, .unset] [(.int (c4 &&& (255 : Int32))), (.int (4 : Int32)), (.ref b1)])) (fun t_ k_ => XS.iand X12.here hx rfl (hb hby at_53) rfl k_) ?_
  refine own_by (T' := T12) (g' := (mkF m 55 #[.val (.int c0), .val (.int c1), .val (.int c2), .val (.int c3), .val (.int c4), .val (.int sh), .val (.ref b1), .unset, .unset, .unset, .unset, .unset, .unset, .unset] [(.int (c4 &&& (255 : Int32)).toUInt32.toUInt16.toUInt32.toInt32), (.int (4 : Int32)), (.ref b1)])) (fun t_ k_ => XS.i2c X12.here hx rfl (hb hby at_54) rfl k_) ?_
  obtain ⟨T15, h15, X15, e15, W15, st15⟩ := own_cas X12 hx hZ e12 V14 (j := (4 : Int32)) (by decide) (by decide) (g := (mkF m 55 #[.val (.int c0), .val (.int c1), .val (.int c2), .val (.int c3), .val (.int c4), .val (.int sh), .val (.ref b1), .unset, .unset, .unset, .unset, .unset, .unset, .unset] [(.int (c4 &&& (255 : Int32)).toUInt32.toUInt16.toUInt32.toInt32), (.int (4 : Int32)), (.ref b1)])) rfl rfl (hb hby at_55)
  refine own_by (T' := T15) (g' := (mkF m 56 #[.val (.int c0), .val (.int c1), .val (.int c2), .val (.int c3), .val (.int c4), .val (.int sh), .val (.ref b1), .unset, .unset, .unset, .unset, .unset, .unset, .unset] [])) st15 ?_
  have N15 := Fr.snoc X15 N12 g_b1
  have f16 := Nat.le_trans f13 (Keep.of_wr W15).1
  have V17 : own_Ia Z h15 b1 .char 5 (fun z_ => if z_ = 4 then (nar .char ((c4 &&& (255 : Int32)).toUInt32.toUInt16.toUInt32.toInt32)) else (fun z_ => if z_ = 3 then (nar .char ((c3 &&& (255 : Int32)).toUInt32.toUInt16.toUInt32.toInt32)) else (fun z_ => if z_ = 2 then (nar .char ((c2 &&& (255 : Int32)).toUInt32.toUInt16.toUInt32.toInt32)) else (fun z_ => if z_ = 1 then (nar .char ((c1 &&& (255 : Int32)).toUInt32.toUInt16.toUInt32.toInt32)) else (fun z_ => if z_ = 0 then (nar .char ((c0 &&& (255 : Int32)).toUInt32.toUInt16.toUInt32.toInt32)) else (fun _ => (0 : Int32)) z_) z_) z_) z_) z_) := own_Ia_set W15 V14 (fits_nar_char _)
  obtain ⟨f, Vf⟩ : ∃ f, own_Ia Z h15 b1 .char 5 f := ⟨_, V17⟩
  refine own_by (T' := T15) (g' := (mkF m 58 #[.val (.int c0), .val (.int c1), .val (.int c2), .val (.int c3), .val (.int c4), .val (.int sh), .val (.ref b1), .unset, .unset, .unset, .unset, .unset, .unset, .unset] [(.int sh)])) (fun t_ k_ => XS.iload X15.here hx rfl (hb hby at_56) rfl k_) ?_
  refine own_by (T' := T15) (g' := (mkF m 59 #[.val (.int c0), .val (.int c1), .val (.int c2), .val (.int c3), .val (.int c4), .val (.int sh), .val (.ref b1), .unset, .unset, .unset, .unset, .unset, .unset, .unset] [(.int (1 : Int32)), (.int sh)])) (fun t_ k_ => XS.iconst X15.here hx rfl (hb hby at_58) k_) ?_
  refine own_by (T' := T15) (g' := (mkF m 60 #[.val (.int c0), .val (.int c1), .val (.int c2), .val (.int c3), .val (.int c4), .val (.int sh), .val (.ref b1), .unset, .unset, .unset, .unset, .unset, .unset, .unset] [(.int (sh &&& (1 : Int32)))])) (fun t_ k_ => XS.iand X15.here hx rfl (hb hby at_59) rfl k_) ?_
  refine own_by (T' := T15) (g' := (mkF m 62 #[.val (.int c0), .val (.int c1), .val (.int c2), .val (.int c3), .val (.int c4), .val (.int sh), .val (.ref b1), .val (.int (sh &&& (1 : Int32))), .unset, .unset, .unset, .unset, .unset, .unset] [])) (fun t_ k_ => XS.istore X15.here hx rfl (hb hby at_60) rfl (l' := #[.val (.int c0), .val (.int c1), .val (.int c2), .val (.int c3), .val (.int c4), .val (.int sh), .val (.ref b1), .val (.int (sh &&& (1 : Int32))), .unset, .unset, .unset, .unset, .unset, .unset]) rfl k_) ?_
  obtain ⟨of, hof⟩ : ∃ z, z = (sh &&& (1 : Int32)) := ⟨_, rfl⟩
  rw [← hof]
  have of1 := own_of1 sh
  rw [← hof] at of1
  refine own_by (T' := T15) (g' := (mkF m 64 #[.val (.int c0), .val (.int c1), .val (.int c2), .val (.int c3), .val (.int c4), .val (.int sh), .val (.ref b1), .val (.int of), .unset, .unset, .unset, .unset, .unset, .unset] [(.int sh)])) (fun t_ k_ => XS.iload X15.here hx rfl (hb hby at_62) rfl k_) ?_
  refine own_by (T' := T15) (g' := (mkF m 65 #[.val (.int c0), .val (.int c1), .val (.int c2), .val (.int c3), .val (.int c4), .val (.int sh), .val (.ref b1), .val (.int of), .unset, .unset, .unset, .unset, .unset, .unset] [(.int (1 : Int32)), (.int sh)])) (fun t_ k_ => XS.iconst X15.here hx rfl (hb hby at_64) k_) ?_
  refine own_by (T' := T15) (g' := (mkF m 66 #[.val (.int c0), .val (.int c1), .val (.int c2), .val (.int c3), .val (.int c4), .val (.int sh), .val (.ref b1), .val (.int of), .unset, .unset, .unset, .unset, .unset, .unset] [(.int ((sh.toUInt32 >>> ((1 : Int32) &&& 31).toUInt32).toInt32))])) (fun t_ k_ => XS.iushr X15.here hx rfl (hb hby at_65) rfl k_) ?_
  refine own_by (T' := T15) (g' := (mkF m 68 #[.val (.int c0), .val (.int c1), .val (.int c2), .val (.int c3), .val (.int c4), .val (.int sh), .val (.ref b1), .val (.int of), .unset, .unset, .unset, .unset, .unset, .unset] [(.int (7 : Int32)), (.int ((sh.toUInt32 >>> ((1 : Int32) &&& 31).toUInt32).toInt32))])) (fun t_ k_ => XS.bipush X15.here hx rfl (hb hby at_66) k_) ?_
  refine own_by (T' := T15) (g' := (mkF m 69 #[.val (.int c0), .val (.int c1), .val (.int c2), .val (.int c3), .val (.int c4), .val (.int sh), .val (.ref b1), .val (.int of), .unset, .unset, .unset, .unset, .unset, .unset] [(.int (((sh.toUInt32 >>> ((1 : Int32) &&& 31).toUInt32).toInt32) &&& (7 : Int32)))])) (fun t_ k_ => XS.iand X15.here hx rfl (hb hby at_68) rfl k_) ?_
  refine own_by (T' := T15) (g' := (mkF m 71 #[.val (.int c0), .val (.int c1), .val (.int c2), .val (.int c3), .val (.int c4), .val (.int sh), .val (.ref b1), .val (.int of), .unset, .unset, .unset, .unset, .unset, .unset] [(.int (6 : Int32)), (.int (((sh.toUInt32 >>> ((1 : Int32) &&& 31).toUInt32).toInt32) &&& (7 : Int32)))])) (fun t_ k_ => XS.bipush X15.here hx rfl (hb hby at_69) k_) ?_
  refine own_by (T' := T15) (g' := (mkF m 73 #[.val (.int c0), .val (.int c1), .val (.int c2), .val (.int c3), .val (.int c4), .val (.int sh), .val (.ref b1), .val (.int of), .unset, .unset, .unset, .unset, .unset, .unset] [(.int of), (.int (6 : Int32)), (.int (((sh.toUInt32 >>> ((1 : Int32) &&& 31).toUInt32).toInt32) &&& (7 : Int32)))])) (fun t_ k_ => XS.iload X15.here hx rfl (hb hby at_71) rfl k_) ?_
  refine own_by (T' := T15) (g' := (mkF m 74 #[.val (.int c0), .val (.int c1), .val (.int c2), .val (.int c3), .val (.int c4), .val (.int sh), .val (.ref b1), .val (.int of), .unset, .unset, .unset, .unset, .unset, .unset] [(.int ((6 : Int32) - of)), (.int (((sh.toUInt32 >>> ((1 : Int32) &&& 31).toUInt32).toInt32) &&& (7 : Int32)))])) (fun t_ k_ => XS.isub X15.here hx rfl (hb hby at_73) rfl k_) ?_
  refine own_by (T' := T15) (g' := (mkF m 75 #[.val (.int c0), .val (.int c1), .val (.int c2), .val (.int c3), .val (.int c4), .val (.int sh), .val (.ref b1), .val (.int of), .unset, .unset, .unset, .unset, .unset, .unset] [(.int ((((sh.toUInt32 >>> ((1 : Int32) &&& 31).toUInt32).toInt32) &&& (7 : Int32)) % ((6 : Int32) - of)))])) (fun t_ k_ => Jvm.RoadKit.iremM X15 hx rfl (hb hby at_74) rfl (own_nz6 of of1) k_) ?_
  refine own_by (T' := T15) (g' := (mkF m 77 #[.val (.int c0), .val (.int c1), .val (.int c2), .val (.int c3), .val (.int c4), .val (.int sh), .val (.ref b1), .val (.int of), .val (.int ((((sh.toUInt32 >>> ((1 : Int32) &&& 31).toUInt32).toInt32) &&& (7 : Int32)) % ((6 : Int32) - of))), .unset, .unset, .unset, .unset, .unset] [])) (fun t_ k_ => XS.istore X15.here hx rfl (hb hby at_75) rfl (l' := #[.val (.int c0), .val (.int c1), .val (.int c2), .val (.int c3), .val (.int c4), .val (.int sh), .val (.ref b1), .val (.int of), .val (.int ((((sh.toUInt32 >>> ((1 : Int32) &&& 31).toUInt32).toInt32) &&& (7 : Int32)) % ((6 : Int32) - of))), .unset, .unset, .unset, .unset, .unset]) rfl k_) ?_
  obtain ⟨le, hle⟩ : ∃ z, z = ((((sh.toUInt32 >>> ((1 : Int32) &&& 31).toUInt32).toInt32) &&& (7 : Int32)) % ((6 : Int32) - of)) := ⟨_, rfl⟩
  rw [← hle]
  have le1 := own_ln1 sh of of1
  rw [← hle] at le1
  obtain ⟨T18, h18, X18, e18, E18, A18, D18, -, st18⟩ := newO X15 hx hZ hown (hw _ (List.mem_of_getElem? (i := 1) rfl)) (hw _ (List.mem_of_getElem? (i := 2) rfl)) (hw _ (List.mem_of_getElem? (i := 3) rfl)) e15 (g := (mkF m 77 #[.val (.int c0), .val (.int c1), .val (.int c2), .val (.int c3), .val (.int c4), .val (.int sh), .val (.ref b1), .val (.int of), .val (.int le), .unset, .unset, .unset, .unset, .unset] [])) rfl (hb hby at_77) (by decide) (by decide)
  obtain ⟨b18, g18⟩ : ∃ z, z = h15.size := ⟨_, rfl⟩
  rw [← g18] at A18 D18 st18
  have g_b18 : n0 ≤ b18 := Nat.le_trans f16 (Nat.le_of_eq g18.symm)
  have ne19 : b1 ≠ b18 := Nat.ne_of_lt (Nat.lt_of_lt_of_le (own_Ia_lt Vf) (Nat.le_of_eq g18.symm))
  have f20 := Nat.le_trans f16 E18.1
  have f21 := own_Ia_ext E18 Vf
  have F18_text : Fld Z h18 b18 "com/example/enumconv/enumconv/core/Decimal$Reading" "text" "[C" .null := D18 (Or.inl (hw _ (List.mem_of_getElem? (i := 16) rfl))) (ty := (.array .char)) (by decide)
  have F18_start : Fld Z h18 b18 "com/example/enumconv/enumconv/core/Decimal$Reading" "start" "I" (.int (0 : Int32)) := D18 (Or.inl (hw _ (List.mem_of_getElem? (i := 18) rfl))) (ty := .int) (by decide)
  have F18_stop : Fld Z h18 b18 "com/example/enumconv/enumconv/core/Decimal$Reading" "stop" "I" (.int (0 : Int32)) := D18 (Or.inl (hw _ (List.mem_of_getElem? (i := 20) rfl))) (ty := .int) (by decide)
  have F18_negative : Fld Z h18 b18 "com/example/enumconv/enumconv/core/Decimal$Reading" "negative" "Z" (.int (0 : Int32)) := D18 (Or.inl (hw _ (List.mem_of_getElem? (i := 22) rfl))) (ty := .boolean) (by decide)
  have F18_digitsAt : Fld Z h18 b18 "com/example/enumconv/enumconv/core/Decimal$Reading" "digitsAt" "I" (.int (0 : Int32)) := D18 (Or.inl (hw _ (List.mem_of_getElem? (i := 24) rfl))) (ty := .int) (by decide)
  have F18_end : Fld Z h18 b18 "com/example/enumconv/enumconv/core/Decimal$Reading" "end" "I" (.int (0 : Int32)) := D18 (Or.inl (hw _ (List.mem_of_getElem? (i := 26) rfl))) (ty := .int) (by decide)
  have F18_point : Fld Z h18 b18 "com/example/enumconv/enumconv/core/Decimal$Reading" "point" "I" (.int (0 : Int32)) := D18 (Or.inl (hw _ (List.mem_of_getElem? (i := 28) rfl))) (ty := .int) (by decide)
  have F18_first : Fld Z h18 b18 "com/example/enumconv/enumconv/core/Decimal$Reading" "first" "I" (.int (0 : Int32)) := D18 (Or.inl (hw _ (List.mem_of_getElem? (i := 30) rfl))) (ty := .int) (by decide)
  have F18_last : Fld Z h18 b18 "com/example/enumconv/enumconv/core/Decimal$Reading" "last" "I" (.int (0 : Int32)) := D18 (Or.inl (hw _ (List.mem_of_getElem? (i := 36) rfl))) (ty := .int) (by decide)
  have F18_exponentAt : Fld Z h18 b18 "com/example/enumconv/enumconv/core/Decimal$Reading" "exponentAt" "I" (.int (0 : Int32)) := D18 (Or.inl (hw _ (List.mem_of_getElem? (i := 42) rfl))) (ty := .int) (by decide)
  have F18_negativeExponent : Fld Z h18 b18 "com/example/enumconv/enumconv/core/Decimal$Reading" "negativeExponent" "Z" (.int (0 : Int32)) := D18 (Or.inl (hw _ (List.mem_of_getElem? (i := 44) rfl))) (ty := .boolean) (by decide)
  refine own_by (T' := T18) (g' := (mkF m 80 #[.val (.int c0), .val (.int c1), .val (.int c2), .val (.int c3), .val (.int c4), .val (.int sh), .val (.ref b1), .val (.int of), .val (.int le), .unset, .unset, .unset, .unset, .unset] [(.ref b18)])) st18 ?_
  refine own_by (T' := T18) (g' := (mkF m 81 #[.val (.int c0), .val (.int c1), .val (.int c2), .val (.int c3), .val (.int c4), .val (.int sh), .val (.ref b1), .val (.int of), .val (.int le), .unset, .unset, .unset, .unset, .unset] [(.ref b18), (.ref b18)])) (fun t_ k_ => XS.dup X18.here hx rfl (hb hby at_80) rfl rfl k_) ?_
  obtain ⟨_, T22, L22, X22, hQ22, st22⟩ := own_callI X18 hx hZ (y := (⟨"com/example/enumconv/enumconv/core/Decimal$Reading", "<init>", "()V"⟩ : MethodName)) rfl hown (hw _ (List.mem_of_getElem? (i := 4) rfl)) (hw _ (List.mem_of_getElem? (i := 5) rfl)) (hw _ (List.mem_of_getElem? (i := 3) rfl)) (hw _ (List.mem_of_getElem? (i := 6) rfl)) (by decide) (argsL := []) (rest := [(.ref b18)]) (own_rm_ini l Z a0 hw [] b18  h18 n0 f20 ) e18 (W := 1) (by decide) (by decide) (by decide) (by decide) (g := (mkF m 81 #[.val (.int c0), .val (.int c1), .val (.int c2), .val (.int c3), .val (.int c4), .val (.int sh), .val (.ref b1), .val (.int of), .val (.int le), .unset, .unset, .unset, .unset, .unset] [(.ref b18), (.ref b18)])) rfl (by rw [hml]; rfl) (lenOf own_pd4 rfl) rfl (by show 2 * 0 + _ ≤ _; exact Nat.le_of_eq rfl) (hb hby at_81)
  obtain ⟨rfl, Nq22, e22⟩ := hQ22
  have N22 := Fr.app N15 Nq22
  refine st22 _ ?_
  show own_Goes p e below _ T22 (mkF m 84 #[.val (.int c0), .val (.int c1), .val (.int c2), .val (.int c3), .val (.int c4), .val (.int sh), .val (.ref b1), .val (.int of), .val (.int le), .unset, .unset, .unset, .unset, .unset] [(.ref b18)])
  refine own_by (T' := T22) (g' := (mkF m 86 #[.val (.int c0), .val (.int c1), .val (.int c2), .val (.int c3), .val (.int c4), .val (.int sh), .val (.ref b1), .val (.int of), .val (.int le), .val (.ref b18), .unset, .unset, .unset, .unset] [])) (fun t_ k_ => XS.astore X22.here hx rfl (hb hby at_84) rfl rfl (l' := #[.val (.int c0), .val (.int c1), .val (.int c2), .val (.int c3), .val (.int c4), .val (.int sh), .val (.ref b1), .val (.int of), .val (.int le), .val (.ref b18), .unset, .unset, .unset, .unset]) rfl k_) ?_
  refine own_by (T' := T22) (g' := (mkF m 88 #[.val (.int c0), .val (.int c1), .val (.int c2), .val (.int c3), .val (.int c4), .val (.int sh), .val (.ref b1), .val (.int of), .val (.int le), .val (.ref b18), .unset, .unset, .unset, .unset] [(.ref b18)])) (fun t_ k_ => XS.aload X22.here hx rfl (hb hby at_86) rfl rfl k_) ?_
  refine own_by (T' := T22) (g' := (mkF m 90 #[.val (.int c0), .val (.int c1), .val (.int c2), .val (.int c3), .val (.int c4), .val (.int sh), .val (.ref b1), .val (.int of), .val (.int le), .val (.ref b18), .unset, .unset, .unset, .unset] [(.ref b1), (.ref b18)])) (fun t_ k_ => XS.aload X22.here hx rfl (hb hby at_88) rfl rfl k_) ?_
  refine own_by (T' := T22) (g' := (mkF m 91 #[.val (.int c0), .val (.int c1), .val (.int c2), .val (.int c3), .val (.int c4), .val (.int sh), .val (.ref b1), .val (.int of), .val (.int le), .val (.ref b18), .unset, .unset, .unset, .unset] [(.int (0 : Int32)), (.ref b1), (.ref b18)])) (fun t_ k_ => XS.iconst X22.here hx rfl (hb hby at_90) k_) ?_
  refine own_by (T' := T22) (g' := (mkF m 92 #[.val (.int c0), .val (.int c1), .val (.int c2), .val (.int c3), .val (.int c4), .val (.int sh), .val (.ref b1), .val (.int of), .val (.int le), .val (.ref b18), .unset, .unset, .unset, .unset] [(.int (5 : Int32)), (.int (0 : Int32)), (.ref b1), (.ref b18)])) (fun t_ k_ => XS.iconst X22.here hx rfl (hb hby at_91) k_) ?_
  obtain ⟨_, T23, L23, X23, hQ23, st23⟩ := own_callV X22 hx hZ (y := (⟨"com/example/enumconv/enumconv/core/Decimal$Reading", "read", "([CII)Lcom/example/enumconv/enumconv/core/Decimal$Reading;"⟩ : MethodName)) hown (hw _ (List.mem_of_getElem? (i := 10) rfl)) (hw _ (List.mem_of_getElem? (i := 11) rfl)) (hw _ (List.mem_of_getElem? (i := 13) rfl)) (hw _ (List.mem_of_getElem? (i := 12) rfl)) (hw _ (List.mem_of_getElem? (i := 3) rfl)) (hw _ (List.mem_of_getElem? (i := 14) rfl)) (by decide) (argsL := [(.ref b1), (.int (0 : Int32)), (.int (5 : Int32))]) (rest := []) A18 (own_rm_read l Z a0 hw [] b18 b1 (0 : Int32) (5 : Int32) f .null (0 : Int32) (0 : Int32) (0 : Int32) (0 : Int32) (0 : Int32) (0 : Int32) (0 : Int32) (0 : Int32) (0 : Int32) (0 : Int32) h18 n0 f20 A18 g_b18 f21 ne19 (by decide) (by decide) (by decide) F18_text F18_start F18_stop F18_negative F18_digitsAt F18_end F18_point F18_first F18_last F18_exponentAt F18_negativeExponent) e22 (W := 0) (by decide) (by decide) (by decide) (by decide) (g := (mkF m 92 #[.val (.int c0), .val (.int c1), .val (.int c2), .val (.int c3), .val (.int c4), .val (.int sh), .val (.ref b1), .val (.int of), .val (.int le), .val (.ref b18), .unset, .unset, .unset, .unset] [(.int (5 : Int32)), (.int (0 : Int32)), (.ref b1), (.ref b18)])) rfl (by rw [hml]; rfl) (lenOf own_pd5 rfl) rfl (by show 2 * 0 + _ ≤ _; exact Nat.le_of_eq rfl) (hb hby at_92)
  obtain ⟨q23_1, q23_2, q23_3, q23_4, q23_5, q23_6, q23_7, q23_8, rfl, Nq23, Kq23, Eq23, Fq23_0, Fq23_1, Fq23_2, Fq23_3, Fq23_4, Fq23_5, Fq23_6, Fq23_7, Fq23_8, Fq23_9, Fq23_10, hR23⟩ := hQ23
  have N23 := Fr.app N22 Nq23
  have f24 := Nat.le_trans f20 Kq23.1
  have f25 := own_Ia_keep Kq23 f21 (ninS ne19 nin0)
  have f26 := Exa.keep A18 Kq23
  refine st23 _ ?_
  show own_Goes p e below _ T23 (mkF m 95 #[.val (.int c0), .val (.int c1), .val (.int c2), .val (.int c3), .val (.int c4), .val (.int sh), .val (.ref b1), .val (.int of), .val (.int le), .val (.ref b18), .unset, .unset, .unset, .unset] [(.ref b18)])
  refine own_by (T' := T23) (g' := (mkF m 96 #[.val (.int c0), .val (.int c1), .val (.int c2), .val (.int c3), .val (.int c4), .val (.int sh), .val (.ref b1), .val (.int of), .val (.int le), .val (.ref b18), .unset, .unset, .unset, .unset] [])) (fun t_ k_ => XS.pop X23.here hx rfl (hb hby at_95) rfl rfl k_) ?_
  refine own_by (T' := T23) (g' := (mkF m 98 #[.val (.int c0), .val (.int c1), .val (.int c2), .val (.int c3), .val (.int c4), .val (.int sh), .val (.ref b1), .val (.int of), .val (.int le), .val (.ref b18), .unset, .unset, .unset, .unset] [(.ref b18)])) (fun t_ k_ => XS.aload X23.here hx rfl (hb hby at_96) rfl rfl k_) ?_
  obtain ⟨_, T27, L27, X27, hQ27, st27⟩ := own_callV X23 hx hZ (y := (⟨"com/example/enumconv/enumconv/core/Decimal$Reading", "isInteger", "()Z"⟩ : MethodName)) hown (hw _ (List.mem_of_getElem? (i := 45) rfl)) (hw _ (List.mem_of_getElem? (i := 46) rfl)) (hw _ (List.mem_of_getElem? (i := 48) rfl)) (hw _ (List.mem_of_getElem? (i := 47) rfl)) (hw _ (List.mem_of_getElem? (i := 3) rfl)) (hw _ (List.mem_of_getElem? (i := 49) rfl)) (by decide) (argsL := []) (rest := []) f26 (own_rm_isI l Z a0 hw [] b18 q23_4 q23_3 (((0 : Int32) + (5 : Int32))) (own_int q23_4 q23_3 (((0 : Int32) + (5 : Int32)))) T23.heap n0 f24 Fq23_6 Fq23_5 Fq23_2 rfl) rfl (W := 0) (by decide) (by decide) (by decide) (by decide) (g := (mkF m 98 #[.val (.int c0), .val (.int c1), .val (.int c2), .val (.int c3), .val (.int c4), .val (.int sh), .val (.ref b1), .val (.int of), .val (.int le), .val (.ref b18), .unset, .unset, .unset, .unset] [(.ref b18)])) rfl (by rw [hml]; rfl) (lenOf own_pd6 rfl) rfl (by show 2 * 0 + _ ≤ _; exact Nat.le_of_eq rfl) (hb hby at_98)
  obtain ⟨rfl, Nq27, e27⟩ := hQ27
  have N27 := Fr.app N23 Nq27
  refine st27 _ ?_
  show own_Goes p e below _ T27 (mkF m 101 #[.val (.int c0), .val (.int c1), .val (.int c2), .val (.int c3), .val (.int c4), .val (.int sh), .val (.ref b1), .val (.int of), .val (.int le), .val (.ref b18), .unset, .unset, .unset, .unset] [(.int (own_int q23_4 q23_3 (((0 : Int32) + (5 : Int32)))))])
  refine own_by (T' := T27) (g' := (mkF m 103 #[.val (.int c0), .val (.int c1), .val (.int c2), .val (.int c3), .val (.int c4), .val (.int sh), .val (.ref b1), .val (.int of), .val (.int le), .val (.ref b18), .val (.int (own_int q23_4 q23_3 (((0 : Int32) + (5 : Int32))))), .unset, .unset, .unset] [])) (fun t_ k_ => XS.istore X27.here hx rfl (hb hby at_101) rfl (l' := #[.val (.int c0), .val (.int c1), .val (.int c2), .val (.int c3), .val (.int c4), .val (.int sh), .val (.ref b1), .val (.int of), .val (.int le), .val (.ref b18), .val (.int (own_int q23_4 q23_3 (((0 : Int32) + (5 : Int32))))), .unset, .unset, .unset]) rfl k_) ?_
  refine own_by (T' := T27) (g' := (mkF m 105 #[.val (.int c0), .val (.int c1), .val (.int c2), .val (.int c3), .val (.int c4), .val (.int sh), .val (.ref b1), .val (.int of), .val (.int le), .val (.ref b18), .val (.int (own_int q23_4 q23_3 (((0 : Int32) + (5 : Int32))))), .unset, .unset, .unset] [(.int (own_int q23_4 q23_3 (((0 : Int32) + (5 : Int32)))))])) (fun t_ k_ => XS.iload X27.here hx rfl (hb hby at_103) rfl k_) ?_
  refine own_by (T' := T27) (g' := (mkF m 107 #[.val (.int c0), .val (.int c1), .val (.int c2), .val (.int c3), .val (.int c4), .val (.int sh), .val (.ref b1), .val (.int of), .val (.int le), .val (.ref b18), .val (.int (own_int q23_4 q23_3 (((0 : Int32) + (5 : Int32))))), .unset, .unset, .unset] [(.ref b1), (.int (own_int q23_4 q23_3 (((0 : Int32) + (5 : Int32)))))])) (fun t_ k_ => XS.aload X27.here hx rfl (hb hby at_105) rfl rfl k_) ?_
  refine own_by (T' := T27) (g' := (mkF m 108 #[.val (.int c0), .val (.int c1), .val (.int c2), .val (.int c3), .val (.int c4), .val (.int sh), .val (.ref b1), .val (.int of), .val (.int le), .val (.ref b18), .val (.int (own_int q23_4 q23_3 (((0 : Int32) + (5 : Int32))))), .unset, .unset, .unset] [(.int (0 : Int32)), (.ref b1), (.int (own_int q23_4 q23_3 (((0 : Int32) + (5 : Int32)))))])) (fun t_ k_ => XS.iconst X27.here hx rfl (hb hby at_107) k_) ?_
  refine own_by (T' := T27) (g' := (mkF m 109 #[.val (.int c0), .val (.int c1), .val (.int c2), .val (.int c3), .val (.int c4), .val (.int sh), .val (.ref b1), .val (.int of), .val (.int le), .val (.ref b18), .val (.int (own_int q23_4 q23_3 (((0 : Int32) + (5 : Int32))))), .unset, .unset, .unset] [(.int (5 : Int32)), (.int (0 : Int32)), (.ref b1), (.int (own_int q23_4 q23_3 (((0 : Int32) + (5 : Int32)))))])) (fun t_ k_ => XS.iconst X27.here hx rfl (hb hby at_108) k_) ?_
  obtain ⟨_, T28, L28, X28, hQ28, st28⟩ := own_callS X27 hx hZ (y := (⟨"com/example/enumconv/enumconv/core/ReadingIsIntegerPinLaw", "expected", "([CII)Z"⟩ : MethodName)) hown (hw _ (List.mem_of_getElem? (i := 50) rfl)) (hw _ (List.mem_of_getElem? (i := 51) rfl)) (hw _ (List.mem_of_getElem? (i := 52) rfl)) (hw _ (List.mem_of_getElem? (i := 53) rfl)) (by decide) (argsL := [(.ref b1), (.int (0 : Int32)), (.int (5 : Int32))]) (rest := [(.int (own_int q23_4 q23_3 (((0 : Int32) + (5 : Int32)))))]) (own_rm_exp l Z a0 hw [] b1 (0 : Int32) (5 : Int32) f T23.heap n0 f24 f25) e27 (W := 1) (by decide) (by decide) (by decide) (by decide) (g := (mkF m 109 #[.val (.int c0), .val (.int c1), .val (.int c2), .val (.int c3), .val (.int c4), .val (.int sh), .val (.ref b1), .val (.int of), .val (.int le), .val (.ref b18), .val (.int (own_int q23_4 q23_3 (((0 : Int32) + (5 : Int32))))), .unset, .unset, .unset] [(.int (5 : Int32)), (.int (0 : Int32)), (.ref b1), (.int (own_int q23_4 q23_3 (((0 : Int32) + (5 : Int32)))))])) rfl (by rw [hml]; rfl) (lenOf own_pd7 rfl) rfl (by show 2 * 0 + _ ≤ _; exact Nat.le_of_eq rfl) (hb hby at_109)
  obtain ⟨rfl, Nq28, e28⟩ := hQ28
  have N28 := Fr.app N27 Nq28
  refine st28 _ ?_
  show own_Goes p e below _ T28 (mkF m 112 #[.val (.int c0), .val (.int c1), .val (.int c2), .val (.int c3), .val (.int c4), .val (.int sh), .val (.ref b1), .val (.int of), .val (.int le), .val (.ref b18), .val (.int (own_int q23_4 q23_3 (((0 : Int32) + (5 : Int32))))), .unset, .unset, .unset] [(.int (own_exp f (0 : Int32) (5 : Int32))), (.int (own_int q23_4 q23_3 (((0 : Int32) + (5 : Int32)))))])
  refine own_by (T' := T28) (g' := (mkF m 115 #[.val (.int c0), .val (.int c1), .val (.int c2), .val (.int c3), .val (.int c4), .val (.int sh), .val (.ref b1), .val (.int of), .val (.int le), .val (.ref b18), .val (.int (own_int q23_4 q23_3 (((0 : Int32) + (5 : Int32))))), .unset, .unset, .unset] [])) (fun t_ k_ => XS.icmpNo X28.here hx rfl (hb hby at_112) rfl (teq ((own_cmp f (0 : Int32) (5 : Int32) q23_4 q23_3 (by decide) (by decide) (by decide) hR23) : (own_int q23_4 q23_3 (((0 : Int32) + (5 : Int32)))) = (own_exp f (0 : Int32) (5 : Int32)))).2 k_) ?_
  refine own_by (T' := T28) (g' := (mkF m 116 #[.val (.int c0), .val (.int c1), .val (.int c2), .val (.int c3), .val (.int c4), .val (.int sh), .val (.ref b1), .val (.int of), .val (.int le), .val (.ref b18), .val (.int (own_int q23_4 q23_3 (((0 : Int32) + (5 : Int32))))), .unset, .unset, .unset] [(.int (1 : Int32))])) (fun t_ k_ => XS.iconst X28.here hx rfl (hb hby at_115) k_) ?_
  refine own_by (T' := T28) (g' := (mkF m 120 #[.val (.int c0), .val (.int c1), .val (.int c2), .val (.int c3), .val (.int c4), .val (.int sh), .val (.ref b1), .val (.int of), .val (.int le), .val (.ref b18), .val (.int (own_int q23_4 q23_3 (((0 : Int32) + (5 : Int32))))), .unset, .unset, .unset] [(.int (1 : Int32))])) (fun t_ k_ => XS.goto X28.here hx rfl (pc0 := 116) (pc' := 120) rfl (hb hby at_116) (by decide) (by decide) k_) ?_
  refine own_by (T' := T28) (g' := (mkF m 122 #[.val (.int c0), .val (.int c1), .val (.int c2), .val (.int c3), .val (.int c4), .val (.int sh), .val (.ref b1), .val (.int of), .val (.int le), .val (.ref b18), .val (.int (own_int q23_4 q23_3 (((0 : Int32) + (5 : Int32))))), .val (.int (1 : Int32)), .unset, .unset] [])) (fun t_ k_ => XS.istore X28.here hx rfl (hb hby at_120) rfl (l' := #[.val (.int c0), .val (.int c1), .val (.int c2), .val (.int c3), .val (.int c4), .val (.int sh), .val (.ref b1), .val (.int of), .val (.int le), .val (.ref b18), .val (.int (own_int q23_4 q23_3 (((0 : Int32) + (5 : Int32))))), .val (.int (1 : Int32)), .unset, .unset]) rfl k_) ?_
  refine own_by (T' := T28) (g' := (mkF m 124 #[.val (.int c0), .val (.int c1), .val (.int c2), .val (.int c3), .val (.int c4), .val (.int sh), .val (.ref b1), .val (.int of), .val (.int le), .val (.ref b18), .val (.int (own_int q23_4 q23_3 (((0 : Int32) + (5 : Int32))))), .val (.int (1 : Int32)), .unset, .unset] [(.ref b18)])) (fun t_ k_ => XS.aload X28.here hx rfl (hb hby at_122) rfl rfl k_) ?_
  refine own_by (T' := T28) (g' := (mkF m 126 #[.val (.int c0), .val (.int c1), .val (.int c2), .val (.int c3), .val (.int c4), .val (.int sh), .val (.ref b1), .val (.int of), .val (.int le), .val (.ref b18), .val (.int (own_int q23_4 q23_3 (((0 : Int32) + (5 : Int32))))), .val (.int (1 : Int32)), .unset, .unset] [(.ref b1), (.ref b18)])) (fun t_ k_ => XS.aload X28.here hx rfl (hb hby at_124) rfl rfl k_) ?_
  refine own_by (T' := T28) (g' := (mkF m 128 #[.val (.int c0), .val (.int c1), .val (.int c2), .val (.int c3), .val (.int c4), .val (.int sh), .val (.ref b1), .val (.int of), .val (.int le), .val (.ref b18), .val (.int (own_int q23_4 q23_3 (((0 : Int32) + (5 : Int32))))), .val (.int (1 : Int32)), .unset, .unset] [(.int of), (.ref b1), (.ref b18)])) (fun t_ k_ => XS.iload X28.here hx rfl (hb hby at_126) rfl k_) ?_
  refine own_by (T' := T28) (g' := (mkF m 130 #[.val (.int c0), .val (.int c1), .val (.int c2), .val (.int c3), .val (.int c4), .val (.int sh), .val (.ref b1), .val (.int of), .val (.int le), .val (.ref b18), .val (.int (own_int q23_4 q23_3 (((0 : Int32) + (5 : Int32))))), .val (.int (1 : Int32)), .unset, .unset] [(.int le), (.int of), (.ref b1), (.ref b18)])) (fun t_ k_ => XS.iload X28.here hx rfl (hb hby at_128) rfl k_) ?_
  obtain ⟨_, T29, L29, X29, hQ29, st29⟩ := own_callV X28 hx hZ (y := (⟨"com/example/enumconv/enumconv/core/Decimal$Reading", "read", "([CII)Lcom/example/enumconv/enumconv/core/Decimal$Reading;"⟩ : MethodName)) hown (hw _ (List.mem_of_getElem? (i := 10) rfl)) (hw _ (List.mem_of_getElem? (i := 11) rfl)) (hw _ (List.mem_of_getElem? (i := 13) rfl)) (hw _ (List.mem_of_getElem? (i := 12) rfl)) (hw _ (List.mem_of_getElem? (i := 3) rfl)) (hw _ (List.mem_of_getElem? (i := 14) rfl)) (by decide) (argsL := [(.ref b1), (.int of), (.int le)]) (rest := []) f26 (own_rm_read l Z a0 hw [] b18 b1 of le f (.ref b1) (0 : Int32) (((0 : Int32) + (5 : Int32))) q23_1 q23_2 q23_3 q23_4 q23_5 q23_6 q23_7 q23_8 T23.heap n0 f24 f26 g_b18 f25 ne19 of1.1 le1.1 le1.2 Fq23_0 Fq23_1 Fq23_2 Fq23_3 Fq23_4 Fq23_5 Fq23_6 Fq23_7 Fq23_8 Fq23_9 Fq23_10) e28 (W := 0) (by decide) (by decide) (by decide) (by decide) (g := (mkF m 130 #[.val (.int c0), .val (.int c1), .val (.int c2), .val (.int c3), .val (.int c4), .val (.int sh), .val (.ref b1), .val (.int of), .val (.int le), .val (.ref b18), .val (.int (own_int q23_4 q23_3 (((0 : Int32) + (5 : Int32))))), .val (.int (1 : Int32)), .unset, .unset] [(.int le), (.int of), (.ref b1), (.ref b18)])) rfl (by rw [hml]; rfl) (lenOf own_pd5 rfl) rfl (by show 2 * 0 + _ ≤ _; exact Nat.le_of_eq rfl) (hb hby at_130)
  obtain ⟨q29_1, q29_2, q29_3, q29_4, q29_5, q29_6, q29_7, q29_8, rfl, Nq29, Kq29, Eq29, Fq29_0, Fq29_1, Fq29_2, Fq29_3, Fq29_4, Fq29_5, Fq29_6, Fq29_7, Fq29_8, Fq29_9, Fq29_10, hR29⟩ := hQ29
  have N29 := Fr.app N28 Nq29
  have f30 := Nat.le_trans f24 Kq29.1
  have f31 := own_Ia_keep Kq29 f25 (ninS ne19 nin0)
  have f32 := Exa.keep f26 Kq29
  refine st29 _ ?_
  show own_Goes p e below _ T29 (mkF m 133 #[.val (.int c0), .val (.int c1), .val (.int c2), .val (.int c3), .val (.int c4), .val (.int sh), .val (.ref b1), .val (.int of), .val (.int le), .val (.ref b18), .val (.int (own_int q23_4 q23_3 (((0 : Int32) + (5 : Int32))))), .val (.int (1 : Int32)), .unset, .unset] [(.ref b18)])
  refine own_by (T' := T29) (g' := (mkF m 134 #[.val (.int c0), .val (.int c1), .val (.int c2), .val (.int c3), .val (.int c4), .val (.int sh), .val (.ref b1), .val (.int of), .val (.int le), .val (.ref b18), .val (.int (own_int q23_4 q23_3 (((0 : Int32) + (5 : Int32))))), .val (.int (1 : Int32)), .unset, .unset] [])) (fun t_ k_ => XS.pop X29.here hx rfl (hb hby at_133) rfl rfl k_) ?_
  refine own_by (T' := T29) (g' := (mkF m 136 #[.val (.int c0), .val (.int c1), .val (.int c2), .val (.int c3), .val (.int c4), .val (.int sh), .val (.ref b1), .val (.int of), .val (.int le), .val (.ref b18), .val (.int (own_int q23_4 q23_3 (((0 : Int32) + (5 : Int32))))), .val (.int (1 : Int32)), .unset, .unset] [(.ref b18)])) (fun t_ k_ => XS.aload X29.here hx rfl (hb hby at_134) rfl rfl k_) ?_
  obtain ⟨_, T33, L33, X33, hQ33, st33⟩ := own_callV X29 hx hZ (y := (⟨"com/example/enumconv/enumconv/core/Decimal$Reading", "isInteger", "()Z"⟩ : MethodName)) hown (hw _ (List.mem_of_getElem? (i := 45) rfl)) (hw _ (List.mem_of_getElem? (i := 46) rfl)) (hw _ (List.mem_of_getElem? (i := 48) rfl)) (hw _ (List.mem_of_getElem? (i := 47) rfl)) (hw _ (List.mem_of_getElem? (i := 3) rfl)) (hw _ (List.mem_of_getElem? (i := 49) rfl)) (by decide) (argsL := []) (rest := []) f32 (own_rm_isI l Z a0 hw [] b18 q29_4 q29_3 (of + le) (own_int q29_4 q29_3 (of + le)) T29.heap n0 f30 Fq29_6 Fq29_5 Fq29_2 rfl) rfl (W := 0) (by decide) (by decide) (by decide) (by decide) (g := (mkF m 136 #[.val (.int c0), .val (.int c1), .val (.int c2), .val (.int c3), .val (.int c4), .val (.int sh), .val (.ref b1), .val (.int of), .val (.int le), .val (.ref b18), .val (.int (own_int q23_4 q23_3 (((0 : Int32) + (5 : Int32))))), .val (.int (1 : Int32)), .unset, .unset] [(.ref b18)])) rfl (by rw [hml]; rfl) (lenOf own_pd6 rfl) rfl (by show 2 * 0 + _ ≤ _; exact Nat.le_of_eq rfl) (hb hby at_136)
  obtain ⟨rfl, Nq33, e33⟩ := hQ33
  have N33 := Fr.app N29 Nq33
  refine st33 _ ?_
  show own_Goes p e below _ T33 (mkF m 139 #[.val (.int c0), .val (.int c1), .val (.int c2), .val (.int c3), .val (.int c4), .val (.int sh), .val (.ref b1), .val (.int of), .val (.int le), .val (.ref b18), .val (.int (own_int q23_4 q23_3 (((0 : Int32) + (5 : Int32))))), .val (.int (1 : Int32)), .unset, .unset] [(.int (own_int q29_4 q29_3 (of + le)))])
  refine own_by (T' := T33) (g' := (mkF m 141 #[.val (.int c0), .val (.int c1), .val (.int c2), .val (.int c3), .val (.int c4), .val (.int sh), .val (.ref b1), .val (.int of), .val (.int le), .val (.ref b18), .val (.int (own_int q23_4 q23_3 (((0 : Int32) + (5 : Int32))))), .val (.int (1 : Int32)), .val (.int (own_int q29_4 q29_3 (of + le))), .unset] [])) (fun t_ k_ => XS.istore X33.here hx rfl (hb hby at_139) rfl (l' := #[.val (.int c0), .val (.int c1), .val (.int c2), .val (.int c3), .val (.int c4), .val (.int sh), .val (.ref b1), .val (.int of), .val (.int le), .val (.ref b18), .val (.int (own_int q23_4 q23_3 (((0 : Int32) + (5 : Int32))))), .val (.int (1 : Int32)), .val (.int (own_int q29_4 q29_3 (of + le))), .unset]) rfl k_) ?_
  refine own_by (T' := T33) (g' := (mkF m 143 #[.val (.int c0), .val (.int c1), .val (.int c2), .val (.int c3), .val (.int c4), .val (.int sh), .val (.ref b1), .val (.int of), .val (.int le), .val (.ref b18), .val (.int (own_int q23_4 q23_3 (((0 : Int32) + (5 : Int32))))), .val (.int (1 : Int32)), .val (.int (own_int q29_4 q29_3 (of + le))), .unset] [(.int (own_int q29_4 q29_3 (of + le)))])) (fun t_ k_ => XS.iload X33.here hx rfl (hb hby at_141) rfl k_) ?_
  refine own_by (T' := T33) (g' := (mkF m 145 #[.val (.int c0), .val (.int c1), .val (.int c2), .val (.int c3), .val (.int c4), .val (.int sh), .val (.ref b1), .val (.int of), .val (.int le), .val (.ref b18), .val (.int (own_int q23_4 q23_3 (((0 : Int32) + (5 : Int32))))), .val (.int (1 : Int32)), .val (.int (own_int q29_4 q29_3 (of + le))), .unset] [(.ref b1), (.int (own_int q29_4 q29_3 (of + le)))])) (fun t_ k_ => XS.aload X33.here hx rfl (hb hby at_143) rfl rfl k_) ?_
  refine own_by (T' := T33) (g' := (mkF m 147 #[.val (.int c0), .val (.int c1), .val (.int c2), .val (.int c3), .val (.int c4), .val (.int sh), .val (.ref b1), .val (.int of), .val (.int le), .val (.ref b18), .val (.int (own_int q23_4 q23_3 (((0 : Int32) + (5 : Int32))))), .val (.int (1 : Int32)), .val (.int (own_int q29_4 q29_3 (of + le))), .unset] [(.int of), (.ref b1), (.int (own_int q29_4 q29_3 (of + le)))])) (fun t_ k_ => XS.iload X33.here hx rfl (hb hby at_145) rfl k_) ?_
  refine own_by (T' := T33) (g' := (mkF m 149 #[.val (.int c0), .val (.int c1), .val (.int c2), .val (.int c3), .val (.int c4), .val (.int sh), .val (.ref b1), .val (.int of), .val (.int le), .val (.ref b18), .val (.int (own_int q23_4 q23_3 (((0 : Int32) + (5 : Int32))))), .val (.int (1 : Int32)), .val (.int (own_int q29_4 q29_3 (of + le))), .unset] [(.int le), (.int of), (.ref b1), (.int (own_int q29_4 q29_3 (of + le)))])) (fun t_ k_ => XS.iload X33.here hx rfl (hb hby at_147) rfl k_) ?_
  obtain ⟨_, T34, L34, X34, hQ34, st34⟩ := own_callS X33 hx hZ (y := (⟨"com/example/enumconv/enumconv/core/ReadingIsIntegerPinLaw", "expected", "([CII)Z"⟩ : MethodName)) hown (hw _ (List.mem_of_getElem? (i := 50) rfl)) (hw _ (List.mem_of_getElem? (i := 51) rfl)) (hw _ (List.mem_of_getElem? (i := 52) rfl)) (hw _ (List.mem_of_getElem? (i := 53) rfl)) (by decide) (argsL := [(.ref b1), (.int of), (.int le)]) (rest := [(.int (own_int q29_4 q29_3 (of + le)))]) (own_rm_exp l Z a0 hw [] b1 of le f T29.heap n0 f30 f31) e33 (W := 1) (by decide) (by decide) (by decide) (by decide) (g := (mkF m 149 #[.val (.int c0), .val (.int c1), .val (.int c2), .val (.int c3), .val (.int c4), .val (.int sh), .val (.ref b1), .val (.int of), .val (.int le), .val (.ref b18), .val (.int (own_int q23_4 q23_3 (((0 : Int32) + (5 : Int32))))), .val (.int (1 : Int32)), .val (.int (own_int q29_4 q29_3 (of + le))), .unset] [(.int le), (.int of), (.ref b1), (.int (own_int q29_4 q29_3 (of + le)))])) rfl (by rw [hml]; rfl) (lenOf own_pd7 rfl) rfl (by show 2 * 0 + _ ≤ _; exact Nat.le_of_eq rfl) (hb hby at_149)
  obtain ⟨rfl, Nq34, e34⟩ := hQ34
  have N34 := Fr.app N33 Nq34
  refine st34 _ ?_
  show own_Goes p e below _ T34 (mkF m 152 #[.val (.int c0), .val (.int c1), .val (.int c2), .val (.int c3), .val (.int c4), .val (.int sh), .val (.ref b1), .val (.int of), .val (.int le), .val (.ref b18), .val (.int (own_int q23_4 q23_3 (((0 : Int32) + (5 : Int32))))), .val (.int (1 : Int32)), .val (.int (own_int q29_4 q29_3 (of + le))), .unset] [(.int (own_exp f of le)), (.int (own_int q29_4 q29_3 (of + le)))])
  refine own_by (T' := T34) (g' := (mkF m 155 #[.val (.int c0), .val (.int c1), .val (.int c2), .val (.int c3), .val (.int c4), .val (.int sh), .val (.ref b1), .val (.int of), .val (.int le), .val (.ref b18), .val (.int (own_int q23_4 q23_3 (((0 : Int32) + (5 : Int32))))), .val (.int (1 : Int32)), .val (.int (own_int q29_4 q29_3 (of + le))), .unset] [])) (fun t_ k_ => XS.icmpNo X34.here hx rfl (hb hby at_152) rfl (teq ((own_cmp f of le q29_4 q29_3 of1.1 le1.1 le1.2 hR29) : (own_int q29_4 q29_3 (of + le)) = (own_exp f of le))).2 k_) ?_
  refine own_by (T' := T34) (g' := (mkF m 156 #[.val (.int c0), .val (.int c1), .val (.int c2), .val (.int c3), .val (.int c4), .val (.int sh), .val (.ref b1), .val (.int of), .val (.int le), .val (.ref b18), .val (.int (own_int q23_4 q23_3 (((0 : Int32) + (5 : Int32))))), .val (.int (1 : Int32)), .val (.int (own_int q29_4 q29_3 (of + le))), .unset] [(.int (1 : Int32))])) (fun t_ k_ => XS.iconst X34.here hx rfl (hb hby at_155) k_) ?_
  refine own_by (T' := T34) (g' := (mkF m 160 #[.val (.int c0), .val (.int c1), .val (.int c2), .val (.int c3), .val (.int c4), .val (.int sh), .val (.ref b1), .val (.int of), .val (.int le), .val (.ref b18), .val (.int (own_int q23_4 q23_3 (((0 : Int32) + (5 : Int32))))), .val (.int (1 : Int32)), .val (.int (own_int q29_4 q29_3 (of + le))), .unset] [(.int (1 : Int32))])) (fun t_ k_ => XS.goto X34.here hx rfl (pc0 := 156) (pc' := 160) rfl (hb hby at_156) (by decide) (by decide) k_) ?_
  refine own_by (T' := T34) (g' := (mkF m 162 #[.val (.int c0), .val (.int c1), .val (.int c2), .val (.int c3), .val (.int c4), .val (.int sh), .val (.ref b1), .val (.int of), .val (.int le), .val (.ref b18), .val (.int (own_int q23_4 q23_3 (((0 : Int32) + (5 : Int32))))), .val (.int (1 : Int32)), .val (.int (own_int q29_4 q29_3 (of + le))), .val (.int (1 : Int32))] [])) (fun t_ k_ => XS.istore X34.here hx rfl (hb hby at_160) rfl (l' := #[.val (.int c0), .val (.int c1), .val (.int c2), .val (.int c3), .val (.int c4), .val (.int sh), .val (.ref b1), .val (.int of), .val (.int le), .val (.ref b18), .val (.int (own_int q23_4 q23_3 (((0 : Int32) + (5 : Int32))))), .val (.int (1 : Int32)), .val (.int (own_int q29_4 q29_3 (of + le))), .val (.int (1 : Int32))]) rfl k_) ?_
  refine own_by (T' := T34) (g' := (mkF m 164 #[.val (.int c0), .val (.int c1), .val (.int c2), .val (.int c3), .val (.int c4), .val (.int sh), .val (.ref b1), .val (.int of), .val (.int le), .val (.ref b18), .val (.int (own_int q23_4 q23_3 (((0 : Int32) + (5 : Int32))))), .val (.int (1 : Int32)), .val (.int (own_int q29_4 q29_3 (of + le))), .val (.int (1 : Int32))] [(.int (1 : Int32))])) (fun t_ k_ => XS.iload X34.here hx rfl (hb hby at_162) rfl k_) ?_
  refine own_by (T' := T34) (g' := (mkF m 167 #[.val (.int c0), .val (.int c1), .val (.int c2), .val (.int c3), .val (.int c4), .val (.int sh), .val (.ref b1), .val (.int of), .val (.int le), .val (.ref b18), .val (.int (own_int q23_4 q23_3 (((0 : Int32) + (5 : Int32))))), .val (.int (1 : Int32)), .val (.int (own_int q29_4 q29_3 (of + le))), .val (.int (1 : Int32))] [])) (fun t_ k_ => XS.ifNo X34.here hx rfl (hb hby at_164) rfl ((if0 _ _).trans (feq ((by decide) : ¬ ((1 : Int32) = (0 : Int32)))).1) k_) ?_
  refine own_by (T' := T34) (g' := (mkF m 169 #[.val (.int c0), .val (.int c1), .val (.int c2), .val (.int c3), .val (.int c4), .val (.int sh), .val (.ref b1), .val (.int of), .val (.int le), .val (.ref b18), .val (.int (own_int q23_4 q23_3 (((0 : Int32) + (5 : Int32))))), .val (.int (1 : Int32)), .val (.int (own_int q29_4 q29_3 (of + le))), .val (.int (1 : Int32))] [(.int (1 : Int32))])) (fun t_ k_ => XS.iload X34.here hx rfl (hb hby at_167) rfl k_) ?_
  refine own_by (T' := T34) (g' := (mkF m 172 #[.val (.int c0), .val (.int c1), .val (.int c2), .val (.int c3), .val (.int c4), .val (.int sh), .val (.ref b1), .val (.int of), .val (.int le), .val (.ref b18), .val (.int (own_int q23_4 q23_3 (((0 : Int32) + (5 : Int32))))), .val (.int (1 : Int32)), .val (.int (own_int q29_4 q29_3 (of + le))), .val (.int (1 : Int32))] [])) (fun t_ k_ => XS.ifNo X34.here hx rfl (hb hby at_169) rfl ((if0 _ _).trans (feq ((by decide) : ¬ ((1 : Int32) = (0 : Int32)))).1) k_) ?_
  refine own_by (T' := T34) (g' := (mkF m 173 #[.val (.int c0), .val (.int c1), .val (.int c2), .val (.int c3), .val (.int c4), .val (.int sh), .val (.ref b1), .val (.int of), .val (.int le), .val (.ref b18), .val (.int (own_int q23_4 q23_3 (((0 : Int32) + (5 : Int32))))), .val (.int (1 : Int32)), .val (.int (own_int q29_4 q29_3 (of + le))), .val (.int (1 : Int32))] [(.int (1 : Int32))])) (fun t_ k_ => XS.iconst X34.here hx rfl (hb hby at_172) k_) ?_
  refine own_by (T' := T34) (g' := (mkF m 177 #[.val (.int c0), .val (.int c1), .val (.int c2), .val (.int c3), .val (.int c4), .val (.int sh), .val (.ref b1), .val (.int of), .val (.int le), .val (.ref b18), .val (.int (own_int q23_4 q23_3 (((0 : Int32) + (5 : Int32))))), .val (.int (1 : Int32)), .val (.int (own_int q29_4 q29_3 (of + le))), .val (.int (1 : Int32))] [(.int (1 : Int32))])) (fun t_ k_ => XS.goto X34.here hx rfl (pc0 := 173) (pc' := 177) rfl (hb hby at_173) (by decide) (by decide) k_) ?_
  refine own_retN X34 hx (t := .boolean) Bd.returns hlk (by simp) (hb hby at_177) (by decide) (by decide) (v := (1 : Int32)) rfl ?_
  rw [e34]
  exact ⟨rfl, N34⟩
set_option maxRecDepth 65536 in
set_option maxHeartbeats 40000000 in
theorem own_comes {Post : Tables → Env → Array Value → State → Outcome → State → Prop} (hpost : ∀ tb e args s v u, (limb_1_1.after args s (.returned v) u = true ∧ limb_1_2.after args s (.returned v) u = true ∧ True) → FrameEnd s (.returned v) u (Jvm.fieldLocs frame_1_writes args s ++ Jvm.arrayLocs frame_1_arrays args s ++ Jvm.staticLocs frame_1_statics s) 16 128 → Post tb e args s (.returned v) u) :
    ArmFor flags0 classFile x code maxLocals ret World_1 tables_1 room_1 Calls_1 rest_1 Pre_1 Post := by
  intro l hfl _ _ p e ha hc hk s m args below hf hA hF happ hP
  obtain ⟨hcalls, hrest, hpre⟩ := hP
  obtain ⟨-, -, -, hnamed, -, -, -, hat⟩ := (Spec.applies_iff hf).mp happ
  obtain ⟨hg, hn⟩ := and_e (Cond.before_iff.mp (show (Jvm.Cond.and given_1 narrow_1).before args s = true from hpre))
  obtain ⟨g0, gr0⟩ := and_e hg
  obtain ⟨w0, w1, w2, w3, w4, w5, rfl⟩ : ∃ w0 w1 w2 w3 w4 w5 : Value, args = #[w0, w1, w2, w3, w4, w5] := by
    have hs : args.size = 6 := by simpa [Cond.value, given_1] using g0
    obtain ⟨L⟩ := args
    match L, hs with
    | [w0, w1, w2, w3, w4, w5], _ => exact ⟨w0, w1, w2, w3, w4, w5, rfl⟩
  have hw := fun d (hd : d ∈ tables_1) => atoms_spec (ws := Jvm.Cond.code x code maxLocals ret :: tables_1) hat d (List.mem_cons_of_mem _ hd)
  have hfit : Fit s := fun {y c} hc i hi => by
    obtain ⟨ha, rfl⟩ := Array.getElem?_eq_some_iff.mp hc
    have q := List.all_eq_true.mp ((Array.all_eq_true_iff_forall_mem.mp hF) _ (Array.getElem_mem ha)) i (List.mem_range.mpr hi)
    simpa [Array.getElem?_eq_getElem hi] using q
  obtain ⟨q0, gr1⟩ := and_e gr0
  obtain ⟨q1, gr2⟩ := and_e gr1
  obtain ⟨q2, gr3⟩ := and_e gr2
  obtain ⟨q3, gr4⟩ := and_e gr3
  obtain ⟨q4, gr5⟩ := and_e gr4
  obtain ⟨i0, ei0⟩ := is_v q0
  obtain rfl : w0 = (.int i0) := Option.some.inj ei0
  obtain ⟨i1, ei1⟩ := is_v q1
  obtain rfl : w1 = (.int i1) := Option.some.inj ei1
  obtain ⟨i2, ei2⟩ := is_v q2
  obtain rfl : w2 = (.int i2) := Option.some.inj ei2
  obtain ⟨i3, ei3⟩ := is_v q3
  obtain rfl : w3 = (.int i3) := Option.some.inj ei3
  obtain ⟨i4, ei4⟩ := is_v q4
  obtain rfl : w4 = (.int i4) := Option.some.inj ei4
  obtain ⟨i5, ei5⟩ := is_v gr5
  obtain rfl : w5 = (.int i5) := Option.some.inj ei5
  obtain ⟨n, o, h1, h2, h3, _, L, rfl, ⟨rfl, N⟩, hq⟩ := own_rm_law l s _ hw tables_1 i0 i1 i2 i3 i4 i5  s.heap s.heap.size (Nat.le_refl _)  p e ha hc hk s m _ below hf ((Spec.applies_iff_loose hf).mp happ).1 ⟨rfl, State.Warmed39.refl s, rfl⟩ trivial
  refine ⟨n, _, h1, h2, h3, hpost _ _ _ _ _ _ ⟨Cond.after_iff.mpr rfl, Cond.after_iff.mpr (eq_i res_at (Term.int_eval (1)) rfl), trivial⟩ ⟨hq.1, hq.2.1, (hq.2.2.sift fun y hy => Or.inr (N y hy)).mono (by decide) (by decide)⟩⟩
theorem main_1_1 : Claimed_1_1 := own_comes fun _ _ _ _ _ _ h hF => ⟨h.1, hF⟩
theorem main_1_2 : Claimed_1_2 := own_comes fun _ _ _ _ _ _ h hF => ⟨h.2.1, hF⟩
end Jvm.Pilot.@@N@@
namespace Jvm.Pilot.@@N@@
open Jvm Jvm.ClassFile Sem Op Lib Jvm.Free Jvm.Stand Jvm.Pilot.@@N@@.Jvm.D
/-! MADE BY PROGRAM (witnessworld.py) out of the Statement's table words and the real class files: 12 classes; the members and pool entries that the words name. The judged class is class 1, her method 4. -/
namespace start1
open Jvm.ClassFile
def u (s : String) : CpInfo := .utf8 (stringToUtf16 s)
/-- a pool by its gaps: so many unusable entries, then the entry; so many at the end -/
def gap : Nat → List CpInfo → List CpInfo
  | 0, r => r
  | n + 1, r => .unusable :: gap n r
def poolList (es : List (Nat × CpInfo)) (last : Nat) : List CpInfo := es.foldr (fun e r => gap e.1 (e.2 :: r)) (gap last [])
def pool (es : List (Nat × CpInfo)) (last : Nat) : Array CpInfo := ⟨poolList es last⟩
def fileOf (pool : Array CpInfo) (this : Nat) (attrs : Array Attribute := #[]) (ms : Array MethodInfo := #[]) (fl : Nat := 33) (sup : Nat := 0) (ifs : Array Nat := #[]) (fds : Array FieldInfo := #[]) : ClassFile where
  minorVersion := 0
  majorVersion := 65
  constantPool := pool
  accessFlags := fl
  thisClass := this
  superClass := sup
  interfaces := ifs
  fields := fds
  methods := ms
  attributes := attrs
def plain (name : String) (sup : Option ClassId) : Class where
  name := name
  kind := .ordinary
  loader := none
  accessFlags := 33
  super := sup
  interfaces := #[]
  cf := none
  fields := #[]
  methods := #[]
  instanceTypes := #[]
  staticTypes := #[]
  resolved := #[]
  callSites := []
  init := .initialized
  statics := none
  mirror := none

def pool0 : Array CpInfo := pool [(5, u "<init>"), (0, u "()V"), (1, .class_ 10), (1, u "java/lang/Object")] 113

def k0c0 : Code := { maxStack := 0, maxLocals := 1, code := object_method_1_code, exceptionTable := #[], attributes := #[] }
def k0m0 : Method := { name := "<init>", desc := "()V", sig := { parameters := [], returnType := none }, accessFlags := 1, code := some k0c0 }
/-- java/lang/Object -/
def k0 : Class := { plain "java/lang/Object" none with
  accessFlags := 33
  interfaces := #[]
  cf := some (fileOf pool0 8 #[] #[{ accessFlags := 1, nameIndex := 5, descriptorIndex := 6, attributes := #[] }] 33 0 #[] #[])
  fields := #[]
  methods := #[k0m0]
  instanceTypes := #[]
  staticTypes := #[]
  resolved := Array.replicate 124 none
  statics := none }

def pool1 : Array CpInfo := pool [(2, .class_ 4), (0, .nameAndType 5 6), (0, u "java/lang/Object"), (0, u "<init>"), (0, u "()V"), (0, .methodref 8 9), (0, .class_ 10), (0, .nameAndType 11 12), (0, u "com/example/enumconv/enumconv/core/ReadingIsIntegerPinLaw"), (0, u "bad"), (0, u "(C)Z"), (0, .methodref 8 14), (0, .nameAndType 15 16), (0, u "hit"), (0, u "([CIII)Z"), (0, .class_ 18), (0, u "com/example/enumconv/enumconv/core/Decimal$Reading"), (0, .methodref 17 3), (0, .methodref 17 21), (0, .nameAndType 22 23), (0, u "read"), (0, u "([CII)Lcom/example/enumconv/enumconv/core/Decimal$Reading;"), (0, .methodref 17 25), (0, .nameAndType 26 27), (0, u "isInteger"), (0, u "()Z"), (0, .methodref 8 29), (0, .nameAndType 30 31), (0, u "expected"), (0, u "([CII)Z"), (3, u "law"), (0, u "(IIIIII)Z")] 8

def k1m0 : Method := { name := "<init>", desc := "()V", sig := { parameters := [], returnType := none }, accessFlags := 1, code := none }
def k1c1 : Code := { maxStack := 2, maxLocals := 1, code := method_2_code, exceptionTable := #[], attributes := #[] }
def k1m1 : Method := { name := "bad", desc := "(C)Z", sig := { parameters := [.char], returnType := some .boolean }, accessFlags := 10, code := some k1c1 }
def k1c2 : Code := { maxStack := 3, maxLocals := 4, code := method_3_code, exceptionTable := #[], attributes := #[] }
def k1m2 : Method := { name := "hit", desc := "([CIII)Z", sig := { parameters := [(.array .char), .int, .int, .int], returnType := some .boolean }, accessFlags := 10, code := some k1c2 }
def k1c3 : Code := { maxStack := 4, maxLocals := 3, code := method_4_code, exceptionTable := #[], attributes := #[] }
def k1m3 : Method := { name := "expected", desc := "([CII)Z", sig := { parameters := [(.array .char), .int, .int], returnType := some .boolean }, accessFlags := 10, code := some k1c3 }
def k1c4 : Code := { maxStack := 4, maxLocals := 14, code := code, exceptionTable := #[], attributes := #[] }
def k1m4 : Method := { name := "law", desc := "(IIIIII)Z", sig := { parameters := [.int, .int, .int, .int, .int, .int], returnType := some .boolean }, accessFlags := 9, code := some k1c4 }
/-- com/example/enumconv/enumconv/core/ReadingIsIntegerPinLaw -/
def k1 : Class := { plain "com/example/enumconv/enumconv/core/ReadingIsIntegerPinLaw" (some 0) with
  accessFlags := 49
  interfaces := #[]
  cf := some (fileOf pool1 8 #[] #[{ accessFlags := 1, nameIndex := 5, descriptorIndex := 6, attributes := #[] }, { accessFlags := 10, nameIndex := 11, descriptorIndex := 12, attributes := #[] }, { accessFlags := 10, nameIndex := 15, descriptorIndex := 16, attributes := #[] }, { accessFlags := 10, nameIndex := 30, descriptorIndex := 31, attributes := #[] }, { accessFlags := 9, nameIndex := 35, descriptorIndex := 36, attributes := #[] }] 49 2 #[] #[])
  fields := #[]
  methods := #[k1m0, k1m1, k1m2, k1m3, k1m4]
  instanceTypes := #[]
  staticTypes := #[]
  resolved := Array.replicate 45 none
  statics := none }

def pool2 : Array CpInfo := pool [(1, .class_ 2), (0, u "com/example/enumconv/enumconv/core/Decimal"), (0, .methodref 4 5), (0, .class_ 6), (0, .nameAndType 7 8), (0, u "java/lang/Object"), (0, u "<init>"), (0, u "()V"), (0, .class_ 10), (0, u "com/example/enumconv/enumconv/core/Decimal$Reading"), (13, u "read"), (0, u "([CII)Lcom/example/enumconv/enumconv/core/Decimal$Reading;"), (0, .fieldref 9 27), (0, .nameAndType 28 29), (0, u "text"), (0, u "[C"), (0, .fieldref 9 31), (0, .nameAndType 32 33), (0, u "start"), (0, u "I"), (0, .fieldref 9 35), (0, .nameAndType 36 33), (0, u "stop"), (0, .fieldref 9 38), (0, .nameAndType 39 40), (0, u "negative"), (0, u "Z"), (0, .fieldref 9 42), (0, .nameAndType 43 33), (0, u "digitsAt"), (0, .fieldref 9 45), (0, .nameAndType 46 33), (0, u "end"), (0, .fieldref 9 48), (0, .nameAndType 49 33), (0, u "point"), (0, .fieldref 9 51), (0, .nameAndType 52 33), (0, u "first"), (0, .methodref 9 54), (0, .nameAndType 55 56), (0, u "digit"), (0, u "(I)C"), (0, .fieldref 9 58), (0, .nameAndType 59 33), (0, u "last"), (0, .methodref 61 62), (0, .class_ 63), (0, .nameAndType 64 65), (0, u "java/lang/Math"), (0, u "min"), (0, u "(II)I"), (0, .fieldref 9 67), (0, .nameAndType 68 33), (0, u "exponentAt"), (0, .fieldref 9 70), (0, .nameAndType 71 40), (0, u "negativeExponent"), (3, u "()Z"), (84, u "isInteger")] 7

def k2c0 : Code := { maxStack := 1, maxLocals := 1, code := prog_3_method_1_code, exceptionTable := #[], attributes := #[] }
def k2m0 : Method := { name := "<init>", desc := "()V", sig := { parameters := [], returnType := none }, accessFlags := 0, code := some k2c0 }
def k2c1 : Code := { maxStack := 3, maxLocals := 5, code := prog_3_method_3_code, exceptionTable := #[], attributes := #[] }
def k2m1 : Method := { name := "read", desc := "([CII)Lcom/example/enumconv/enumconv/core/Decimal$Reading;", sig := { parameters := [(.array .char), .int, .int], returnType := some (.object "com/example/enumconv/enumconv/core/Decimal$Reading") }, accessFlags := 0, code := some k2c1 }
def k2c2 : Code := { maxStack := 2, maxLocals := 1, code := prog_3_method_4_code, exceptionTable := #[], attributes := #[] }
def k2m2 : Method := { name := "isInteger", desc := "()Z", sig := { parameters := [], returnType := some .boolean }, accessFlags := 0, code := some k2c2 }
def k2c3 : Code := { maxStack := 3, maxLocals := 3, code := prog_3_method_10_code, exceptionTable := #[], attributes := #[] }
def k2m3 : Method := { name := "digit", desc := "(I)C", sig := { parameters := [.int], returnType := some .char }, accessFlags := 2, code := some k2c3 }
/-- com/example/enumconv/enumconv/core/Decimal$Reading -/
def k2 : Class := { plain "com/example/enumconv/enumconv/core/Decimal$Reading" (some 0) with
  accessFlags := 48
  interfaces := #[]
  cf := some (fileOf pool2 9 #[.nestHost 1] #[{ accessFlags := 0, nameIndex := 7, descriptorIndex := 8, attributes := #[] }, { accessFlags := 0, nameIndex := 24, descriptorIndex := 25, attributes := #[] }, { accessFlags := 0, nameIndex := 160, descriptorIndex := 75, attributes := #[] }, { accessFlags := 2, nameIndex := 55, descriptorIndex := 56, attributes := #[] }] 48 4 #[] #[{ accessFlags := 2, nameIndex := 28, descriptorIndex := 29, attributes := #[] }, { accessFlags := 2, nameIndex := 32, descriptorIndex := 33, attributes := #[] }, { accessFlags := 2, nameIndex := 36, descriptorIndex := 33, attributes := #[] }, { accessFlags := 2, nameIndex := 39, descriptorIndex := 40, attributes := #[] }, { accessFlags := 2, nameIndex := 43, descriptorIndex := 33, attributes := #[] }, { accessFlags := 2, nameIndex := 46, descriptorIndex := 33, attributes := #[] }, { accessFlags := 2, nameIndex := 49, descriptorIndex := 33, attributes := #[] }, { accessFlags := 2, nameIndex := 52, descriptorIndex := 33, attributes := #[] }, { accessFlags := 2, nameIndex := 59, descriptorIndex := 33, attributes := #[] }, { accessFlags := 2, nameIndex := 68, descriptorIndex := 33, attributes := #[] }, { accessFlags := 2, nameIndex := 71, descriptorIndex := 40, attributes := #[] }])
  fields := #[{ name := "text", type := (.array .char), accessFlags := 2, slot := 0, constantValue := 0 }, { name := "start", type := .int, accessFlags := 2, slot := 1, constantValue := 0 }, { name := "stop", type := .int, accessFlags := 2, slot := 2, constantValue := 0 }, { name := "negative", type := .boolean, accessFlags := 2, slot := 3, constantValue := 0 }, { name := "digitsAt", type := .int, accessFlags := 2, slot := 4, constantValue := 0 }, { name := "end", type := .int, accessFlags := 2, slot := 5, constantValue := 0 }, { name := "point", type := .int, accessFlags := 2, slot := 6, constantValue := 0 }, { name := "first", type := .int, accessFlags := 2, slot := 7, constantValue := 0 }, { name := "last", type := .int, accessFlags := 2, slot := 8, constantValue := 0 }, { name := "exponentAt", type := .int, accessFlags := 2, slot := 9, constantValue := 0 }, { name := "negativeExponent", type := .boolean, accessFlags := 2, slot := 10, constantValue := 0 }]
  methods := #[k2m0, k2m1, k2m2, k2m3]
  instanceTypes := #[(.array .char), .int, .int, .boolean, .int, .int, .int, .int, .int, .int, .boolean]
  staticTypes := #[]
  resolved := Array.replicate 168 none
  statics := none }

def pool3 : Array CpInfo := pool [(1, .class_ 2), (0, u "java/lang/Math"), (1, .class_ 6), (1, u "java/lang/Object"), (0, u "<init>"), (0, u "()V"), (89, .class_ 100), (1, u "java/lang/Math$RandomNumberGeneratorHolder"), (71, u "negativeZeroFloatBits"), (0, u "J"), (2, u "negativeZeroDoubleBits"), (24, u "min"), (43, u "$assertionsDisabled"), (0, u "Z"), (88, u "(II)I"), (2, u "twoToTheDoubleScaleDown"), (0, u "D"), (4, u "twoToTheDoubleScaleUp"), (9, u "E"), (3, u "PI"), (2, u "TAU"), (2, u "DEGREES_TO_RADIANS"), (0, u "RADIANS_TO_DEGREES")] 94

def k3m0 : Method := { name := "<init>", desc := "()V", sig := { parameters := [], returnType := none }, accessFlags := 2, code := none }
def k3c1 : Code := { maxStack := 2, maxLocals := 2, code := jdk_29_method_69_code, exceptionTable := #[], attributes := #[] }
def k3m1 : Method := { name := "min", desc := "(II)I", sig := { parameters := [.int, .int], returnType := some .int }, accessFlags := 9, code := some k3c1 }
/-- java/lang/Math -/
def k3 : Class := { plain "java/lang/Math" (some 0) with
  accessFlags := 49
  interfaces := #[]
  cf := some (fileOf pool3 1 #[.nestMembers #[98]] #[{ accessFlags := 2, nameIndex := 7, descriptorIndex := 8, attributes := #[] }, { accessFlags := 9, nameIndex := 201, descriptorIndex := 335, attributes := #[] }] 49 4 #[] #[{ accessFlags := 25, nameIndex := 354, descriptorIndex := 339, attributes := #[] }, { accessFlags := 25, nameIndex := 358, descriptorIndex := 339, attributes := #[] }, { accessFlags := 25, nameIndex := 361, descriptorIndex := 339, attributes := #[] }, { accessFlags := 26, nameIndex := 364, descriptorIndex := 339, attributes := #[] }, { accessFlags := 26, nameIndex := 365, descriptorIndex := 339, attributes := #[] }, { accessFlags := 26, nameIndex := 172, descriptorIndex := 173, attributes := #[] }, { accessFlags := 26, nameIndex := 176, descriptorIndex := 173, attributes := #[] }, { accessFlags := 8, nameIndex := 344, descriptorIndex := 339, attributes := #[] }, { accessFlags := 8, nameIndex := 338, descriptorIndex := 339, attributes := #[] }, { accessFlags := 4120, nameIndex := 245, descriptorIndex := 246, attributes := #[] }])
  fields := #[{ name := "E", type := .double, accessFlags := 25, slot := 0, constantValue := 0 }, { name := "PI", type := .double, accessFlags := 25, slot := 1, constantValue := 0 }, { name := "TAU", type := .double, accessFlags := 25, slot := 2, constantValue := 0 }, { name := "DEGREES_TO_RADIANS", type := .double, accessFlags := 26, slot := 3, constantValue := 0 }, { name := "RADIANS_TO_DEGREES", type := .double, accessFlags := 26, slot := 4, constantValue := 0 }, { name := "negativeZeroFloatBits", type := .long, accessFlags := 26, slot := 5, constantValue := 0 }, { name := "negativeZeroDoubleBits", type := .long, accessFlags := 26, slot := 6, constantValue := 0 }, { name := "twoToTheDoubleScaleUp", type := .double, accessFlags := 8, slot := 7, constantValue := 0 }, { name := "twoToTheDoubleScaleDown", type := .double, accessFlags := 8, slot := 8, constantValue := 0 }, { name := "$assertionsDisabled", type := .boolean, accessFlags := 4120, slot := 9, constantValue := 0 }]
  methods := #[k3m0, k3m1]
  instanceTypes := #[]
  staticTypes := #[.double, .double, .double, .double, .double, .long, .long, .double, .double, .boolean]
  resolved := Array.replicate 460 none
  statics := none }

def pool4 : Array CpInfo := pool [(1, u "java/lang/Cloneable"), (0, .class_ 1), (0, u "java/lang/Object"), (0, .class_ 3)] 3

/-- java/lang/Cloneable -/
def k4 : Class := { plain "java/lang/Cloneable" (some 0) with
  accessFlags := 1537
  interfaces := #[]
  cf := some (fileOf pool4 2 #[] #[] 1537 4 #[] #[])
  fields := #[]
  methods := #[]
  instanceTypes := #[]
  staticTypes := #[]
  resolved := Array.replicate 8 none
  statics := none }

def pool5 : Array CpInfo := pool [(1, u "java/io/Serializable"), (0, .class_ 1), (0, u "java/lang/Object"), (0, .class_ 3)] 3

/-- java/io/Serializable -/
def k5 : Class := { plain "java/io/Serializable" (some 0) with
  accessFlags := 1537
  interfaces := #[]
  cf := some (fileOf pool5 2 #[] #[] 1537 4 #[] #[])
  fields := #[]
  methods := #[]
  instanceTypes := #[]
  staticTypes := #[]
  resolved := Array.replicate 8 none
  statics := none }

/-- the primitive byte -/
def k6 : Class := { plain "byte" none with kind := .primitive 'B', accessFlags := 0x411 }
/-- [B -/
def k7 : Class := { plain "[B" (some 0) with kind := .array 6 .byte, interfaces := #[4, 5], accessFlags := 1041 }

/-- the primitive char -/
def k8 : Class := { plain "char" none with kind := .primitive 'C', accessFlags := 0x411 }
/-- [C -/
def k9 : Class := { plain "[C" (some 0) with kind := .array 8 .char, interfaces := #[4, 5], accessFlags := 1041 }

/-- the primitive int -/
def k10 : Class := { plain "int" none with kind := .primitive 'I', accessFlags := 0x411 }
/-- [I -/
def k11 : Class := { plain "[I" (some 0) with kind := .array 10 .int, interfaces := #[4, 5], accessFlags := 1041 }

def heap : Heap := #[]
def classes : Array Class := #[k0, k1, k2, k3, k4, k5, k6, k7, k8, k9, k10, k11]
def interned : List (Array UInt16 × Addr) := []
def slotsUsed : Nat := 0
def theMethod : MethodId := ⟨1, 4⟩
def args0 : Array Value := #[.int 0, .int 1, .int 2, .int 3, .int 4, .int 5]
def aboutOver (below : List Frame) : State where
  vm := { classes := classes, interned := interned.toArray }
  heap := heap
  slotsUsed := slotsUsed
  threads := #[{ frames := .invoking theMethod args0 :: below }]
def below0 : List Frame := [.native { method := ⟨0, 0⟩, args := #[] }]
def about1 : State := aboutOver below0
def p0 : Program := .bare "" "" ""
def e0 : Env := launch0.env 0 0 0
theorem w_frames : about1.frames = Frame.invoking theMethod args0 :: below0 := rfl
set_option maxRecDepth 65536 in
theorem w_args : argsFit about1.vm theMethod args0 = true := by decide +kernel
set_option maxRecDepth 65536 in
theorem w_heap : heapFits about1 = true := by decide +kernel
set_option maxRecDepth 65536 in
theorem w_runnable : about1.curStatus? = some .runnable := by decide +kernel
set_option maxRecDepth 65536 in
theorem w_alone : about1.alone = true := by decide +kernel
set_option maxRecDepth 65536 in
theorem w_named : about1.methodNamed? x = some theMethod := by decide +kernel
set_option maxRecDepth 65536 in
theorem w_hears : about1.hears theMethod below0 = true := by decide +kernel
set_option maxRecDepth 65536 in
theorem w_ripe : about1.ripe theMethod args0 below0 = true := by decide +kernel
theorem w_running : about1.status = .running := rfl
set_option maxRecDepth 65536 in
theorem w_room : about1.hasRoom e0.platform room_1 = true :=
  launch0.hasRoom_least _ room_1 (by decide +kernel) (by decide +kernel) (by decide +kernel) (by decide +kernel) (by decide +kernel) (by decide +kernel)
theorem allAtoms_all (ts : List Jvm.Cond) (a : Array Jvm.Value) (st : Jvm.State) : (allAtoms ts).before a st = ts.all (fun c => c.before a st) := by
  induction ts with
  | nil => rfl
  | cons c t ih =>
    show (Jvm.Cond.and c (allAtoms t)).before a st = _
    rw [Jvm.Cond.before_and, ih, List.all_cons]
def words1 : List Jvm.Cond := Jvm.Cond.code x code maxLocals ret :: tables_1
/-- a 'code' word, met by the world's own term for the bytes: nothing is compared byte by byte -/
theorem code_word {y : MethodName} {bytes : ByteArray} {mx : Nat} {rt : Option FieldType} {a : Array Value} {s : State} {m : MethodId} {meth : Method} {c : Code} (h1 : s.methodNamed? y = some m) (h2 : s.vm.method? m = some meth) (h3 : meth.code = some c) (h4 : c.code = bytes)
    (h5 : (c.maxLocals == mx && c.exceptionTable.isEmpty && decide (c.maxStack ≤ mostOperands) && decide (meth.sig.returnType = rt) && !meth.locks && decide (parseMethodDescriptor y.desc = some meth.sig)) = true) : (Jvm.Cond.code y bytes mx rt).before a s = true := by
  simp only [Bool.and_eq_true, beq_iff_eq, Bool.not_eq_true', decide_eq_true_eq] at h5
  obtain ⟨⟨⟨⟨⟨g1, g2⟩, g3⟩, g4⟩, g5⟩, g6⟩ := h5
  simp [Cond.before, Cond.holds, Cond.value, h1, h2, h3, h4, g1, g2, g3, g4, g5, g6]
def isCode : Jvm.Cond → Bool
  | .code _ _ _ _ => true
  | _ => false
theorem all_split {L : List Jvm.Cond} {P : Jvm.Cond → Bool} (h1 : L.all (fun c => isCode c || P c) = true) (h2 : ∀ c ∈ L.filter isCode, P c = true) : L.all P = true := by
  refine List.all_eq_true.mpr fun c hc => ?_
  have h := List.all_eq_true.mp h1 c hc
  rcases Bool.eq_false_or_eq_true (isCode c) with hi | hi
  · exact h2 c (List.mem_filter.mpr ⟨hc, hi⟩)
  · simpa [hi] using h
set_option maxRecDepth 65536 in
theorem w_c0 : (Jvm.Cond.code x code maxLocals ret).before args0 about1 = true := code_word (m := ⟨1, 4⟩) (meth := k1m4) (c := k1c4) (by decide +kernel) rfl rfl rfl (by decide +kernel)
set_option maxRecDepth 65536 in
theorem w_c1 : (Jvm.Cond.code ({ cls := "com/example/enumconv/enumconv/core/Decimal$Reading", name := "<init>", desc := "()V" } : Jvm.MethodName) prog_3_method_1_code (1 : Nat) (Option.none : Option Jvm.ClassFile.FieldType)).before args0 about1 = true := code_word (m := ⟨2, 0⟩) (meth := k2m0) (c := k2c0) (by decide +kernel) rfl rfl rfl (by decide +kernel)
set_option maxRecDepth 65536 in
theorem w_c2 : (Jvm.Cond.code ({ cls := "java/lang/Object", name := "<init>", desc := "()V" } : Jvm.MethodName) object_method_1_code (1 : Nat) (Option.none : Option Jvm.ClassFile.FieldType)).before args0 about1 = true := code_word (m := ⟨0, 0⟩) (meth := k0m0) (c := k0c0) (by decide +kernel) rfl rfl rfl (by decide +kernel)
set_option maxRecDepth 65536 in
theorem w_c3 : (Jvm.Cond.code ({ cls := "com/example/enumconv/enumconv/core/Decimal$Reading", name := "read", desc := "([CII)Lcom/example/enumconv/enumconv/core/Decimal$Reading;" } : Jvm.MethodName) prog_3_method_3_code (5 : Nat) (Option.some (Jvm.ClassFile.FieldType.object "com/example/enumconv/enumconv/core/Decimal$Reading"))).before args0 about1 = true := code_word (m := ⟨2, 1⟩) (meth := k2m1) (c := k2c1) (by decide +kernel) rfl rfl rfl (by decide +kernel)
set_option maxRecDepth 65536 in
theorem w_c4 : (Jvm.Cond.code ({ cls := "com/example/enumconv/enumconv/core/Decimal$Reading", name := "digit", desc := "(I)C" } : Jvm.MethodName) prog_3_method_10_code (3 : Nat) (Option.some Jvm.ClassFile.FieldType.char)).before args0 about1 = true := code_word (m := ⟨2, 3⟩) (meth := k2m3) (c := k2c3) (by decide +kernel) rfl rfl rfl (by decide +kernel)
set_option maxRecDepth 65536 in
theorem w_c5 : (Jvm.Cond.code ({ cls := "java/lang/Math", name := "min", desc := "(II)I" } : Jvm.MethodName) jdk_29_method_69_code (2 : Nat) (Option.some Jvm.ClassFile.FieldType.int)).before args0 about1 = true := code_word (m := ⟨3, 1⟩) (meth := k3m1) (c := k3c1) (by decide +kernel) rfl rfl rfl (by decide +kernel)
set_option maxRecDepth 65536 in
theorem w_c6 : (Jvm.Cond.code ({ cls := "com/example/enumconv/enumconv/core/Decimal$Reading", name := "isInteger", desc := "()Z" } : Jvm.MethodName) prog_3_method_4_code (1 : Nat) (Option.some Jvm.ClassFile.FieldType.boolean)).before args0 about1 = true := code_word (m := ⟨2, 2⟩) (meth := k2m2) (c := k2c2) (by decide +kernel) rfl rfl rfl (by decide +kernel)
set_option maxRecDepth 65536 in
theorem w_c7 : (Jvm.Cond.code ({ cls := "com/example/enumconv/enumconv/core/ReadingIsIntegerPinLaw", name := "expected", desc := "([CII)Z" } : Jvm.MethodName) method_4_code (3 : Nat) (Option.some Jvm.ClassFile.FieldType.boolean)).before args0 about1 = true := code_word (m := ⟨1, 3⟩) (meth := k1m3) (c := k1c3) (by decide +kernel) rfl rfl rfl (by decide +kernel)
set_option maxRecDepth 65536 in
theorem w_c8 : (Jvm.Cond.code ({ cls := "com/example/enumconv/enumconv/core/ReadingIsIntegerPinLaw", name := "hit", desc := "([CIII)Z" } : Jvm.MethodName) method_3_code (4 : Nat) (Option.some Jvm.ClassFile.FieldType.boolean)).before args0 about1 = true := code_word (m := ⟨1, 2⟩) (meth := k1m2) (c := k1c2) (by decide +kernel) rfl rfl rfl (by decide +kernel)
set_option maxRecDepth 65536 in
theorem w_c9 : (Jvm.Cond.code ({ cls := "com/example/enumconv/enumconv/core/ReadingIsIntegerPinLaw", name := "bad", desc := "(C)Z" } : Jvm.MethodName) method_2_code (1 : Nat) (Option.some Jvm.ClassFile.FieldType.boolean)).before args0 about1 = true := code_word (m := ⟨1, 1⟩) (meth := k1m1) (c := k1c1) (by decide +kernel) rfl rfl rfl (by decide +kernel)
def codes1 : List Jvm.Cond := [Jvm.Cond.code x code maxLocals ret, Jvm.Cond.code ({ cls := "com/example/enumconv/enumconv/core/Decimal$Reading", name := "<init>", desc := "()V" } : Jvm.MethodName) prog_3_method_1_code (1 : Nat) (Option.none : Option Jvm.ClassFile.FieldType), Jvm.Cond.code ({ cls := "java/lang/Object", name := "<init>", desc := "()V" } : Jvm.MethodName) object_method_1_code (1 : Nat) (Option.none : Option Jvm.ClassFile.FieldType), Jvm.Cond.code ({ cls := "com/example/enumconv/enumconv/core/Decimal$Reading", name := "read", desc := "([CII)Lcom/example/enumconv/enumconv/core/Decimal$Reading;" } : Jvm.MethodName) prog_3_method_3_code (5 : Nat) (Option.some (Jvm.ClassFile.FieldType.object "com/example/enumconv/enumconv/core/Decimal$Reading")), Jvm.Cond.code ({ cls := "com/example/enumconv/enumconv/core/Decimal$Reading", name := "digit", desc := "(I)C" } : Jvm.MethodName) prog_3_method_10_code (3 : Nat) (Option.some Jvm.ClassFile.FieldType.char), Jvm.Cond.code ({ cls := "java/lang/Math", name := "min", desc := "(II)I" } : Jvm.MethodName) jdk_29_method_69_code (2 : Nat) (Option.some Jvm.ClassFile.FieldType.int), Jvm.Cond.code ({ cls := "com/example/enumconv/enumconv/core/Decimal$Reading", name := "isInteger", desc := "()Z" } : Jvm.MethodName) prog_3_method_4_code (1 : Nat) (Option.some Jvm.ClassFile.FieldType.boolean), Jvm.Cond.code ({ cls := "com/example/enumconv/enumconv/core/ReadingIsIntegerPinLaw", name := "expected", desc := "([CII)Z" } : Jvm.MethodName) method_4_code (3 : Nat) (Option.some Jvm.ClassFile.FieldType.boolean), Jvm.Cond.code ({ cls := "com/example/enumconv/enumconv/core/ReadingIsIntegerPinLaw", name := "hit", desc := "([CIII)Z" } : Jvm.MethodName) method_3_code (4 : Nat) (Option.some Jvm.ClassFile.FieldType.boolean), Jvm.Cond.code ({ cls := "com/example/enumconv/enumconv/core/ReadingIsIntegerPinLaw", name := "bad", desc := "(C)Z" } : Jvm.MethodName) method_2_code (1 : Nat) (Option.some Jvm.ClassFile.FieldType.boolean)]
set_option maxRecDepth 65536 in
theorem codes_eq : words1.filter isCode = codes1 := rfl
theorem w_codes : ∀ c ∈ words1.filter isCode, c.before args0 about1 = true := by
  rw [codes_eq]
  intro c hc
  simp only [codes1, List.mem_cons, List.not_mem_nil, or_false] at hc
  rcases hc with rfl | rfl | rfl | rfl | rfl | rfl | rfl | rfl | rfl | rfl
  · exact w_c0
  · exact w_c1
  · exact w_c2
  · exact w_c3
  · exact w_c4
  · exact w_c5
  · exact w_c6
  · exact w_c7
  · exact w_c8
  · exact w_c9
set_option maxRecDepth 65536 in
theorem w_t1 : (words1.take 24).all (fun c => isCode c || c.before args0 about1) = true := by decide +kernel
set_option maxRecDepth 65536 in
theorem w_t2 : ((words1.drop 24).take 24).all (fun c => isCode c || c.before args0 about1) = true := by decide +kernel
set_option maxRecDepth 65536 in
theorem w_t3 : ((words1.drop 24).drop 24).all (fun c => isCode c || c.before args0 about1) = true := by decide +kernel
theorem w_tables : (allAtoms (Jvm.Cond.code x code maxLocals ret :: tables_1)).before args0 about1 = true := by
  rw [allAtoms_all]
  show words1.all (fun c => c.before args0 about1) = true
  refine all_split ?_ w_codes
  rw [← List.take_append_drop 24 words1, List.all_append, w_t1, ← List.take_append_drop 24 (words1.drop 24), List.all_append, w_t2, w_t3]
  rfl
set_option maxRecDepth 65536 in
theorem w_case : (Jvm.Cond.and given_1 narrow_1).before args0 about1 = true := by decide +kernel
theorem w_applies : (headSpec (Jvm.Cond.code x code maxLocals ret :: tables_1) room_1).applies x e0.platform about1 = true :=
  (Spec.applies_iff w_frames).mpr ⟨w_running, w_runnable, w_alone, w_named, w_hears, w_ripe, w_room, w_tables⟩
theorem atStart : AtStart classFile x code maxLocals ret World_1 tables_1 room_1 Calls_1 rest_1 Pre_1 launch0 p0 e0 about1 theMethod args0 below0 :=
  ⟨lists_1, trivial, launch0.admits_env _ _ _, launch0.least_env, fairChoices_fair.cas, fairChoices_fair.clock, w_frames, w_args, w_heap, w_applies, trivial, trivial, w_case⟩
end start1
theorem witness_1 : WitnessClaimed_1 := ⟨start1.p0, start1.e0, start1.about1, start1.theMethod, start1.args0, start1.below0, start1.atStart⟩
end Jvm.Pilot.@@N@@
